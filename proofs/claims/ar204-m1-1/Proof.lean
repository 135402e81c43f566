import JvmDerived
import JvmDerived.Pilot.@@N@@Statement
import JvmDerived.Pilot.@@N@@Code
set_option linter.unusedVariables false
set_option linter.unusedSimpArgs false
namespace Jvm.RoadKit
open Sem ClassFile Op Lib Jvm.Stand Jvm.Free Jvm.LawKit
section New
variable {p : Program} {l : Launch} {e : Env} {R : Room} {s : State} {m : MethodId} {args : Array Value} {below : List Frame} {meth : Method} {c : Code} {T : State} {locs : List Loc} {cells slots : Nat}
theorem retI (X : Stand p l e R s m args below meth c T locs cells slots) (hx : p.tables.exec = Jvm.exec) {pc : Nat} {Ls : Array Slot} {z : Int32} {rest : List Value} (hret : meth.sig.returnType = some .int) (hd : decode c.code pc = .ok (.ireturn, 1)) {fs : List Frame}
    (hl : ∀ (f : JFrame) (acts : List Action), f.method = m → f.locked = none → f.entered = [] → (doReturn e (T.setTop f) acts (some (.int z))).1 = T.setFrames fs) : Steps p.tables e below (T.setTop (mkF m pc Ls (.int z :: rest))) (T.setFrames fs) := by
  have hm' : T.vm.method? m = some meth := X.method'
  have hn : narrow .int (.int z) = .int z := rfl
  show Steps p.tables e below (T.setTop { method := m, pc := pc, locals := Ls, stack := _ :: rest, locked := none }) _
  jvm_step X.here [X.here.top, hx, hd, hm', hret, hn]
  first | (intro acts; rw [hl _ acts rfl rfl rfl]) | rw [hl _ _ rfl rfl rfl]
  exact Steps.refl _
end New
end Jvm.RoadKit
namespace Jvm.Pilot.@@N@@
open Jvm Jvm.ClassFile Sem Op Lib Jvm.Free Jvm.Stand Jvm.LawKit Jvm.RoadKit Bundle Jvm.Pilot.@@N@@.Jvm.D
theorem d1_0 : decode prog_71_method_1_code 0 = .ok (.aload_n 0, 1) := by decide +kernel
theorem d1_1 : decode prog_71_method_1_code 1 = .ok (.invokespecial 1, 3) := by decide +kernel
theorem d1_4 : decode prog_71_method_1_code 4 = .ok (.aload_n 0, 1) := by decide +kernel
theorem d1_5 : decode prog_71_method_1_code 5 = .ok (.lload_n 1, 1) := by decide +kernel
theorem d1_6 : decode prog_71_method_1_code 6 = .ok (.putfield 7, 3) := by decide +kernel
theorem d1_9 : decode prog_71_method_1_code 9 = .ok (.return_, 1) := by decide +kernel
theorem pn_1 : plainName "com/example/exact_anchor/exactanchor/search/Budget" = true := by first | (simp [plainName, overriddenIn]; done) | decide +kernel
theorem ef_1 (m : MethodId) (x0 : Addr) (x1 : Int64) : entryFrame m #[(.ref x0), (.long x1)] 3 = mkF m 0 #[.val (.ref x0), .val (.long x1), .second] [] := by first | (simp [entryFrame, mkF, argsToLocals, Value.category]; done) | rfl
def Q1 (Z : State) (a1 : Addr) (q2 : Int64) (h0 : Heap) (n0 : Nat) (v : Option Value) (h : Heap) (L : List Loc) : Prop := v = none ∧ Fr n0 L ∧ Keep h0 h [a1] ∧ Exa Z h a1 "com/example/exact_anchor/exactanchor/search/Budget" ∧ Fld Z h a1 "com/example/exact_anchor/exactanchor/search/Budget" "limit" "J" (.long q2) ∧ Fld Z h a1 "com/example/exact_anchor/exactanchor/search/Budget" "spent" "J" (.long (0 : Int64)) ∧ Fld Z h a1 "com/example/exact_anchor/exactanchor/search/Budget" "refused" "Z" (.int (0 : Int32))
set_option maxRecDepth 65536 in
set_option maxHeartbeats 40000000 in
theorem rm1 (l : Launch) (Z : State) (a0 : Array Value) (hw : ∀ d ∈ tables_1, d.before a0 Z = true) (ws : List Jvm.Cond) (a1 : Addr) (q2 : Int64) (u_limit_a1 : Value) (h0 : Heap) (n0 : Nat) (Z0 : n0 ≤ h0.size) (E_a1 : Exa Z h0 a1 "com/example/exact_anchor/exactanchor/search/Budget") (F_limit_a1 : Fld Z h0 a1 "com/example/exact_anchor/exactanchor/search/Budget" "limit" "J" u_limit_a1) (FS : Fld Z h0 a1 "com/example/exact_anchor/exactanchor/search/Budget" "spent" "J" (.long (0 : Int64))) (FR : Fld Z h0 a1 "com/example/exact_anchor/exactanchor/search/Budget" "refused" "Z" (.int (0 : Int32))) (g_a1 : n0 ≤ a1) :
    MetFree l (⟨"com/example/exact_anchor/exactanchor/search/Budget", "<init>", "(J)V"⟩ : MethodName) (head1 (Jvm.Cond.code (⟨"com/example/exact_anchor/exactanchor/search/Budget", "<init>", "(J)V"⟩ : MethodName) prog_71_method_1_code 3 none :: ws) ({ frames := 1, cells := 0, slots := 0, locals := 12 } : Room)) (fun a U => a = #[(.ref a1), (.long q2)] ∧ Z.Warmed39 U.vm ∧ U.heap = h0) (fun _ _ _ _ _ => True) (fun _ U o U' => ∃ v L, o = .returned v ∧ Q1 Z a1 q2 h0 n0 v U'.heap L ∧ FrameEnd U o U' L ({ frames := 1, cells := 0, slots := 0, locals := 12 } : Room).cells ({ frames := 1, cells := 0, slots := 0, locals := 12 } : Room).slots) := by
  refine MetFree.of_bodySF (plainFor_of_name pn_1) hisR ?_
  intro p e s m args below meth c s₁ Bd hml0 hP hK
  obtain ⟨rfl, hZ, hh⟩ := hP
  have hx := Bd.exec
  have hby := Bd.bytes
  have hml : c.maxLocals = 3 := hml0
  have hown : s.vm.findClass "com/example/exact_anchor/exactanchor/search/Budget" = some m.cls := findClass_of_methodNamed Bd.named
  have hnm := (name_of_methodNamed Bd.named Bd.method).1
  have X0 : Stand p l e ({ frames := 1, cells := 0, slots := 0, locals := 12 } : Room) s m #[(.ref a1), (.long q2)] below meth c s₁ [] 0 0 := Stand.of_body Bd
  have e0 : s₁.heap = h0 := by rw [← hh, Bd.state]; rfl
  have N0 := Fr.nil n0
  have pre0 : ∀ t, Steps p.tables e below (s₁.setTop (mkF m 0 #[.val (.ref a1), .val (.long q2), .second] [])) t → Steps p.tables e below (s₁.setTop (entryFrame m #[(.ref a1), (.long q2)] 3)) t := fun t k => castTop (ef_1 m a1 q2) k
  -- 3. LAWS
  obtain ⟨T3, X3, e3, st3⟩ := initO X0 hx hZ hown (hw _ (List.mem_of_getElem? (i := 7) rfl)) (hw _ (List.mem_of_getElem? (i := 8) rfl)) (hw _ (List.mem_of_getElem? (i := 9) rfl)) e0 (g := (mkF m 1 #[.val (.ref a1), .val (.long q2), .second] [(.ref a1)])) rfl (by rw [hml]; rfl) rfl (hb hby d1_1) (by decide) (W := 0) (by show 2 * 0 + _ ≤ _; exact Nat.le_of_eq rfl) (by decide)
  obtain ⟨T4, h4, X4, e4, W4, st4⟩ := putF X3 hx hZ hown (host := "") (Or.inl (hw _ (List.mem_of_getElem? (i := 10) rfl))) Via.refl e3 F_limit_a1 E_a1 (Or.inr ⟨(hw _ (List.mem_of_getElem? (i := 11) rfl)), rfl, hnm⟩) (hw _ (List.mem_of_getElem? (i := 2) rfl)) (ty := .long) (by decide) rfl rfl (g := (mkF m 6 #[.val (.ref a1), .val (.long q2), .second] [(.long q2), (.ref a1)])) rfl rfl (hb hby d1_6)
  have Fw4 := F_limit_a1.same W4      -- the field now holds (.long q2)
  have K4 : Keep h0 h4 [a1] := (Keep.refl h0 [a1]).wr W4 (Or.inl (List.mem_of_getElem? (i := 0) rfl))
  have N4 := Fr.snoc X4 N0 g_a1
  obtain ⟨fs, hr, hrun, hended, hW, hsame⟩ := X4.leave (v := none) (fun _ => rfl)
  refine ⟨_, _, pre0 _ ?_, hrun, hended, _, _, rfl, ?_, ⟨_, rfl⟩, hW, hsame.mono (by decide) (by decide)⟩
  -- 4. STEPS
  · show Steps p.tables e below (s₁.setTop (mkF m 0 #[.val (.ref a1), .val (.long q2), .second] [])) _
    refine XS.aloadN X0.here hx rfl (hb hby d1_0) rfl rfl ?_
    show Steps p.tables e below (s₁.setTop (mkF m 1 #[.val (.ref a1), .val (.long q2), .second] [(.ref a1)])) _
    refine st3 _ ?_
    show Steps p.tables e below (T3.setTop (mkF m 4 #[.val (.ref a1), .val (.long q2), .second] [])) _
    refine XS.aloadN X3.here hx rfl (hb hby d1_4) rfl rfl ?_
    show Steps p.tables e below (T3.setTop (mkF m 5 #[.val (.ref a1), .val (.long q2), .second] [(.ref a1)])) _
    refine XS.lloadN X3.here hx rfl (hb hby d1_5) rfl ?_
    show Steps p.tables e below (T3.setTop (mkF m 6 #[.val (.ref a1), .val (.long q2), .second] [(.long q2), (.ref a1)])) _
    refine st4 _ ?_
    show Steps p.tables e below (T4.setTop (mkF m 9 #[.val (.ref a1), .val (.long q2), .second] [])) _
    exact X4.returnOut hx Bd.returns (hb hby d1_9) hr
  · show Q1 Z a1 q2 h0 n0 _ T4.heap _
    rw [e4]
    exact ⟨rfl, N4, K4, (E_a1.wr W4), Fw4, (FS.other W4 (Or.inr (Jvm.RoadKit.slot_ne (Or.inl (hw _ (List.mem_of_getElem? (i := 22) rfl))) (Or.inr (hw _ (List.mem_of_getElem? (i := 11) rfl))) (by decide) (t := .long) (t' := .long) (by decide) (by decide)))), (FR.other W4 (Or.inr (Jvm.RoadKit.slot_ne (Or.inl (hw _ (List.mem_of_getElem? (i := 34) rfl))) (Or.inr (hw _ (List.mem_of_getElem? (i := 11) rfl))) (by decide) (t := .boolean) (t' := .long) (by decide) (by decide))))⟩
theorem d3_0 : decode method_2_code 0 = .ok (.iload 4, 2) := by decide +kernel
theorem d3_2 : decode method_2_code 2 = .ok (.iconst 2, 1) := by decide +kernel
theorem d3_3 : decode method_2_code 3 = .ok (.if_icmp .ge 9, 3) := by decide +kernel
theorem d3_12 : decode method_2_code 12 = .ok (.iload 4, 2) := by decide +kernel
theorem d3_14 : decode method_2_code 14 = .ok (.iconst 2, 1) := by decide +kernel
theorem d3_15 : decode method_2_code 15 = .ok (.if_icmp .ne 5, 3) := by decide +kernel
theorem d3_20 : decode method_2_code 20 = .ok (.iload 4, 2) := by decide +kernel
theorem d3_22 : decode method_2_code 22 = .ok (.iconst 5, 1) := by decide +kernel
theorem d3_23 : decode method_2_code 23 = .ok (.isub, 1) := by decide +kernel
theorem d3_24 : decode method_2_code 24 = .ok (.i2l, 1) := by decide +kernel
theorem d3_25 : decode method_2_code 25 = .ok (.lstore 5, 2) := by decide +kernel
theorem d3_27 : decode method_2_code 27 = .ok (.lload_n 2, 1) := by decide +kernel
theorem d3_28 : decode method_2_code 28 = .ok (.lload 5, 2) := by decide +kernel
theorem d3_30 : decode method_2_code 30 = .ok (.ladd, 1) := by decide +kernel
theorem d3_31 : decode method_2_code 31 = .ok (.lstore 7, 2) := by decide +kernel
theorem d3_33 : decode method_2_code 33 = .ok (.lload 7, 2) := by decide +kernel
theorem d3_35 : decode method_2_code 35 = .ok (.lconst 0, 1) := by decide +kernel
theorem d3_36 : decode method_2_code 36 = .ok (.lcmp, 1) := by decide +kernel
theorem d3_37 : decode method_2_code 37 = .ok (.ifCond .ge 19, 3) := by decide +kernel
theorem d3_56 : decode method_2_code 56 = .ok (.lload 7, 2) := by decide +kernel
theorem d3_58 : decode method_2_code 58 = .ok (.lreturn, 1) := by decide +kernel
theorem pn_3 : plainName "com/example/exact_anchor/exactanchor/search/BudgetSpendPinLaw" = true := by first | (simp [plainName, overriddenIn]; done) | decide +kernel
theorem ef_3 (m : MethodId) (x0 : Int64) (x1 : Int64) (x2 : Int32) : entryFrame m #[(.long x0), (.long x1), (.int x2)] 9 = mkF m 0 #[.val (.long x0), .second, .val (.long x1), .second, .val (.int x2), .unset, .unset, .unset, .unset] [] := by first | (simp [entryFrame, mkF, argsToLocals, Value.category]; done) | rfl
theorem d3_40 : decode method_2_code 40 = .ok (.lload 5, 2) := by decide +kernel
theorem d3_42 : decode method_2_code 42 = .ok (.lconst 0, 1) := by decide +kernel
theorem d3_43 : decode method_2_code 43 = .ok (.lcmp, 1) := by decide +kernel
theorem d3_44 : decode method_2_code 44 = .ok (.ifCond .ge 7, 3) := by decide +kernel
theorem d3_51 : decode method_2_code 51 = .ok (.ldc2_w 9, 3) := by decide +kernel
theorem d3_54 : decode method_2_code 54 = .ok (.lstore 7, 2) := by decide +kernel
theorem d3_47 : decode method_2_code 47 = .ok (.lconst 0, 1) := by decide +kernel
theorem d3_48 : decode method_2_code 48 = .ok (.goto 6, 3) := by decide +kernel
theorem d3_18 : decode method_2_code 18 = .ok (.lconst 0, 1) := by decide +kernel
theorem d3_19 : decode method_2_code 19 = .ok (.lreturn, 1) := by decide +kernel
theorem d3_6 : decode method_2_code 6 = .ok (.lload_n 0, 1) := by decide +kernel
theorem d3_7 : decode method_2_code 7 = .ok (.ldc2_w 9, 3) := by decide +kernel
theorem d3_10 : decode method_2_code 10 = .ok (.land, 1) := by decide +kernel
theorem d3_11 : decode method_2_code 11 = .ok (.lreturn, 1) := by decide +kernel
def F3 (q1 : Int64) (q2 : Int64) (p3 : Int32) : Int64 := (if p3 < (2 : Int32) then (q1 &&& (9223372036854775807 : Int64)) else (if p3 = (2 : Int32) then (0 : Int64) else (if (lcmpW (q2 + ((p3 - (5 : Int32)).toInt64)) (0 : Int64)) < (0 : Int32) then (if (lcmpW ((p3 - (5 : Int32)).toInt64) (0 : Int64)) < (0 : Int32) then (0 : Int64) else (9223372036854775807 : Int64)) else (q2 + ((p3 - (5 : Int32)).toInt64)))))
def Q3 (Z : State) (q1 : Int64) (q2 : Int64) (p3 : Int32) (r : Int64) (h0 : Heap) (n0 : Nat) (v : Option Value) (h : Heap) (L : List Loc) : Prop := v = some (.long r) ∧ Fr n0 L ∧ h = h0
set_option maxRecDepth 65536 in
set_option maxHeartbeats 40000000 in
theorem rm3_ttt (l : Launch) (Z : State) (a0 : Array Value) (hw : ∀ d ∈ tables_1, d.before a0 Z = true) (ws : List Jvm.Cond) (q1 : Int64) (q2 : Int64) (p3 : Int32) (h0 : Heap) (n0 : Nat) (Z0 : n0 ≤ h0.size) (hc3 : ¬ (p3 < (2 : Int32))) (hc15 : ¬ (p3 = (2 : Int32))) (hc37 : ¬ ((lcmpW (q2 + ((p3 - (5 : Int32)).toInt64)) (0 : Int64)) < (0 : Int32))) :
    MetFree l (⟨"com/example/exact_anchor/exactanchor/search/BudgetSpendPinLaw", "pick", "(JJI)J"⟩ : MethodName) (head1 (Jvm.Cond.code (⟨"com/example/exact_anchor/exactanchor/search/BudgetSpendPinLaw", "pick", "(JJI)J"⟩ : MethodName) method_2_code 9 (some .long) :: ws) ({ frames := 0, cells := 0, slots := 0, locals := 0 } : Room)) (fun a U => a = #[(.long q1), (.long q2), (.int p3)] ∧ Z.Warmed39 U.vm ∧ U.heap = h0) (fun _ _ _ _ _ => True) (fun _ U o U' => ∃ v L, o = .returned v ∧ Q3 Z q1 q2 p3 ((q2 + ((p3 - (5 : Int32)).toInt64))) h0 n0 v U'.heap L ∧ FrameEnd U o U' L ({ frames := 0, cells := 0, slots := 0, locals := 0 } : Room).cells ({ frames := 0, cells := 0, slots := 0, locals := 0 } : Room).slots) := by
  refine MetFree.of_bodySF (plainFor_of_name pn_3) hisR ?_
  intro p e s m args below meth c s₁ Bd hml0 hP hK
  obtain ⟨rfl, hZ, hh⟩ := hP
  have hx := Bd.exec
  have hby := Bd.bytes
  have hml : c.maxLocals = 9 := hml0
  have hown : s.vm.findClass "com/example/exact_anchor/exactanchor/search/BudgetSpendPinLaw" = some m.cls := findClass_of_methodNamed Bd.named
  have hnm := (name_of_methodNamed Bd.named Bd.method).1
  have X0 : Stand p l e ({ frames := 0, cells := 0, slots := 0, locals := 0 } : Room) s m #[(.long q1), (.long q2), (.int p3)] below meth c s₁ [] 0 0 := Stand.of_body Bd
  have e0 : s₁.heap = h0 := by rw [← hh, Bd.state]; rfl
  have N0 := Fr.nil n0
  have pre0 : ∀ t, Steps p.tables e below (s₁.setTop (mkF m 0 #[.val (.long q1), .second, .val (.long q2), .second, .val (.int p3), .unset, .unset, .unset, .unset] [])) t → Steps p.tables e below (s₁.setTop (entryFrame m #[(.long q1), (.long q2), (.int p3)] 9)) t := fun t k => castTop (ef_3 m q1 q2 p3) k
  -- 3. LAWS

  obtain ⟨fs, hr, hrun, hended, hW, hsame⟩ := X0.leave (v := some (.long (q2 + ((p3 - (5 : Int32)).toInt64)))) (fun h => by rw [Bd.returns] at h; cases h)
  refine ⟨_, _, pre0 _ ?_, hrun, hended, _, _, rfl, ?_, ⟨_, rfl⟩, hW, hsame.mono (by decide) (by decide)⟩
  -- 4. STEPS
  · show Steps p.tables e below (s₁.setTop (mkF m 0 #[.val (.long q1), .second, .val (.long q2), .second, .val (.int p3), .unset, .unset, .unset, .unset] [])) _
    refine XS.iload X0.here hx rfl (hb hby d3_0) rfl ?_
    show Steps p.tables e below (s₁.setTop (mkF m 2 #[.val (.long q1), .second, .val (.long q2), .second, .val (.int p3), .unset, .unset, .unset, .unset] [(.int p3)])) _
    refine XS.iconst X0.here hx rfl (hb hby d3_2) ?_
    show Steps p.tables e below (s₁.setTop (mkF m 3 #[.val (.long q1), .second, .val (.long q2), .second, .val (.int p3), .unset, .unset, .unset, .unset] [(.int (2 : Int32)), (.int p3)])) _
    refine XS.icmpYes X0.here hx rfl (pc0 := 3) (pc' := 12) rfl (hb hby d3_3) rfl (flt hc3).2.1 (by decide) (by decide) ?_
    show Steps p.tables e below (s₁.setTop (mkF m 12 #[.val (.long q1), .second, .val (.long q2), .second, .val (.int p3), .unset, .unset, .unset, .unset] [])) _
    refine XS.iload X0.here hx rfl (hb hby d3_12) rfl ?_
    show Steps p.tables e below (s₁.setTop (mkF m 14 #[.val (.long q1), .second, .val (.long q2), .second, .val (.int p3), .unset, .unset, .unset, .unset] [(.int p3)])) _
    refine XS.iconst X0.here hx rfl (hb hby d3_14) ?_
    show Steps p.tables e below (s₁.setTop (mkF m 15 #[.val (.long q1), .second, .val (.long q2), .second, .val (.int p3), .unset, .unset, .unset, .unset] [(.int (2 : Int32)), (.int p3)])) _
    refine XS.icmpYes X0.here hx rfl (pc0 := 15) (pc' := 20) rfl (hb hby d3_15) rfl (feq hc15).2 (by decide) (by decide) ?_
    show Steps p.tables e below (s₁.setTop (mkF m 20 #[.val (.long q1), .second, .val (.long q2), .second, .val (.int p3), .unset, .unset, .unset, .unset] [])) _
    refine XS.iload X0.here hx rfl (hb hby d3_20) rfl ?_
    show Steps p.tables e below (s₁.setTop (mkF m 22 #[.val (.long q1), .second, .val (.long q2), .second, .val (.int p3), .unset, .unset, .unset, .unset] [(.int p3)])) _
    refine XS.iconst X0.here hx rfl (hb hby d3_22) ?_
    show Steps p.tables e below (s₁.setTop (mkF m 23 #[.val (.long q1), .second, .val (.long q2), .second, .val (.int p3), .unset, .unset, .unset, .unset] [(.int (5 : Int32)), (.int p3)])) _
    refine XS.isub X0.here hx rfl (hb hby d3_23) rfl ?_
    show Steps p.tables e below (s₁.setTop (mkF m 24 #[.val (.long q1), .second, .val (.long q2), .second, .val (.int p3), .unset, .unset, .unset, .unset] [(.int (p3 - (5 : Int32)))])) _
    refine XS.i2l X0.here hx rfl (hb hby d3_24) rfl ?_
    show Steps p.tables e below (s₁.setTop (mkF m 25 #[.val (.long q1), .second, .val (.long q2), .second, .val (.int p3), .unset, .unset, .unset, .unset] [(.long ((p3 - (5 : Int32)).toInt64))])) _
    refine XS.lstore X0.here hx rfl (hb hby d3_25) rfl (l' := #[.val (.long q1), .second, .val (.long q2), .second, .val (.int p3), .val (.long ((p3 - (5 : Int32)).toInt64)), .second, .unset, .unset]) rfl ?_
    show Steps p.tables e below (s₁.setTop (mkF m 27 #[.val (.long q1), .second, .val (.long q2), .second, .val (.int p3), .val (.long ((p3 - (5 : Int32)).toInt64)), .second, .unset, .unset] [])) _
    refine XS.lloadN X0.here hx rfl (hb hby d3_27) rfl ?_
    show Steps p.tables e below (s₁.setTop (mkF m 28 #[.val (.long q1), .second, .val (.long q2), .second, .val (.int p3), .val (.long ((p3 - (5 : Int32)).toInt64)), .second, .unset, .unset] [(.long q2)])) _
    refine XS.lload X0.here hx rfl (hb hby d3_28) rfl ?_
    show Steps p.tables e below (s₁.setTop (mkF m 30 #[.val (.long q1), .second, .val (.long q2), .second, .val (.int p3), .val (.long ((p3 - (5 : Int32)).toInt64)), .second, .unset, .unset] [(.long ((p3 - (5 : Int32)).toInt64)), (.long q2)])) _
    refine XS.ladd X0.here hx rfl (hb hby d3_30) rfl ?_
    show Steps p.tables e below (s₁.setTop (mkF m 31 #[.val (.long q1), .second, .val (.long q2), .second, .val (.int p3), .val (.long ((p3 - (5 : Int32)).toInt64)), .second, .unset, .unset] [(.long (q2 + ((p3 - (5 : Int32)).toInt64)))])) _
    refine XS.lstore X0.here hx rfl (hb hby d3_31) rfl (l' := #[.val (.long q1), .second, .val (.long q2), .second, .val (.int p3), .val (.long ((p3 - (5 : Int32)).toInt64)), .second, .val (.long (q2 + ((p3 - (5 : Int32)).toInt64))), .second]) rfl ?_
    show Steps p.tables e below (s₁.setTop (mkF m 33 #[.val (.long q1), .second, .val (.long q2), .second, .val (.int p3), .val (.long ((p3 - (5 : Int32)).toInt64)), .second, .val (.long (q2 + ((p3 - (5 : Int32)).toInt64))), .second] [])) _
    refine XS.lload X0.here hx rfl (hb hby d3_33) rfl ?_
    show Steps p.tables e below (s₁.setTop (mkF m 35 #[.val (.long q1), .second, .val (.long q2), .second, .val (.int p3), .val (.long ((p3 - (5 : Int32)).toInt64)), .second, .val (.long (q2 + ((p3 - (5 : Int32)).toInt64))), .second] [(.long (q2 + ((p3 - (5 : Int32)).toInt64)))])) _
    refine XS.lconst X0.here hx rfl (hb hby d3_35) ?_
    show Steps p.tables e below (s₁.setTop (mkF m 36 #[.val (.long q1), .second, .val (.long q2), .second, .val (.int p3), .val (.long ((p3 - (5 : Int32)).toInt64)), .second, .val (.long (q2 + ((p3 - (5 : Int32)).toInt64))), .second] [(.long (0 : Int64)), (.long (q2 + ((p3 - (5 : Int32)).toInt64)))])) _
    refine XS.lcmp X0.here hx rfl (hb hby d3_36) rfl ?_
    show Steps p.tables e below (s₁.setTop (mkF m 37 #[.val (.long q1), .second, .val (.long q2), .second, .val (.int p3), .val (.long ((p3 - (5 : Int32)).toInt64)), .second, .val (.long (q2 + ((p3 - (5 : Int32)).toInt64))), .second] [(.int (lcmpW (q2 + ((p3 - (5 : Int32)).toInt64)) (0 : Int64)))])) _
    refine XS.ifYes X0.here hx rfl (pc0 := 37) (pc' := 56) rfl (hb hby d3_37) rfl ((if0 _ _).trans (flt hc37).2.1) (by decide) (by decide) ?_
    show Steps p.tables e below (s₁.setTop (mkF m 56 #[.val (.long q1), .second, .val (.long q2), .second, .val (.int p3), .val (.long ((p3 - (5 : Int32)).toInt64)), .second, .val (.long (q2 + ((p3 - (5 : Int32)).toInt64))), .second] [])) _
    refine XS.lload X0.here hx rfl (hb hby d3_56) rfl ?_
    show Steps p.tables e below (s₁.setTop (mkF m 58 #[.val (.long q1), .second, .val (.long q2), .second, .val (.int p3), .val (.long ((p3 - (5 : Int32)).toInt64)), .second, .val (.long (q2 + ((p3 - (5 : Int32)).toInt64))), .second] [(.long (q2 + ((p3 - (5 : Int32)).toInt64)))])) _
    jvm_step X0.here [X0.here.top, hx, (hb hby d3_58), X0.method', Bd.returns, narrow]
    first | (intro acts; rw [hr _ acts rfl rfl rfl]) | rw [hr _ _ rfl rfl rfl]
    exact Steps.refl _
  · show Q3 Z q1 q2 p3 ((q2 + ((p3 - (5 : Int32)).toInt64))) h0 n0 _ s₁.heap _
    rw [e0]
    exact ⟨rfl, N0, rfl⟩
set_option maxRecDepth 65536 in
set_option maxHeartbeats 40000000 in
theorem rm3_ttft (l : Launch) (Z : State) (a0 : Array Value) (hw : ∀ d ∈ tables_1, d.before a0 Z = true) (ws : List Jvm.Cond) (q1 : Int64) (q2 : Int64) (p3 : Int32) (h0 : Heap) (n0 : Nat) (Z0 : n0 ≤ h0.size) (hc3 : ¬ (p3 < (2 : Int32))) (hc15 : ¬ (p3 = (2 : Int32))) (hc37 : (lcmpW (q2 + ((p3 - (5 : Int32)).toInt64)) (0 : Int64)) < (0 : Int32)) (hc44 : ¬ ((lcmpW ((p3 - (5 : Int32)).toInt64) (0 : Int64)) < (0 : Int32))) :
    MetFree l (⟨"com/example/exact_anchor/exactanchor/search/BudgetSpendPinLaw", "pick", "(JJI)J"⟩ : MethodName) (head1 (Jvm.Cond.code (⟨"com/example/exact_anchor/exactanchor/search/BudgetSpendPinLaw", "pick", "(JJI)J"⟩ : MethodName) method_2_code 9 (some .long) :: ws) ({ frames := 0, cells := 0, slots := 0, locals := 0 } : Room)) (fun a U => a = #[(.long q1), (.long q2), (.int p3)] ∧ Z.Warmed39 U.vm ∧ U.heap = h0) (fun _ _ _ _ _ => True) (fun _ U o U' => ∃ v L, o = .returned v ∧ Q3 Z q1 q2 p3 ((9223372036854775807 : Int64)) h0 n0 v U'.heap L ∧ FrameEnd U o U' L ({ frames := 0, cells := 0, slots := 0, locals := 0 } : Room).cells ({ frames := 0, cells := 0, slots := 0, locals := 0 } : Room).slots) := by
  refine MetFree.of_bodySF (plainFor_of_name pn_3) hisR ?_
  intro p e s m args below meth c s₁ Bd hml0 hP hK
  obtain ⟨rfl, hZ, hh⟩ := hP
  have hx := Bd.exec
  have hby := Bd.bytes
  have hml : c.maxLocals = 9 := hml0
  have hown : s.vm.findClass "com/example/exact_anchor/exactanchor/search/BudgetSpendPinLaw" = some m.cls := findClass_of_methodNamed Bd.named
  have hnm := (name_of_methodNamed Bd.named Bd.method).1
  have X0 : Stand p l e ({ frames := 0, cells := 0, slots := 0, locals := 0 } : Room) s m #[(.long q1), (.long q2), (.int p3)] below meth c s₁ [] 0 0 := Stand.of_body Bd
  have e0 : s₁.heap = h0 := by rw [← hh, Bd.state]; rfl
  have N0 := Fr.nil n0
  have pre0 : ∀ t, Steps p.tables e below (s₁.setTop (mkF m 0 #[.val (.long q1), .second, .val (.long q2), .second, .val (.int p3), .unset, .unset, .unset, .unset] [])) t → Steps p.tables e below (s₁.setTop (entryFrame m #[(.long q1), (.long q2), (.int p3)] 9)) t := fun t k => castTop (ef_3 m q1 q2 p3) k
  -- 3. LAWS

  obtain ⟨fs, hr, hrun, hended, hW, hsame⟩ := X0.leave (v := some (.long (9223372036854775807 : Int64))) (fun h => by rw [Bd.returns] at h; cases h)
  refine ⟨_, _, pre0 _ ?_, hrun, hended, _, _, rfl, ?_, ⟨_, rfl⟩, hW, hsame.mono (by decide) (by decide)⟩
  -- 4. STEPS
  · show Steps p.tables e below (s₁.setTop (mkF m 0 #[.val (.long q1), .second, .val (.long q2), .second, .val (.int p3), .unset, .unset, .unset, .unset] [])) _
    refine XS.iload X0.here hx rfl (hb hby d3_0) rfl ?_
    show Steps p.tables e below (s₁.setTop (mkF m 2 #[.val (.long q1), .second, .val (.long q2), .second, .val (.int p3), .unset, .unset, .unset, .unset] [(.int p3)])) _
    refine XS.iconst X0.here hx rfl (hb hby d3_2) ?_
    show Steps p.tables e below (s₁.setTop (mkF m 3 #[.val (.long q1), .second, .val (.long q2), .second, .val (.int p3), .unset, .unset, .unset, .unset] [(.int (2 : Int32)), (.int p3)])) _
    refine XS.icmpYes X0.here hx rfl (pc0 := 3) (pc' := 12) rfl (hb hby d3_3) rfl (flt hc3).2.1 (by decide) (by decide) ?_
    show Steps p.tables e below (s₁.setTop (mkF m 12 #[.val (.long q1), .second, .val (.long q2), .second, .val (.int p3), .unset, .unset, .unset, .unset] [])) _
    refine XS.iload X0.here hx rfl (hb hby d3_12) rfl ?_
    show Steps p.tables e below (s₁.setTop (mkF m 14 #[.val (.long q1), .second, .val (.long q2), .second, .val (.int p3), .unset, .unset, .unset, .unset] [(.int p3)])) _
    refine XS.iconst X0.here hx rfl (hb hby d3_14) ?_
    show Steps p.tables e below (s₁.setTop (mkF m 15 #[.val (.long q1), .second, .val (.long q2), .second, .val (.int p3), .unset, .unset, .unset, .unset] [(.int (2 : Int32)), (.int p3)])) _
    refine XS.icmpYes X0.here hx rfl (pc0 := 15) (pc' := 20) rfl (hb hby d3_15) rfl (feq hc15).2 (by decide) (by decide) ?_
    show Steps p.tables e below (s₁.setTop (mkF m 20 #[.val (.long q1), .second, .val (.long q2), .second, .val (.int p3), .unset, .unset, .unset, .unset] [])) _
    refine XS.iload X0.here hx rfl (hb hby d3_20) rfl ?_
    show Steps p.tables e below (s₁.setTop (mkF m 22 #[.val (.long q1), .second, .val (.long q2), .second, .val (.int p3), .unset, .unset, .unset, .unset] [(.int p3)])) _
    refine XS.iconst X0.here hx rfl (hb hby d3_22) ?_
    show Steps p.tables e below (s₁.setTop (mkF m 23 #[.val (.long q1), .second, .val (.long q2), .second, .val (.int p3), .unset, .unset, .unset, .unset] [(.int (5 : Int32)), (.int p3)])) _
    refine XS.isub X0.here hx rfl (hb hby d3_23) rfl ?_
    show Steps p.tables e below (s₁.setTop (mkF m 24 #[.val (.long q1), .second, .val (.long q2), .second, .val (.int p3), .unset, .unset, .unset, .unset] [(.int (p3 - (5 : Int32)))])) _
    refine XS.i2l X0.here hx rfl (hb hby d3_24) rfl ?_
    show Steps p.tables e below (s₁.setTop (mkF m 25 #[.val (.long q1), .second, .val (.long q2), .second, .val (.int p3), .unset, .unset, .unset, .unset] [(.long ((p3 - (5 : Int32)).toInt64))])) _
    refine XS.lstore X0.here hx rfl (hb hby d3_25) rfl (l' := #[.val (.long q1), .second, .val (.long q2), .second, .val (.int p3), .val (.long ((p3 - (5 : Int32)).toInt64)), .second, .unset, .unset]) rfl ?_
    show Steps p.tables e below (s₁.setTop (mkF m 27 #[.val (.long q1), .second, .val (.long q2), .second, .val (.int p3), .val (.long ((p3 - (5 : Int32)).toInt64)), .second, .unset, .unset] [])) _
    refine XS.lloadN X0.here hx rfl (hb hby d3_27) rfl ?_
    show Steps p.tables e below (s₁.setTop (mkF m 28 #[.val (.long q1), .second, .val (.long q2), .second, .val (.int p3), .val (.long ((p3 - (5 : Int32)).toInt64)), .second, .unset, .unset] [(.long q2)])) _
    refine XS.lload X0.here hx rfl (hb hby d3_28) rfl ?_
    show Steps p.tables e below (s₁.setTop (mkF m 30 #[.val (.long q1), .second, .val (.long q2), .second, .val (.int p3), .val (.long ((p3 - (5 : Int32)).toInt64)), .second, .unset, .unset] [(.long ((p3 - (5 : Int32)).toInt64)), (.long q2)])) _
    refine XS.ladd X0.here hx rfl (hb hby d3_30) rfl ?_
    show Steps p.tables e below (s₁.setTop (mkF m 31 #[.val (.long q1), .second, .val (.long q2), .second, .val (.int p3), .val (.long ((p3 - (5 : Int32)).toInt64)), .second, .unset, .unset] [(.long (q2 + ((p3 - (5 : Int32)).toInt64)))])) _
    refine XS.lstore X0.here hx rfl (hb hby d3_31) rfl (l' := #[.val (.long q1), .second, .val (.long q2), .second, .val (.int p3), .val (.long ((p3 - (5 : Int32)).toInt64)), .second, .val (.long (q2 + ((p3 - (5 : Int32)).toInt64))), .second]) rfl ?_
    show Steps p.tables e below (s₁.setTop (mkF m 33 #[.val (.long q1), .second, .val (.long q2), .second, .val (.int p3), .val (.long ((p3 - (5 : Int32)).toInt64)), .second, .val (.long (q2 + ((p3 - (5 : Int32)).toInt64))), .second] [])) _
    refine XS.lload X0.here hx rfl (hb hby d3_33) rfl ?_
    show Steps p.tables e below (s₁.setTop (mkF m 35 #[.val (.long q1), .second, .val (.long q2), .second, .val (.int p3), .val (.long ((p3 - (5 : Int32)).toInt64)), .second, .val (.long (q2 + ((p3 - (5 : Int32)).toInt64))), .second] [(.long (q2 + ((p3 - (5 : Int32)).toInt64)))])) _
    refine XS.lconst X0.here hx rfl (hb hby d3_35) ?_
    show Steps p.tables e below (s₁.setTop (mkF m 36 #[.val (.long q1), .second, .val (.long q2), .second, .val (.int p3), .val (.long ((p3 - (5 : Int32)).toInt64)), .second, .val (.long (q2 + ((p3 - (5 : Int32)).toInt64))), .second] [(.long (0 : Int64)), (.long (q2 + ((p3 - (5 : Int32)).toInt64)))])) _
    refine XS.lcmp X0.here hx rfl (hb hby d3_36) rfl ?_
    show Steps p.tables e below (s₁.setTop (mkF m 37 #[.val (.long q1), .second, .val (.long q2), .second, .val (.int p3), .val (.long ((p3 - (5 : Int32)).toInt64)), .second, .val (.long (q2 + ((p3 - (5 : Int32)).toInt64))), .second] [(.int (lcmpW (q2 + ((p3 - (5 : Int32)).toInt64)) (0 : Int64)))])) _
    refine XS.ifNo X0.here hx rfl (hb hby d3_37) rfl ((if0 _ _).trans (tlt hc37).2.1) ?_
    show Steps p.tables e below (s₁.setTop (mkF m 40 #[.val (.long q1), .second, .val (.long q2), .second, .val (.int p3), .val (.long ((p3 - (5 : Int32)).toInt64)), .second, .val (.long (q2 + ((p3 - (5 : Int32)).toInt64))), .second] [])) _
    refine XS.lload X0.here hx rfl (hb hby d3_40) rfl ?_
    show Steps p.tables e below (s₁.setTop (mkF m 42 #[.val (.long q1), .second, .val (.long q2), .second, .val (.int p3), .val (.long ((p3 - (5 : Int32)).toInt64)), .second, .val (.long (q2 + ((p3 - (5 : Int32)).toInt64))), .second] [(.long ((p3 - (5 : Int32)).toInt64))])) _
    refine XS.lconst X0.here hx rfl (hb hby d3_42) ?_
    show Steps p.tables e below (s₁.setTop (mkF m 43 #[.val (.long q1), .second, .val (.long q2), .second, .val (.int p3), .val (.long ((p3 - (5 : Int32)).toInt64)), .second, .val (.long (q2 + ((p3 - (5 : Int32)).toInt64))), .second] [(.long (0 : Int64)), (.long ((p3 - (5 : Int32)).toInt64))])) _
    refine XS.lcmp X0.here hx rfl (hb hby d3_43) rfl ?_
    show Steps p.tables e below (s₁.setTop (mkF m 44 #[.val (.long q1), .second, .val (.long q2), .second, .val (.int p3), .val (.long ((p3 - (5 : Int32)).toInt64)), .second, .val (.long (q2 + ((p3 - (5 : Int32)).toInt64))), .second] [(.int (lcmpW ((p3 - (5 : Int32)).toInt64) (0 : Int64)))])) _
    refine XS.ifYes X0.here hx rfl (pc0 := 44) (pc' := 51) rfl (hb hby d3_44) rfl ((if0 _ _).trans (flt hc44).2.1) (by decide) (by decide) ?_
    show Steps p.tables e below (s₁.setTop (mkF m 51 #[.val (.long q1), .second, .val (.long q2), .second, .val (.int p3), .val (.long ((p3 - (5 : Int32)).toInt64)), .second, .val (.long (q2 + ((p3 - (5 : Int32)).toInt64))), .second] [])) _
    refine X0.ldc2Long hx hown (mvT hZ (hw _ (List.mem_of_getElem? (i := 0) rfl))) (g := (mkF m 51 #[.val (.long q1), .second, .val (.long q2), .second, .val (.int p3), .val (.long ((p3 - (5 : Int32)).toInt64)), .second, .val (.long (q2 + ((p3 - (5 : Int32)).toInt64))), .second] [])) rfl (hb hby d3_51) _ ?_
    show Steps p.tables e below (s₁.setTop (mkF m 54 #[.val (.long q1), .second, .val (.long q2), .second, .val (.int p3), .val (.long ((p3 - (5 : Int32)).toInt64)), .second, .val (.long (q2 + ((p3 - (5 : Int32)).toInt64))), .second] [(.long (9223372036854775807 : Int64))])) _
    refine XS.lstore X0.here hx rfl (hb hby d3_54) rfl (l' := #[.val (.long q1), .second, .val (.long q2), .second, .val (.int p3), .val (.long ((p3 - (5 : Int32)).toInt64)), .second, .val (.long (9223372036854775807 : Int64)), .second]) rfl ?_
    show Steps p.tables e below (s₁.setTop (mkF m 56 #[.val (.long q1), .second, .val (.long q2), .second, .val (.int p3), .val (.long ((p3 - (5 : Int32)).toInt64)), .second, .val (.long (9223372036854775807 : Int64)), .second] [])) _
    refine XS.lload X0.here hx rfl (hb hby d3_56) rfl ?_
    show Steps p.tables e below (s₁.setTop (mkF m 58 #[.val (.long q1), .second, .val (.long q2), .second, .val (.int p3), .val (.long ((p3 - (5 : Int32)).toInt64)), .second, .val (.long (9223372036854775807 : Int64)), .second] [(.long (9223372036854775807 : Int64))])) _
    jvm_step X0.here [X0.here.top, hx, (hb hby d3_58), X0.method', Bd.returns, narrow]
    first | (intro acts; rw [hr _ acts rfl rfl rfl]) | rw [hr _ _ rfl rfl rfl]
    exact Steps.refl _
  · show Q3 Z q1 q2 p3 ((9223372036854775807 : Int64)) h0 n0 _ s₁.heap _
    rw [e0]
    exact ⟨rfl, N0, rfl⟩
set_option maxRecDepth 65536 in
set_option maxHeartbeats 40000000 in
theorem rm3_ttff (l : Launch) (Z : State) (a0 : Array Value) (hw : ∀ d ∈ tables_1, d.before a0 Z = true) (ws : List Jvm.Cond) (q1 : Int64) (q2 : Int64) (p3 : Int32) (h0 : Heap) (n0 : Nat) (Z0 : n0 ≤ h0.size) (hc3 : ¬ (p3 < (2 : Int32))) (hc15 : ¬ (p3 = (2 : Int32))) (hc37 : (lcmpW (q2 + ((p3 - (5 : Int32)).toInt64)) (0 : Int64)) < (0 : Int32)) (hc44 : (lcmpW ((p3 - (5 : Int32)).toInt64) (0 : Int64)) < (0 : Int32)) :
    MetFree l (⟨"com/example/exact_anchor/exactanchor/search/BudgetSpendPinLaw", "pick", "(JJI)J"⟩ : MethodName) (head1 (Jvm.Cond.code (⟨"com/example/exact_anchor/exactanchor/search/BudgetSpendPinLaw", "pick", "(JJI)J"⟩ : MethodName) method_2_code 9 (some .long) :: ws) ({ frames := 0, cells := 0, slots := 0, locals := 0 } : Room)) (fun a U => a = #[(.long q1), (.long q2), (.int p3)] ∧ Z.Warmed39 U.vm ∧ U.heap = h0) (fun _ _ _ _ _ => True) (fun _ U o U' => ∃ v L, o = .returned v ∧ Q3 Z q1 q2 p3 ((0 : Int64)) h0 n0 v U'.heap L ∧ FrameEnd U o U' L ({ frames := 0, cells := 0, slots := 0, locals := 0 } : Room).cells ({ frames := 0, cells := 0, slots := 0, locals := 0 } : Room).slots) := by
  refine MetFree.of_bodySF (plainFor_of_name pn_3) hisR ?_
  intro p e s m args below meth c s₁ Bd hml0 hP hK
  obtain ⟨rfl, hZ, hh⟩ := hP
  have hx := Bd.exec
  have hby := Bd.bytes
  have hml : c.maxLocals = 9 := hml0
  have hown : s.vm.findClass "com/example/exact_anchor/exactanchor/search/BudgetSpendPinLaw" = some m.cls := findClass_of_methodNamed Bd.named
  have hnm := (name_of_methodNamed Bd.named Bd.method).1
  have X0 : Stand p l e ({ frames := 0, cells := 0, slots := 0, locals := 0 } : Room) s m #[(.long q1), (.long q2), (.int p3)] below meth c s₁ [] 0 0 := Stand.of_body Bd
  have e0 : s₁.heap = h0 := by rw [← hh, Bd.state]; rfl
  have N0 := Fr.nil n0
  have pre0 : ∀ t, Steps p.tables e below (s₁.setTop (mkF m 0 #[.val (.long q1), .second, .val (.long q2), .second, .val (.int p3), .unset, .unset, .unset, .unset] [])) t → Steps p.tables e below (s₁.setTop (entryFrame m #[(.long q1), (.long q2), (.int p3)] 9)) t := fun t k => castTop (ef_3 m q1 q2 p3) k
  -- 3. LAWS

  obtain ⟨fs, hr, hrun, hended, hW, hsame⟩ := X0.leave (v := some (.long (0 : Int64))) (fun h => by rw [Bd.returns] at h; cases h)
  refine ⟨_, _, pre0 _ ?_, hrun, hended, _, _, rfl, ?_, ⟨_, rfl⟩, hW, hsame.mono (by decide) (by decide)⟩
  -- 4. STEPS
  · show Steps p.tables e below (s₁.setTop (mkF m 0 #[.val (.long q1), .second, .val (.long q2), .second, .val (.int p3), .unset, .unset, .unset, .unset] [])) _
    refine XS.iload X0.here hx rfl (hb hby d3_0) rfl ?_
    show Steps p.tables e below (s₁.setTop (mkF m 2 #[.val (.long q1), .second, .val (.long q2), .second, .val (.int p3), .unset, .unset, .unset, .unset] [(.int p3)])) _
    refine XS.iconst X0.here hx rfl (hb hby d3_2) ?_
    show Steps p.tables e below (s₁.setTop (mkF m 3 #[.val (.long q1), .second, .val (.long q2), .second, .val (.int p3), .unset, .unset, .unset, .unset] [(.int (2 : Int32)), (.int p3)])) _
    refine XS.icmpYes X0.here hx rfl (pc0 := 3) (pc' := 12) rfl (hb hby d3_3) rfl (flt hc3).2.1 (by decide) (by decide) ?_
    show Steps p.tables e below (s₁.setTop (mkF m 12 #[.val (.long q1), .second, .val (.long q2), .second, .val (.int p3), .unset, .unset, .unset, .unset] [])) _
    refine XS.iload X0.here hx rfl (hb hby d3_12) rfl ?_
    show Steps p.tables e below (s₁.setTop (mkF m 14 #[.val (.long q1), .second, .val (.long q2), .second, .val (.int p3), .unset, .unset, .unset, .unset] [(.int p3)])) _
    refine XS.iconst X0.here hx rfl (hb hby d3_14) ?_
    show Steps p.tables e below (s₁.setTop (mkF m 15 #[.val (.long q1), .second, .val (.long q2), .second, .val (.int p3), .unset, .unset, .unset, .unset] [(.int (2 : Int32)), (.int p3)])) _
    refine XS.icmpYes X0.here hx rfl (pc0 := 15) (pc' := 20) rfl (hb hby d3_15) rfl (feq hc15).2 (by decide) (by decide) ?_
    show Steps p.tables e below (s₁.setTop (mkF m 20 #[.val (.long q1), .second, .val (.long q2), .second, .val (.int p3), .unset, .unset, .unset, .unset] [])) _
    refine XS.iload X0.here hx rfl (hb hby d3_20) rfl ?_
    show Steps p.tables e below (s₁.setTop (mkF m 22 #[.val (.long q1), .second, .val (.long q2), .second, .val (.int p3), .unset, .unset, .unset, .unset] [(.int p3)])) _
    refine XS.iconst X0.here hx rfl (hb hby d3_22) ?_
    show Steps p.tables e below (s₁.setTop (mkF m 23 #[.val (.long q1), .second, .val (.long q2), .second, .val (.int p3), .unset, .unset, .unset, .unset] [(.int (5 : Int32)), (.int p3)])) _
    refine XS.isub X0.here hx rfl (hb hby d3_23) rfl ?_
    show Steps p.tables e below (s₁.setTop (mkF m 24 #[.val (.long q1), .second, .val (.long q2), .second, .val (.int p3), .unset, .unset, .unset, .unset] [(.int (p3 - (5 : Int32)))])) _
    refine XS.i2l X0.here hx rfl (hb hby d3_24) rfl ?_
    show Steps p.tables e below (s₁.setTop (mkF m 25 #[.val (.long q1), .second, .val (.long q2), .second, .val (.int p3), .unset, .unset, .unset, .unset] [(.long ((p3 - (5 : Int32)).toInt64))])) _
    refine XS.lstore X0.here hx rfl (hb hby d3_25) rfl (l' := #[.val (.long q1), .second, .val (.long q2), .second, .val (.int p3), .val (.long ((p3 - (5 : Int32)).toInt64)), .second, .unset, .unset]) rfl ?_
    show Steps p.tables e below (s₁.setTop (mkF m 27 #[.val (.long q1), .second, .val (.long q2), .second, .val (.int p3), .val (.long ((p3 - (5 : Int32)).toInt64)), .second, .unset, .unset] [])) _
    refine XS.lloadN X0.here hx rfl (hb hby d3_27) rfl ?_
    show Steps p.tables e below (s₁.setTop (mkF m 28 #[.val (.long q1), .second, .val (.long q2), .second, .val (.int p3), .val (.long ((p3 - (5 : Int32)).toInt64)), .second, .unset, .unset] [(.long q2)])) _
    refine XS.lload X0.here hx rfl (hb hby d3_28) rfl ?_
    show Steps p.tables e below (s₁.setTop (mkF m 30 #[.val (.long q1), .second, .val (.long q2), .second, .val (.int p3), .val (.long ((p3 - (5 : Int32)).toInt64)), .second, .unset, .unset] [(.long ((p3 - (5 : Int32)).toInt64)), (.long q2)])) _
    refine XS.ladd X0.here hx rfl (hb hby d3_30) rfl ?_
    show Steps p.tables e below (s₁.setTop (mkF m 31 #[.val (.long q1), .second, .val (.long q2), .second, .val (.int p3), .val (.long ((p3 - (5 : Int32)).toInt64)), .second, .unset, .unset] [(.long (q2 + ((p3 - (5 : Int32)).toInt64)))])) _
    refine XS.lstore X0.here hx rfl (hb hby d3_31) rfl (l' := #[.val (.long q1), .second, .val (.long q2), .second, .val (.int p3), .val (.long ((p3 - (5 : Int32)).toInt64)), .second, .val (.long (q2 + ((p3 - (5 : Int32)).toInt64))), .second]) rfl ?_
    show Steps p.tables e below (s₁.setTop (mkF m 33 #[.val (.long q1), .second, .val (.long q2), .second, .val (.int p3), .val (.long ((p3 - (5 : Int32)).toInt64)), .second, .val (.long (q2 + ((p3 - (5 : Int32)).toInt64))), .second] [])) _
    refine XS.lload X0.here hx rfl (hb hby d3_33) rfl ?_
    show Steps p.tables e below (s₁.setTop (mkF m 35 #[.val (.long q1), .second, .val (.long q2), .second, .val (.int p3), .val (.long ((p3 - (5 : Int32)).toInt64)), .second, .val (.long (q2 + ((p3 - (5 : Int32)).toInt64))), .second] [(.long (q2 + ((p3 - (5 : Int32)).toInt64)))])) _
    refine XS.lconst X0.here hx rfl (hb hby d3_35) ?_
    show Steps p.tables e below (s₁.setTop (mkF m 36 #[.val (.long q1), .second, .val (.long q2), .second, .val (.int p3), .val (.long ((p3 - (5 : Int32)).toInt64)), .second, .val (.long (q2 + ((p3 - (5 : Int32)).toInt64))), .second] [(.long (0 : Int64)), (.long (q2 + ((p3 - (5 : Int32)).toInt64)))])) _
    refine XS.lcmp X0.here hx rfl (hb hby d3_36) rfl ?_
    show Steps p.tables e below (s₁.setTop (mkF m 37 #[.val (.long q1), .second, .val (.long q2), .second, .val (.int p3), .val (.long ((p3 - (5 : Int32)).toInt64)), .second, .val (.long (q2 + ((p3 - (5 : Int32)).toInt64))), .second] [(.int (lcmpW (q2 + ((p3 - (5 : Int32)).toInt64)) (0 : Int64)))])) _
    refine XS.ifNo X0.here hx rfl (hb hby d3_37) rfl ((if0 _ _).trans (tlt hc37).2.1) ?_
    show Steps p.tables e below (s₁.setTop (mkF m 40 #[.val (.long q1), .second, .val (.long q2), .second, .val (.int p3), .val (.long ((p3 - (5 : Int32)).toInt64)), .second, .val (.long (q2 + ((p3 - (5 : Int32)).toInt64))), .second] [])) _
    refine XS.lload X0.here hx rfl (hb hby d3_40) rfl ?_
    show Steps p.tables e below (s₁.setTop (mkF m 42 #[.val (.long q1), .second, .val (.long q2), .second, .val (.int p3), .val (.long ((p3 - (5 : Int32)).toInt64)), .second, .val (.long (q2 + ((p3 - (5 : Int32)).toInt64))), .second] [(.long ((p3 - (5 : Int32)).toInt64))])) _
    refine XS.lconst X0.here hx rfl (hb hby d3_42) ?_
    show Steps p.tables e below (s₁.setTop (mkF m 43 #[.val (.long q1), .second, .val (.long q2), .second, .val (.int p3), .val (.long ((p3 - (5 : Int32)).toInt64)), .second, .val (.long (q2 + ((p3 - (5 : Int32)).toInt64))), .second] [(.long (0 : Int64)), (.long ((p3 - (5 : Int32)).toInt64))])) _
    refine XS.lcmp X0.here hx rfl (hb hby d3_43) rfl ?_
    show Steps p.tables e below (s₁.setTop (mkF m 44 #[.val (.long q1), .second, .val (.long q2), .second, .val (.int p3), .val (.long ((p3 - (5 : Int32)).toInt64)), .second, .val (.long (q2 + ((p3 - (5 : Int32)).toInt64))), .second] [(.int (lcmpW ((p3 - (5 : Int32)).toInt64) (0 : Int64)))])) _
    refine XS.ifNo X0.here hx rfl (hb hby d3_44) rfl ((if0 _ _).trans (tlt hc44).2.1) ?_
    show Steps p.tables e below (s₁.setTop (mkF m 47 #[.val (.long q1), .second, .val (.long q2), .second, .val (.int p3), .val (.long ((p3 - (5 : Int32)).toInt64)), .second, .val (.long (q2 + ((p3 - (5 : Int32)).toInt64))), .second] [])) _
    refine XS.lconst X0.here hx rfl (hb hby d3_47) ?_
    show Steps p.tables e below (s₁.setTop (mkF m 48 #[.val (.long q1), .second, .val (.long q2), .second, .val (.int p3), .val (.long ((p3 - (5 : Int32)).toInt64)), .second, .val (.long (q2 + ((p3 - (5 : Int32)).toInt64))), .second] [(.long (0 : Int64))])) _
    refine XS.goto X0.here hx rfl (pc0 := 48) (pc' := 54) rfl (hb hby d3_48) (by decide) (by decide) ?_
    show Steps p.tables e below (s₁.setTop (mkF m 54 #[.val (.long q1), .second, .val (.long q2), .second, .val (.int p3), .val (.long ((p3 - (5 : Int32)).toInt64)), .second, .val (.long (q2 + ((p3 - (5 : Int32)).toInt64))), .second] [(.long (0 : Int64))])) _
    refine XS.lstore X0.here hx rfl (hb hby d3_54) rfl (l' := #[.val (.long q1), .second, .val (.long q2), .second, .val (.int p3), .val (.long ((p3 - (5 : Int32)).toInt64)), .second, .val (.long (0 : Int64)), .second]) rfl ?_
    show Steps p.tables e below (s₁.setTop (mkF m 56 #[.val (.long q1), .second, .val (.long q2), .second, .val (.int p3), .val (.long ((p3 - (5 : Int32)).toInt64)), .second, .val (.long (0 : Int64)), .second] [])) _
    refine XS.lload X0.here hx rfl (hb hby d3_56) rfl ?_
    show Steps p.tables e below (s₁.setTop (mkF m 58 #[.val (.long q1), .second, .val (.long q2), .second, .val (.int p3), .val (.long ((p3 - (5 : Int32)).toInt64)), .second, .val (.long (0 : Int64)), .second] [(.long (0 : Int64))])) _
    jvm_step X0.here [X0.here.top, hx, (hb hby d3_58), X0.method', Bd.returns, narrow]
    first | (intro acts; rw [hr _ acts rfl rfl rfl]) | rw [hr _ _ rfl rfl rfl]
    exact Steps.refl _
  · show Q3 Z q1 q2 p3 ((0 : Int64)) h0 n0 _ s₁.heap _
    rw [e0]
    exact ⟨rfl, N0, rfl⟩
set_option maxRecDepth 65536 in
set_option maxHeartbeats 40000000 in
theorem rm3_tf (l : Launch) (Z : State) (a0 : Array Value) (hw : ∀ d ∈ tables_1, d.before a0 Z = true) (ws : List Jvm.Cond) (q1 : Int64) (q2 : Int64) (p3 : Int32) (h0 : Heap) (n0 : Nat) (Z0 : n0 ≤ h0.size) (hc3 : ¬ (p3 < (2 : Int32))) (hc15 : p3 = (2 : Int32)) :
    MetFree l (⟨"com/example/exact_anchor/exactanchor/search/BudgetSpendPinLaw", "pick", "(JJI)J"⟩ : MethodName) (head1 (Jvm.Cond.code (⟨"com/example/exact_anchor/exactanchor/search/BudgetSpendPinLaw", "pick", "(JJI)J"⟩ : MethodName) method_2_code 9 (some .long) :: ws) ({ frames := 0, cells := 0, slots := 0, locals := 0 } : Room)) (fun a U => a = #[(.long q1), (.long q2), (.int p3)] ∧ Z.Warmed39 U.vm ∧ U.heap = h0) (fun _ _ _ _ _ => True) (fun _ U o U' => ∃ v L, o = .returned v ∧ Q3 Z q1 q2 p3 ((0 : Int64)) h0 n0 v U'.heap L ∧ FrameEnd U o U' L ({ frames := 0, cells := 0, slots := 0, locals := 0 } : Room).cells ({ frames := 0, cells := 0, slots := 0, locals := 0 } : Room).slots) := by
  refine MetFree.of_bodySF (plainFor_of_name pn_3) hisR ?_
  intro p e s m args below meth c s₁ Bd hml0 hP hK
  obtain ⟨rfl, hZ, hh⟩ := hP
  have hx := Bd.exec
  have hby := Bd.bytes
  have hml : c.maxLocals = 9 := hml0
  have hown : s.vm.findClass "com/example/exact_anchor/exactanchor/search/BudgetSpendPinLaw" = some m.cls := findClass_of_methodNamed Bd.named
  have hnm := (name_of_methodNamed Bd.named Bd.method).1
  have X0 : Stand p l e ({ frames := 0, cells := 0, slots := 0, locals := 0 } : Room) s m #[(.long q1), (.long q2), (.int p3)] below meth c s₁ [] 0 0 := Stand.of_body Bd
  have e0 : s₁.heap = h0 := by rw [← hh, Bd.state]; rfl
  have N0 := Fr.nil n0
  have pre0 : ∀ t, Steps p.tables e below (s₁.setTop (mkF m 0 #[.val (.long q1), .second, .val (.long q2), .second, .val (.int p3), .unset, .unset, .unset, .unset] [])) t → Steps p.tables e below (s₁.setTop (entryFrame m #[(.long q1), (.long q2), (.int p3)] 9)) t := fun t k => castTop (ef_3 m q1 q2 p3) k
  -- 3. LAWS

  obtain ⟨fs, hr, hrun, hended, hW, hsame⟩ := X0.leave (v := some (.long (0 : Int64))) (fun h => by rw [Bd.returns] at h; cases h)
  refine ⟨_, _, pre0 _ ?_, hrun, hended, _, _, rfl, ?_, ⟨_, rfl⟩, hW, hsame.mono (by decide) (by decide)⟩
  -- 4. STEPS
  · show Steps p.tables e below (s₁.setTop (mkF m 0 #[.val (.long q1), .second, .val (.long q2), .second, .val (.int p3), .unset, .unset, .unset, .unset] [])) _
    refine XS.iload X0.here hx rfl (hb hby d3_0) rfl ?_
    show Steps p.tables e below (s₁.setTop (mkF m 2 #[.val (.long q1), .second, .val (.long q2), .second, .val (.int p3), .unset, .unset, .unset, .unset] [(.int p3)])) _
    refine XS.iconst X0.here hx rfl (hb hby d3_2) ?_
    show Steps p.tables e below (s₁.setTop (mkF m 3 #[.val (.long q1), .second, .val (.long q2), .second, .val (.int p3), .unset, .unset, .unset, .unset] [(.int (2 : Int32)), (.int p3)])) _
    refine XS.icmpYes X0.here hx rfl (pc0 := 3) (pc' := 12) rfl (hb hby d3_3) rfl (flt hc3).2.1 (by decide) (by decide) ?_
    show Steps p.tables e below (s₁.setTop (mkF m 12 #[.val (.long q1), .second, .val (.long q2), .second, .val (.int p3), .unset, .unset, .unset, .unset] [])) _
    refine XS.iload X0.here hx rfl (hb hby d3_12) rfl ?_
    show Steps p.tables e below (s₁.setTop (mkF m 14 #[.val (.long q1), .second, .val (.long q2), .second, .val (.int p3), .unset, .unset, .unset, .unset] [(.int p3)])) _
    refine XS.iconst X0.here hx rfl (hb hby d3_14) ?_
    show Steps p.tables e below (s₁.setTop (mkF m 15 #[.val (.long q1), .second, .val (.long q2), .second, .val (.int p3), .unset, .unset, .unset, .unset] [(.int (2 : Int32)), (.int p3)])) _
    refine XS.icmpNo X0.here hx rfl (hb hby d3_15) rfl (teq hc15).2 ?_
    show Steps p.tables e below (s₁.setTop (mkF m 18 #[.val (.long q1), .second, .val (.long q2), .second, .val (.int p3), .unset, .unset, .unset, .unset] [])) _
    refine XS.lconst X0.here hx rfl (hb hby d3_18) ?_
    show Steps p.tables e below (s₁.setTop (mkF m 19 #[.val (.long q1), .second, .val (.long q2), .second, .val (.int p3), .unset, .unset, .unset, .unset] [(.long (0 : Int64))])) _
    jvm_step X0.here [X0.here.top, hx, (hb hby d3_19), X0.method', Bd.returns, narrow]
    first | (intro acts; rw [hr _ acts rfl rfl rfl]) | rw [hr _ _ rfl rfl rfl]
    exact Steps.refl _
  · show Q3 Z q1 q2 p3 ((0 : Int64)) h0 n0 _ s₁.heap _
    rw [e0]
    exact ⟨rfl, N0, rfl⟩
set_option maxRecDepth 65536 in
set_option maxHeartbeats 40000000 in
theorem rm3_f (l : Launch) (Z : State) (a0 : Array Value) (hw : ∀ d ∈ tables_1, d.before a0 Z = true) (ws : List Jvm.Cond) (q1 : Int64) (q2 : Int64) (p3 : Int32) (h0 : Heap) (n0 : Nat) (Z0 : n0 ≤ h0.size) (hc3 : p3 < (2 : Int32)) :
    MetFree l (⟨"com/example/exact_anchor/exactanchor/search/BudgetSpendPinLaw", "pick", "(JJI)J"⟩ : MethodName) (head1 (Jvm.Cond.code (⟨"com/example/exact_anchor/exactanchor/search/BudgetSpendPinLaw", "pick", "(JJI)J"⟩ : MethodName) method_2_code 9 (some .long) :: ws) ({ frames := 0, cells := 0, slots := 0, locals := 0 } : Room)) (fun a U => a = #[(.long q1), (.long q2), (.int p3)] ∧ Z.Warmed39 U.vm ∧ U.heap = h0) (fun _ _ _ _ _ => True) (fun _ U o U' => ∃ v L, o = .returned v ∧ Q3 Z q1 q2 p3 ((q1 &&& (9223372036854775807 : Int64))) h0 n0 v U'.heap L ∧ FrameEnd U o U' L ({ frames := 0, cells := 0, slots := 0, locals := 0 } : Room).cells ({ frames := 0, cells := 0, slots := 0, locals := 0 } : Room).slots) := by
  refine MetFree.of_bodySF (plainFor_of_name pn_3) hisR ?_
  intro p e s m args below meth c s₁ Bd hml0 hP hK
  obtain ⟨rfl, hZ, hh⟩ := hP
  have hx := Bd.exec
  have hby := Bd.bytes
  have hml : c.maxLocals = 9 := hml0
  have hown : s.vm.findClass "com/example/exact_anchor/exactanchor/search/BudgetSpendPinLaw" = some m.cls := findClass_of_methodNamed Bd.named
  have hnm := (name_of_methodNamed Bd.named Bd.method).1
  have X0 : Stand p l e ({ frames := 0, cells := 0, slots := 0, locals := 0 } : Room) s m #[(.long q1), (.long q2), (.int p3)] below meth c s₁ [] 0 0 := Stand.of_body Bd
  have e0 : s₁.heap = h0 := by rw [← hh, Bd.state]; rfl
  have N0 := Fr.nil n0
  have pre0 : ∀ t, Steps p.tables e below (s₁.setTop (mkF m 0 #[.val (.long q1), .second, .val (.long q2), .second, .val (.int p3), .unset, .unset, .unset, .unset] [])) t → Steps p.tables e below (s₁.setTop (entryFrame m #[(.long q1), (.long q2), (.int p3)] 9)) t := fun t k => castTop (ef_3 m q1 q2 p3) k
  -- 3. LAWS

  obtain ⟨fs, hr, hrun, hended, hW, hsame⟩ := X0.leave (v := some (.long (q1 &&& (9223372036854775807 : Int64)))) (fun h => by rw [Bd.returns] at h; cases h)
  refine ⟨_, _, pre0 _ ?_, hrun, hended, _, _, rfl, ?_, ⟨_, rfl⟩, hW, hsame.mono (by decide) (by decide)⟩
  -- 4. STEPS
  · show Steps p.tables e below (s₁.setTop (mkF m 0 #[.val (.long q1), .second, .val (.long q2), .second, .val (.int p3), .unset, .unset, .unset, .unset] [])) _
    refine XS.iload X0.here hx rfl (hb hby d3_0) rfl ?_
    show Steps p.tables e below (s₁.setTop (mkF m 2 #[.val (.long q1), .second, .val (.long q2), .second, .val (.int p3), .unset, .unset, .unset, .unset] [(.int p3)])) _
    refine XS.iconst X0.here hx rfl (hb hby d3_2) ?_
    show Steps p.tables e below (s₁.setTop (mkF m 3 #[.val (.long q1), .second, .val (.long q2), .second, .val (.int p3), .unset, .unset, .unset, .unset] [(.int (2 : Int32)), (.int p3)])) _
    refine XS.icmpNo X0.here hx rfl (hb hby d3_3) rfl (tlt hc3).2.1 ?_
    show Steps p.tables e below (s₁.setTop (mkF m 6 #[.val (.long q1), .second, .val (.long q2), .second, .val (.int p3), .unset, .unset, .unset, .unset] [])) _
    refine XS.lloadN X0.here hx rfl (hb hby d3_6) rfl ?_
    show Steps p.tables e below (s₁.setTop (mkF m 7 #[.val (.long q1), .second, .val (.long q2), .second, .val (.int p3), .unset, .unset, .unset, .unset] [(.long q1)])) _
    refine X0.ldc2Long hx hown (mvT hZ (hw _ (List.mem_of_getElem? (i := 0) rfl))) (g := (mkF m 7 #[.val (.long q1), .second, .val (.long q2), .second, .val (.int p3), .unset, .unset, .unset, .unset] [(.long q1)])) rfl (hb hby d3_7) _ ?_
    show Steps p.tables e below (s₁.setTop (mkF m 10 #[.val (.long q1), .second, .val (.long q2), .second, .val (.int p3), .unset, .unset, .unset, .unset] [(.long (9223372036854775807 : Int64)), (.long q1)])) _
    refine XS.land X0.here hx rfl (hb hby d3_10) rfl ?_
    show Steps p.tables e below (s₁.setTop (mkF m 11 #[.val (.long q1), .second, .val (.long q2), .second, .val (.int p3), .unset, .unset, .unset, .unset] [(.long (q1 &&& (9223372036854775807 : Int64)))])) _
    jvm_step X0.here [X0.here.top, hx, (hb hby d3_11), X0.method', Bd.returns, narrow]
    first | (intro acts; rw [hr _ acts rfl rfl rfl]) | rw [hr _ _ rfl rfl rfl]
    exact Steps.refl _
  · show Q3 Z q1 q2 p3 ((q1 &&& (9223372036854775807 : Int64))) h0 n0 _ s₁.heap _
    rw [e0]
    exact ⟨rfl, N0, rfl⟩
theorem rm3 (l : Launch) (Z : State) (a0 : Array Value) (hw : ∀ d ∈ tables_1, d.before a0 Z = true) (ws : List Jvm.Cond) (q1 : Int64) (q2 : Int64) (p3 : Int32) (h0 : Heap) (n0 : Nat) (Z0 : n0 ≤ h0.size) :
    MetFree l (⟨"com/example/exact_anchor/exactanchor/search/BudgetSpendPinLaw", "pick", "(JJI)J"⟩ : MethodName) (head1 (Jvm.Cond.code (⟨"com/example/exact_anchor/exactanchor/search/BudgetSpendPinLaw", "pick", "(JJI)J"⟩ : MethodName) method_2_code 9 (some .long) :: ws) ({ frames := 0, cells := 0, slots := 0, locals := 0 } : Room)) (fun a U => a = #[(.long q1), (.long q2), (.int p3)] ∧ Z.Warmed39 U.vm ∧ U.heap = h0) (fun _ _ _ _ _ => True) (fun _ U o U' => ∃ v L, o = .returned v ∧ Q3 Z q1 q2 p3 (F3 q1 q2 p3) h0 n0 v U'.heap L ∧ FrameEnd U o U' L ({ frames := 0, cells := 0, slots := 0, locals := 0 } : Room).cells ({ frames := 0, cells := 0, slots := 0, locals := 0 } : Room).slots) := by
  by_cases hc3 : p3 < (2 : Int32)
  · have hF : F3 q1 q2 p3 = (q1 &&& (9223372036854775807 : Int64)) := by simp only [F3, if_pos hc3]
    rw [hF]
    exact rm3_f l Z a0 hw ws q1 q2 p3 h0 n0 Z0 hc3
  · by_cases hc15 : p3 = (2 : Int32)
    · have hF : F3 q1 q2 p3 = (0 : Int64) := by simp only [F3, if_neg hc3, if_pos hc15]
      rw [hF]
      exact rm3_tf l Z a0 hw ws q1 q2 p3 h0 n0 Z0 hc3 hc15
    · by_cases hc37 : (lcmpW (q2 + ((p3 - (5 : Int32)).toInt64)) (0 : Int64)) < (0 : Int32)
      · by_cases hc44 : (lcmpW ((p3 - (5 : Int32)).toInt64) (0 : Int64)) < (0 : Int32)
        · have hF : F3 q1 q2 p3 = (0 : Int64) := by simp only [F3, if_neg hc3, if_neg hc15, if_pos hc37, if_pos hc44]
          rw [hF]
          exact rm3_ttff l Z a0 hw ws q1 q2 p3 h0 n0 Z0 hc3 hc15 hc37 hc44
        · have hF : F3 q1 q2 p3 = (9223372036854775807 : Int64) := by simp only [F3, if_neg hc3, if_neg hc15, if_pos hc37, if_neg hc44]
          rw [hF]
          exact rm3_ttft l Z a0 hw ws q1 q2 p3 h0 n0 Z0 hc3 hc15 hc37 hc44
      · have hF : F3 q1 q2 p3 = (q2 + ((p3 - (5 : Int32)).toInt64)) := by simp only [F3, if_neg hc3, if_neg hc15, if_neg hc37]
        rw [hF]
        exact rm3_ttt l Z a0 hw ws q1 q2 p3 h0 n0 Z0 hc3 hc15 hc37
theorem rm3x (l : Launch) (Z : State) (a0 : Array Value) (hw : ∀ d ∈ tables_1, d.before a0 Z = true) (ws : List Jvm.Cond) (q1 : Int64) (q2 : Int64) (p3 : Int32) (xx : Int64) (h0 : Heap) (n0 : Nat) (Z0 : n0 ≤ h0.size) (hxx : F3 q1 q2 p3 = xx) :
    MetFree l (⟨"com/example/exact_anchor/exactanchor/search/BudgetSpendPinLaw", "pick", "(JJI)J"⟩ : MethodName) (head1 (Jvm.Cond.code (⟨"com/example/exact_anchor/exactanchor/search/BudgetSpendPinLaw", "pick", "(JJI)J"⟩ : MethodName) method_2_code 9 (some .long) :: ws) ({ frames := 0, cells := 0, slots := 0, locals := 0 } : Room)) (fun a U => a = #[(.long q1), (.long q2), (.int p3)] ∧ Z.Warmed39 U.vm ∧ U.heap = h0) (fun _ _ _ _ _ => True) (fun _ U o U' => ∃ v L, o = .returned v ∧ Q3 Z q1 q2 p3 xx h0 n0 v U'.heap L ∧ FrameEnd U o U' L ({ frames := 0, cells := 0, slots := 0, locals := 0 } : Room).cells ({ frames := 0, cells := 0, slots := 0, locals := 0 } : Room).slots) := by
  subst hxx
  exact rm3 l Z a0 hw ws q1 q2 p3 h0 n0 Z0
def Q4 (Z : State) (a1 : Addr) (w3 : Int64) (sp : Int64) (rf : Int32) (r : Int32) (h0 : Heap) (n0 : Nat) (v : Option Value) (h : Heap) (L : List Loc) : Prop := v = some (.int r) ∧ Fr n0 L ∧ Keep h0 h [a1] ∧ Exa Z h a1 "com/example/exact_anchor/exactanchor/search/Budget" ∧ Fld Z h a1 "com/example/exact_anchor/exactanchor/search/Budget" "limit" "J" (.long w3) ∧ Fld Z h a1 "com/example/exact_anchor/exactanchor/search/Budget" "spent" "J" (.long sp) ∧ Fld Z h a1 "com/example/exact_anchor/exactanchor/search/Budget" "refused" "Z" (.int rf)
theorem d4_0 : decode prog_71_method_3_code 0 = .ok (.lload_n 1, 1) := by decide +kernel
theorem d4_1 : decode prog_71_method_3_code 1 = .ok (.aload_n 0, 1) := by decide +kernel
theorem d4_2 : decode prog_71_method_3_code 2 = .ok (.getfield 7, 3) := by decide +kernel
theorem d4_5 : decode prog_71_method_3_code 5 = .ok (.aload_n 0, 1) := by decide +kernel
theorem d4_6 : decode prog_71_method_3_code 6 = .ok (.getfield 17, 3) := by decide +kernel
theorem d4_9 : decode prog_71_method_3_code 9 = .ok (.lsub, 1) := by decide +kernel
theorem d4_10 : decode prog_71_method_3_code 10 = .ok (.lcmp, 1) := by decide +kernel
theorem d4_11 : decode prog_71_method_3_code 11 = .ok (.ifCond .le 10, 3) := by decide +kernel
theorem d4_21 : decode prog_71_method_3_code 21 = .ok (.aload_n 0, 1) := by decide +kernel
theorem d4_22 : decode prog_71_method_3_code 22 = .ok (.dup, 1) := by decide +kernel
theorem d4_23 : decode prog_71_method_3_code 23 = .ok (.getfield 17, 3) := by decide +kernel
theorem d4_26 : decode prog_71_method_3_code 26 = .ok (.lload_n 1, 1) := by decide +kernel
theorem d4_27 : decode prog_71_method_3_code 27 = .ok (.ladd, 1) := by decide +kernel
theorem d4_28 : decode prog_71_method_3_code 28 = .ok (.putfield 17, 3) := by decide +kernel
theorem d4_31 : decode prog_71_method_3_code 31 = .ok (.iconst 1, 1) := by decide +kernel
theorem d4_32 : decode prog_71_method_3_code 32 = .ok (.ireturn, 1) := by decide +kernel
theorem pn_4 : plainName "com/example/exact_anchor/exactanchor/search/Budget" = true := by first | (simp [plainName, overriddenIn]; done) | decide +kernel
theorem ef_4 (m : MethodId) (x0 : Addr) (x1 : Int64) : entryFrame m #[(.ref x0), (.long x1)] 3 = mkF m 0 #[.val (.ref x0), .val (.long x1), .second] [] := by first | (simp [entryFrame, mkF, argsToLocals, Value.category]; done) | rfl
theorem d4_14 : decode prog_71_method_3_code 14 = .ok (.aload_n 0, 1) := by decide +kernel
theorem d4_15 : decode prog_71_method_3_code 15 = .ok (.iconst 1, 1) := by decide +kernel
theorem d4_16 : decode prog_71_method_3_code 16 = .ok (.putfield 20, 3) := by decide +kernel
theorem d4_19 : decode prog_71_method_3_code 19 = .ok (.iconst 0, 1) := by decide +kernel
theorem d4_20 : decode prog_71_method_3_code 20 = .ok (.ireturn, 1) := by decide +kernel
set_option maxRecDepth 65536 in
set_option maxHeartbeats 40000000 in
theorem rm4_t (l : Launch) (Z : State) (a0 : Array Value) (hw : ∀ d ∈ tables_1, d.before a0 Z = true) (ws : List Jvm.Cond) (a1 : Addr) (q2 : Int64) (w3 : Int64) (w5 : Int64) (rf : Int32) (h0 : Heap) (n0 : Nat) (Z0 : n0 ≤ h0.size) (F_limit_a1 : Fld Z h0 a1 "com/example/exact_anchor/exactanchor/search/Budget" "limit" "J" (.long w3)) (F_spent_a1 : Fld Z h0 a1 "com/example/exact_anchor/exactanchor/search/Budget" "spent" "J" (.long w5)) (E_a1 : Exa Z h0 a1 "com/example/exact_anchor/exactanchor/search/Budget") (FR : Fld Z h0 a1 "com/example/exact_anchor/exactanchor/search/Budget" "refused" "Z" (.int rf)) (g_a1 : n0 ≤ a1) (hc11 : ¬ ((0 : Int32) < (lcmpW q2 (w3 - w5)))) :
    MetFree l (⟨"com/example/exact_anchor/exactanchor/search/Budget", "spend", "(J)Z"⟩ : MethodName) (head1 (Jvm.Cond.code (⟨"com/example/exact_anchor/exactanchor/search/Budget", "spend", "(J)Z"⟩ : MethodName) prog_71_method_3_code 3 (some .boolean) :: ws) ({ frames := 0, cells := 0, slots := 0, locals := 0 } : Room)) (fun a U => a = #[(.ref a1), (.long q2)] ∧ Z.Warmed39 U.vm ∧ U.heap = h0) (fun _ _ _ _ _ => True) (fun _ U o U' => ∃ v L, o = .returned v ∧ Q4 Z a1 w3 (w5 + q2) rf (1 : Int32) h0 n0 v U'.heap L ∧ FrameEnd U o U' L ({ frames := 0, cells := 0, slots := 0, locals := 0 } : Room).cells ({ frames := 0, cells := 0, slots := 0, locals := 0 } : Room).slots) := by
  refine MetFree.of_bodySF (plainFor_of_name pn_4) hisR ?_
  intro p e s m args below meth c s₁ Bd hml0 hP hK
  obtain ⟨rfl, hZ, hh⟩ := hP
  have hx := Bd.exec
  have hby := Bd.bytes
  have hml : c.maxLocals = 3 := hml0
  have hown : s.vm.findClass "com/example/exact_anchor/exactanchor/search/Budget" = some m.cls := findClass_of_methodNamed Bd.named
  have hnm := (name_of_methodNamed Bd.named Bd.method).1
  have X0 : Stand p l e ({ frames := 0, cells := 0, slots := 0, locals := 0 } : Room) s m #[(.ref a1), (.long q2)] below meth c s₁ [] 0 0 := Stand.of_body Bd
  have e0 : s₁.heap = h0 := by rw [← hh, Bd.state]; rfl
  have N0 := Fr.nil n0
  have pre0 : ∀ t, Steps p.tables e below (s₁.setTop (mkF m 0 #[.val (.ref a1), .val (.long q2), .second] [])) t → Steps p.tables e below (s₁.setTop (entryFrame m #[(.ref a1), (.long q2)] 3)) t := fun t k => castTop (ef_4 m a1 q2) k
  -- 3. LAWS
  obtain ⟨T4, X4, e4, st4⟩ := getF X0 hx hZ hown (host := "") (Or.inl (hw _ (List.mem_of_getElem? (i := 10) rfl))) Via.refl e0 F_limit_a1 (g := (mkF m 2 #[.val (.ref a1), .val (.long q2), .second] [(.ref a1), (.long q2)])) rfl rfl (hb hby d4_2)
  obtain ⟨T6, X6, e6, st6⟩ := getF X4 hx hZ hown (host := "") (Or.inl (hw _ (List.mem_of_getElem? (i := 21) rfl))) Via.refl e4 F_spent_a1 (g := (mkF m 6 #[.val (.ref a1), .val (.long q2), .second] [(.ref a1), (.long w3), (.long q2)])) rfl rfl (hb hby d4_6)
  obtain ⟨T7, X7, e7, st7⟩ := getF X6 hx hZ hown (host := "") (Or.inl (hw _ (List.mem_of_getElem? (i := 21) rfl))) Via.refl e6 F_spent_a1 (g := (mkF m 23 #[.val (.ref a1), .val (.long q2), .second] [(.ref a1), (.ref a1)])) rfl rfl (hb hby d4_23)
  obtain ⟨T8, h8, X8, e8, W8, st8⟩ := putF X7 hx hZ hown (host := "") (Or.inl (hw _ (List.mem_of_getElem? (i := 21) rfl))) Via.refl e7 F_spent_a1 E_a1 (Or.inl (hw _ (List.mem_of_getElem? (i := 22) rfl))) (hw _ (List.mem_of_getElem? (i := 2) rfl)) (ty := .long) (by decide) rfl rfl (g := (mkF m 28 #[.val (.ref a1), .val (.long q2), .second] [(.long (w5 + q2)), (.ref a1)])) rfl rfl (hb hby d4_28)
  have Fw8 := F_spent_a1.same W8      -- the field now holds (.long (w5 + q2))
  have K8 : Keep h0 h8 [a1] := (Keep.refl h0 [a1]).wr W8 (Or.inl (List.mem_of_getElem? (i := 0) rfl))
  have N8 := Fr.snoc X8 N0 g_a1
  obtain ⟨fs, hr, hrun, hended, hW, hsame⟩ := X8.leave (v := some (.int (1 : Int32))) (fun h => by rw [Bd.returns] at h; cases h)
  refine ⟨_, _, pre0 _ ?_, hrun, hended, _, _, rfl, ?_, ⟨_, rfl⟩, hW, hsame.mono (by decide) (by decide)⟩
  -- 4. STEPS
  · show Steps p.tables e below (s₁.setTop (mkF m 0 #[.val (.ref a1), .val (.long q2), .second] [])) _
    refine XS.lloadN X0.here hx rfl (hb hby d4_0) rfl ?_
    show Steps p.tables e below (s₁.setTop (mkF m 1 #[.val (.ref a1), .val (.long q2), .second] [(.long q2)])) _
    refine XS.aloadN X0.here hx rfl (hb hby d4_1) rfl rfl ?_
    show Steps p.tables e below (s₁.setTop (mkF m 2 #[.val (.ref a1), .val (.long q2), .second] [(.ref a1), (.long q2)])) _
    refine st4 _ ?_
    show Steps p.tables e below (T4.setTop (mkF m 5 #[.val (.ref a1), .val (.long q2), .second] [(.long w3), (.long q2)])) _
    refine XS.aloadN X4.here hx rfl (hb hby d4_5) rfl rfl ?_
    show Steps p.tables e below (T4.setTop (mkF m 6 #[.val (.ref a1), .val (.long q2), .second] [(.ref a1), (.long w3), (.long q2)])) _
    refine st6 _ ?_
    show Steps p.tables e below (T6.setTop (mkF m 9 #[.val (.ref a1), .val (.long q2), .second] [(.long w5), (.long w3), (.long q2)])) _
    refine XS.lsub X6.here hx rfl (hb hby d4_9) rfl ?_
    show Steps p.tables e below (T6.setTop (mkF m 10 #[.val (.ref a1), .val (.long q2), .second] [(.long (w3 - w5)), (.long q2)])) _
    refine XS.lcmp X6.here hx rfl (hb hby d4_10) rfl ?_
    show Steps p.tables e below (T6.setTop (mkF m 11 #[.val (.ref a1), .val (.long q2), .second] [(.int (lcmpW q2 (w3 - w5)))])) _
    refine XS.ifYes X6.here hx rfl (pc0 := 11) (pc' := 21) rfl (hb hby d4_11) rfl ((if0 _ _).trans (flt hc11).2.2.2) (by decide) (by decide) ?_
    show Steps p.tables e below (T6.setTop (mkF m 21 #[.val (.ref a1), .val (.long q2), .second] [])) _
    refine XS.aloadN X6.here hx rfl (hb hby d4_21) rfl rfl ?_
    show Steps p.tables e below (T6.setTop (mkF m 22 #[.val (.ref a1), .val (.long q2), .second] [(.ref a1)])) _
    refine XS.dup X6.here hx rfl (hb hby d4_22) rfl rfl ?_
    show Steps p.tables e below (T6.setTop (mkF m 23 #[.val (.ref a1), .val (.long q2), .second] [(.ref a1), (.ref a1)])) _
    refine st7 _ ?_
    show Steps p.tables e below (T7.setTop (mkF m 26 #[.val (.ref a1), .val (.long q2), .second] [(.long w5), (.ref a1)])) _
    refine XS.lloadN X7.here hx rfl (hb hby d4_26) rfl ?_
    show Steps p.tables e below (T7.setTop (mkF m 27 #[.val (.ref a1), .val (.long q2), .second] [(.long q2), (.long w5), (.ref a1)])) _
    refine XS.ladd X7.here hx rfl (hb hby d4_27) rfl ?_
    show Steps p.tables e below (T7.setTop (mkF m 28 #[.val (.ref a1), .val (.long q2), .second] [(.long (w5 + q2)), (.ref a1)])) _
    refine st8 _ ?_
    show Steps p.tables e below (T8.setTop (mkF m 31 #[.val (.ref a1), .val (.long q2), .second] [])) _
    refine XS.iconst X8.here hx rfl (hb hby d4_31) ?_
    show Steps p.tables e below (T8.setTop (mkF m 32 #[.val (.ref a1), .val (.long q2), .second] [(.int (1 : Int32))])) _
    exact retN X8 hx (t := .boolean) Bd.returns (by simp) (hb hby d4_32) hr
  · show Q4 Z a1 w3 (w5 + q2) rf (1 : Int32) h0 n0 _ T8.heap _
    rw [e8]
    exact ⟨rfl, N8, K8, (E_a1.wr W8), (F_limit_a1.other W8 (Or.inr (Jvm.RoadKit.slot_ne (Or.inr (hw _ (List.mem_of_getElem? (i := 11) rfl))) (Or.inl (hw _ (List.mem_of_getElem? (i := 22) rfl))) (by decide) (t := .long) (t' := .long) (by decide) (by decide)))), Fw8, (FR.other W8 (Or.inr (Jvm.RoadKit.slot_ne (Or.inl (hw _ (List.mem_of_getElem? (i := 34) rfl))) (Or.inl (hw _ (List.mem_of_getElem? (i := 22) rfl))) (by decide) (t := .boolean) (t' := .long) (by decide) (by decide))))⟩
set_option maxRecDepth 65536 in
set_option maxHeartbeats 40000000 in
theorem rm4_f (l : Launch) (Z : State) (a0 : Array Value) (hw : ∀ d ∈ tables_1, d.before a0 Z = true) (ws : List Jvm.Cond) (a1 : Addr) (q2 : Int64) (w3 : Int64) (w5 : Int64) (rf : Int32) (h0 : Heap) (n0 : Nat) (Z0 : n0 ≤ h0.size) (F_limit_a1 : Fld Z h0 a1 "com/example/exact_anchor/exactanchor/search/Budget" "limit" "J" (.long w3)) (F_spent_a1 : Fld Z h0 a1 "com/example/exact_anchor/exactanchor/search/Budget" "spent" "J" (.long w5)) (E_a1 : Exa Z h0 a1 "com/example/exact_anchor/exactanchor/search/Budget") (F_refused_a1 : Fld Z h0 a1 "com/example/exact_anchor/exactanchor/search/Budget" "refused" "Z" (.int rf)) (g_a1 : n0 ≤ a1) (hc11 : (0 : Int32) < (lcmpW q2 (w3 - w5))) :
    MetFree l (⟨"com/example/exact_anchor/exactanchor/search/Budget", "spend", "(J)Z"⟩ : MethodName) (head1 (Jvm.Cond.code (⟨"com/example/exact_anchor/exactanchor/search/Budget", "spend", "(J)Z"⟩ : MethodName) prog_71_method_3_code 3 (some .boolean) :: ws) ({ frames := 0, cells := 0, slots := 0, locals := 0 } : Room)) (fun a U => a = #[(.ref a1), (.long q2)] ∧ Z.Warmed39 U.vm ∧ U.heap = h0) (fun _ _ _ _ _ => True) (fun _ U o U' => ∃ v L, o = .returned v ∧ Q4 Z a1 w3 w5 (1 : Int32) (0 : Int32) h0 n0 v U'.heap L ∧ FrameEnd U o U' L ({ frames := 0, cells := 0, slots := 0, locals := 0 } : Room).cells ({ frames := 0, cells := 0, slots := 0, locals := 0 } : Room).slots) := by
  refine MetFree.of_bodySF (plainFor_of_name pn_4) hisR ?_
  intro p e s m args below meth c s₁ Bd hml0 hP hK
  obtain ⟨rfl, hZ, hh⟩ := hP
  have hx := Bd.exec
  have hby := Bd.bytes
  have hml : c.maxLocals = 3 := hml0
  have hown : s.vm.findClass "com/example/exact_anchor/exactanchor/search/Budget" = some m.cls := findClass_of_methodNamed Bd.named
  have hnm := (name_of_methodNamed Bd.named Bd.method).1
  have X0 : Stand p l e ({ frames := 0, cells := 0, slots := 0, locals := 0 } : Room) s m #[(.ref a1), (.long q2)] below meth c s₁ [] 0 0 := Stand.of_body Bd
  have e0 : s₁.heap = h0 := by rw [← hh, Bd.state]; rfl
  have N0 := Fr.nil n0
  have pre0 : ∀ t, Steps p.tables e below (s₁.setTop (mkF m 0 #[.val (.ref a1), .val (.long q2), .second] [])) t → Steps p.tables e below (s₁.setTop (entryFrame m #[(.ref a1), (.long q2)] 3)) t := fun t k => castTop (ef_4 m a1 q2) k
  -- 3. LAWS
  obtain ⟨T4, X4, e4, st4⟩ := getF X0 hx hZ hown (host := "") (Or.inl (hw _ (List.mem_of_getElem? (i := 10) rfl))) Via.refl e0 F_limit_a1 (g := (mkF m 2 #[.val (.ref a1), .val (.long q2), .second] [(.ref a1), (.long q2)])) rfl rfl (hb hby d4_2)
  obtain ⟨T6, X6, e6, st6⟩ := getF X4 hx hZ hown (host := "") (Or.inl (hw _ (List.mem_of_getElem? (i := 21) rfl))) Via.refl e4 F_spent_a1 (g := (mkF m 6 #[.val (.ref a1), .val (.long q2), .second] [(.ref a1), (.long w3), (.long q2)])) rfl rfl (hb hby d4_6)
  obtain ⟨T7, h7, X7, e7, W7, st7⟩ := putFN X6 hx hZ hown (hw _ (List.mem_of_getElem? (i := 33) rfl)) Via.refl e6 F_refused_a1 E_a1 (Or.inl (hw _ (List.mem_of_getElem? (i := 34) rfl))) (hw _ (List.mem_of_getElem? (i := 2) rfl)) (ty := .boolean) (v' := .int (1 : Int32)) (by decide) rfl (by decide) (g := (mkF m 16 #[.val (.ref a1), .val (.long q2), .second] [(.int (1 : Int32)), (.ref a1)])) rfl rfl (hb hby d4_16)
  have Fw7 := F_refused_a1.same W7      -- the field now holds (.int (1 : Int32))
  have K7 : Keep h0 h7 [a1] := (Keep.refl h0 [a1]).wr W7 (Or.inl (List.mem_of_getElem? (i := 0) rfl))
  have N7 := Fr.snoc X7 N0 g_a1
  obtain ⟨fs, hr, hrun, hended, hW, hsame⟩ := X7.leave (v := some (.int (0 : Int32))) (fun h => by rw [Bd.returns] at h; cases h)
  refine ⟨_, _, pre0 _ ?_, hrun, hended, _, _, rfl, ?_, ⟨_, rfl⟩, hW, hsame.mono (by decide) (by decide)⟩
  -- 4. STEPS
  · show Steps p.tables e below (s₁.setTop (mkF m 0 #[.val (.ref a1), .val (.long q2), .second] [])) _
    refine XS.lloadN X0.here hx rfl (hb hby d4_0) rfl ?_
    show Steps p.tables e below (s₁.setTop (mkF m 1 #[.val (.ref a1), .val (.long q2), .second] [(.long q2)])) _
    refine XS.aloadN X0.here hx rfl (hb hby d4_1) rfl rfl ?_
    show Steps p.tables e below (s₁.setTop (mkF m 2 #[.val (.ref a1), .val (.long q2), .second] [(.ref a1), (.long q2)])) _
    refine st4 _ ?_
    show Steps p.tables e below (T4.setTop (mkF m 5 #[.val (.ref a1), .val (.long q2), .second] [(.long w3), (.long q2)])) _
    refine XS.aloadN X4.here hx rfl (hb hby d4_5) rfl rfl ?_
    show Steps p.tables e below (T4.setTop (mkF m 6 #[.val (.ref a1), .val (.long q2), .second] [(.ref a1), (.long w3), (.long q2)])) _
    refine st6 _ ?_
    show Steps p.tables e below (T6.setTop (mkF m 9 #[.val (.ref a1), .val (.long q2), .second] [(.long w5), (.long w3), (.long q2)])) _
    refine XS.lsub X6.here hx rfl (hb hby d4_9) rfl ?_
    show Steps p.tables e below (T6.setTop (mkF m 10 #[.val (.ref a1), .val (.long q2), .second] [(.long (w3 - w5)), (.long q2)])) _
    refine XS.lcmp X6.here hx rfl (hb hby d4_10) rfl ?_
    show Steps p.tables e below (T6.setTop (mkF m 11 #[.val (.ref a1), .val (.long q2), .second] [(.int (lcmpW q2 (w3 - w5)))])) _
    refine XS.ifNo X6.here hx rfl (hb hby d4_11) rfl ((if0 _ _).trans (tlt hc11).2.2.2) ?_
    show Steps p.tables e below (T6.setTop (mkF m 14 #[.val (.ref a1), .val (.long q2), .second] [])) _
    refine XS.aloadN X6.here hx rfl (hb hby d4_14) rfl rfl ?_
    show Steps p.tables e below (T6.setTop (mkF m 15 #[.val (.ref a1), .val (.long q2), .second] [(.ref a1)])) _
    refine XS.iconst X6.here hx rfl (hb hby d4_15) ?_
    show Steps p.tables e below (T6.setTop (mkF m 16 #[.val (.ref a1), .val (.long q2), .second] [(.int (1 : Int32)), (.ref a1)])) _
    refine st7 _ ?_
    show Steps p.tables e below (T7.setTop (mkF m 19 #[.val (.ref a1), .val (.long q2), .second] [])) _
    refine XS.iconst X7.here hx rfl (hb hby d4_19) ?_
    show Steps p.tables e below (T7.setTop (mkF m 20 #[.val (.ref a1), .val (.long q2), .second] [(.int (0 : Int32))])) _
    exact retN X7 hx (t := .boolean) Bd.returns (by simp) (hb hby d4_20) hr
  · show Q4 Z a1 w3 w5 (1 : Int32) (0 : Int32) h0 n0 _ T7.heap _
    rw [e7]
    exact ⟨rfl, N7, K7, (E_a1.wr W7), (F_limit_a1.other W7 (Or.inr (Jvm.RoadKit.slot_ne (Or.inr (hw _ (List.mem_of_getElem? (i := 11) rfl))) (Or.inl (hw _ (List.mem_of_getElem? (i := 34) rfl))) (by decide) (t := .long) (t' := .boolean) (by decide) (by decide)))), (F_spent_a1.other W7 (Or.inr (Jvm.RoadKit.slot_ne (Or.inl (hw _ (List.mem_of_getElem? (i := 22) rfl))) (Or.inl (hw _ (List.mem_of_getElem? (i := 34) rfl))) (by decide) (t := .long) (t' := .boolean) (by decide) (by decide)))), Fw7⟩
theorem d5_0 : decode prog_71_method_4_code 0 = .ok (.aload_n 0, 1) := by decide +kernel
theorem d5_1 : decode prog_71_method_4_code 1 = .ok (.getfield 17, 3) := by decide +kernel
theorem d5_4 : decode prog_71_method_4_code 4 = .ok (.lreturn, 1) := by decide +kernel
theorem pn_5 : plainName "com/example/exact_anchor/exactanchor/search/Budget" = true := by first | (simp [plainName, overriddenIn]; done) | decide +kernel
theorem ef_5 (m : MethodId) (x0 : Addr) : entryFrame m #[(.ref x0)] 1 = mkF m 0 #[.val (.ref x0)] [] := by first | (simp [entryFrame, mkF, argsToLocals, Value.category]; done) | rfl
def Q5 (Z : State) (a1 : Addr) (w2 : Int64) (h0 : Heap) (n0 : Nat) (v : Option Value) (h : Heap) (L : List Loc) : Prop := v = some (.long w2) ∧ Fr n0 L ∧ h = h0
set_option maxRecDepth 65536 in
set_option maxHeartbeats 40000000 in
theorem rm5 (l : Launch) (Z : State) (a0 : Array Value) (hw : ∀ d ∈ tables_1, d.before a0 Z = true) (ws : List Jvm.Cond) (a1 : Addr) (w2 : Int64) (h0 : Heap) (n0 : Nat) (Z0 : n0 ≤ h0.size) (F_spent_a1 : Fld Z h0 a1 "com/example/exact_anchor/exactanchor/search/Budget" "spent" "J" (.long w2)) :
    MetFree l (⟨"com/example/exact_anchor/exactanchor/search/Budget", "spent", "()J"⟩ : MethodName) (head1 (Jvm.Cond.code (⟨"com/example/exact_anchor/exactanchor/search/Budget", "spent", "()J"⟩ : MethodName) prog_71_method_4_code 1 (some .long) :: ws) ({ frames := 0, cells := 0, slots := 0, locals := 0 } : Room)) (fun a U => a = #[(.ref a1)] ∧ Z.Warmed39 U.vm ∧ U.heap = h0) (fun _ _ _ _ _ => True) (fun _ U o U' => ∃ v L, o = .returned v ∧ Q5 Z a1 w2 h0 n0 v U'.heap L ∧ FrameEnd U o U' L ({ frames := 0, cells := 0, slots := 0, locals := 0 } : Room).cells ({ frames := 0, cells := 0, slots := 0, locals := 0 } : Room).slots) := by
  refine MetFree.of_bodySF (plainFor_of_name pn_5) hisR ?_
  intro p e s m args below meth c s₁ Bd hml0 hP hK
  obtain ⟨rfl, hZ, hh⟩ := hP
  have hx := Bd.exec
  have hby := Bd.bytes
  have hml : c.maxLocals = 1 := hml0
  have hown : s.vm.findClass "com/example/exact_anchor/exactanchor/search/Budget" = some m.cls := findClass_of_methodNamed Bd.named
  have hnm := (name_of_methodNamed Bd.named Bd.method).1
  have X0 : Stand p l e ({ frames := 0, cells := 0, slots := 0, locals := 0 } : Room) s m #[(.ref a1)] below meth c s₁ [] 0 0 := Stand.of_body Bd
  have e0 : s₁.heap = h0 := by rw [← hh, Bd.state]; rfl
  have N0 := Fr.nil n0
  have pre0 : ∀ t, Steps p.tables e below (s₁.setTop (mkF m 0 #[.val (.ref a1)] [])) t → Steps p.tables e below (s₁.setTop (entryFrame m #[(.ref a1)] 1)) t := fun t k => castTop (ef_5 m a1) k
  -- 3. LAWS
  obtain ⟨T3, X3, e3, st3⟩ := getF X0 hx hZ hown (host := "") (Or.inl (hw _ (List.mem_of_getElem? (i := 21) rfl))) Via.refl e0 F_spent_a1 (g := (mkF m 1 #[.val (.ref a1)] [(.ref a1)])) rfl rfl (hb hby d5_1)
  obtain ⟨fs, hr, hrun, hended, hW, hsame⟩ := X3.leave (v := some (.long w2)) (fun h => by rw [Bd.returns] at h; cases h)
  refine ⟨_, _, pre0 _ ?_, hrun, hended, _, _, rfl, ?_, ⟨_, rfl⟩, hW, hsame.mono (by decide) (by decide)⟩
  -- 4. STEPS
  · show Steps p.tables e below (s₁.setTop (mkF m 0 #[.val (.ref a1)] [])) _
    refine XS.aloadN X0.here hx rfl (hb hby d5_0) rfl rfl ?_
    show Steps p.tables e below (s₁.setTop (mkF m 1 #[.val (.ref a1)] [(.ref a1)])) _
    refine st3 _ ?_
    show Steps p.tables e below (T3.setTop (mkF m 4 #[.val (.ref a1)] [(.long w2)])) _
    jvm_step X3.here [X3.here.top, hx, (hb hby d5_4), X3.method', Bd.returns, narrow]
    first | (intro acts; rw [hr _ acts rfl rfl rfl]) | rw [hr _ _ rfl rfl rfl]
    exact Steps.refl _
  · show Q5 Z a1 w2 h0 n0 _ T3.heap _
    rw [e3]
    exact ⟨rfl, N0, rfl⟩
theorem d6_0 : decode prog_71_method_5_code 0 = .ok (.aload_n 0, 1) := by decide +kernel
theorem d6_1 : decode prog_71_method_5_code 1 = .ok (.getfield 20, 3) := by decide +kernel
theorem d6_4 : decode prog_71_method_5_code 4 = .ok (.ireturn, 1) := by decide +kernel
theorem pn_6 : plainName "com/example/exact_anchor/exactanchor/search/Budget" = true := by first | (simp [plainName, overriddenIn]; done) | decide +kernel
theorem ef_6 (m : MethodId) (x0 : Addr) : entryFrame m #[(.ref x0)] 1 = mkF m 0 #[.val (.ref x0)] [] := by first | (simp [entryFrame, mkF, argsToLocals, Value.category]; done) | rfl
def Q6 (Z : State) (a1 : Addr) (w2 : Int32) (h0 : Heap) (n0 : Nat) (v : Option Value) (h : Heap) (L : List Loc) : Prop := v = some (.int w2) ∧ Fr n0 L ∧ h = h0
set_option maxRecDepth 65536 in
set_option maxHeartbeats 40000000 in
theorem rm6 (l : Launch) (Z : State) (a0 : Array Value) (hw : ∀ d ∈ tables_1, d.before a0 Z = true) (ws : List Jvm.Cond) (a1 : Addr) (w2 : Int32) (h0 : Heap) (n0 : Nat) (Z0 : n0 ≤ h0.size) (F_refused_a1 : Fld Z h0 a1 "com/example/exact_anchor/exactanchor/search/Budget" "refused" "Z" (.int w2)) (hB : nar .boolean w2 = w2) :
    MetFree l (⟨"com/example/exact_anchor/exactanchor/search/Budget", "exhausted", "()Z"⟩ : MethodName) (head1 (Jvm.Cond.code (⟨"com/example/exact_anchor/exactanchor/search/Budget", "exhausted", "()Z"⟩ : MethodName) prog_71_method_5_code 1 (some .boolean) :: ws) ({ frames := 0, cells := 0, slots := 0, locals := 0 } : Room)) (fun a U => a = #[(.ref a1)] ∧ Z.Warmed39 U.vm ∧ U.heap = h0) (fun _ _ _ _ _ => True) (fun _ U o U' => ∃ v L, o = .returned v ∧ Q6 Z a1 w2 h0 n0 v U'.heap L ∧ FrameEnd U o U' L ({ frames := 0, cells := 0, slots := 0, locals := 0 } : Room).cells ({ frames := 0, cells := 0, slots := 0, locals := 0 } : Room).slots) := by
  refine MetFree.of_bodySF (plainFor_of_name pn_6) hisR ?_
  intro p e s m args below meth c s₁ Bd hml0 hP hK
  obtain ⟨rfl, hZ, hh⟩ := hP
  have hx := Bd.exec
  have hby := Bd.bytes
  have hml : c.maxLocals = 1 := hml0
  have hown : s.vm.findClass "com/example/exact_anchor/exactanchor/search/Budget" = some m.cls := findClass_of_methodNamed Bd.named
  have hnm := (name_of_methodNamed Bd.named Bd.method).1
  have X0 : Stand p l e ({ frames := 0, cells := 0, slots := 0, locals := 0 } : Room) s m #[(.ref a1)] below meth c s₁ [] 0 0 := Stand.of_body Bd
  have e0 : s₁.heap = h0 := by rw [← hh, Bd.state]; rfl
  have N0 := Fr.nil n0
  have pre0 : ∀ t, Steps p.tables e below (s₁.setTop (mkF m 0 #[.val (.ref a1)] [])) t → Steps p.tables e below (s₁.setTop (entryFrame m #[(.ref a1)] 1)) t := fun t k => castTop (ef_6 m a1) k
  -- 3. LAWS
  obtain ⟨T3, X3, e3, st3⟩ := getF X0 hx hZ hown (host := "") (Or.inl (hw _ (List.mem_of_getElem? (i := 33) rfl))) Via.refl e0 F_refused_a1 (g := (mkF m 1 #[.val (.ref a1)] [(.ref a1)])) rfl rfl (hb hby d6_1)
  obtain ⟨fs, hr, hrun, hended, hW, hsame⟩ := X3.leave (v := some (.int w2)) (fun h => by rw [Bd.returns] at h; cases h)
  refine ⟨_, _, pre0 _ ?_, hrun, hended, _, _, rfl, ?_, ⟨_, rfl⟩, hW, hsame.mono (by decide) (by decide)⟩
  -- 4. STEPS
  · show Steps p.tables e below (s₁.setTop (mkF m 0 #[.val (.ref a1)] [])) _
    refine XS.aloadN X0.here hx rfl (hb hby d6_0) rfl rfl ?_
    show Steps p.tables e below (s₁.setTop (mkF m 1 #[.val (.ref a1)] [(.ref a1)])) _
    refine st3 _ ?_
    show Steps p.tables e below (T3.setTop (mkF m 4 #[.val (.ref a1)] [(.int w2)])) _
    exact retN X3 hx (t := .boolean) Bd.returns (by simp) (hb hby d6_4) (by rw [hB]; exact hr)
  · show Q6 Z a1 w2 h0 n0 _ T3.heap _
    rw [e3]
    exact ⟨rfl, N0, rfl⟩
theorem pn_0 : plainName "com/example/exact_anchor/exactanchor/search/BudgetSpendPinLaw" = true := by first | (simp [plainName, overriddenIn]; done) | decide +kernel
theorem pd_0_0 : parseMethodDescriptor "(J)V" = some ⟨[.long], none⟩ := by decide +kernel
theorem pd_0_2 : parseMethodDescriptor "(JJI)J" = some ⟨[.long, .long, .int], some .long⟩ := by decide +kernel
theorem pd_0_3 : parseMethodDescriptor "(J)Z" = some ⟨[.long], some .boolean⟩ := by decide +kernel
theorem pd_0_4 : parseMethodDescriptor "()J" = some ⟨[], some .long⟩ := by decide +kernel
theorem pd_0_5 : parseMethodDescriptor "()Z" = some ⟨[], some .boolean⟩ := by decide +kernel
theorem ef_0 (m : MethodId) (x0 : Int64) (x1 : Int64) (x2 : Int64) (x3 : Int32) : entryFrame m #[(.long x0), (.long x1), (.long x2), (.int x3)] maxLocals = mkF m 0 #[.val (.long x0), .second, .val (.long x1), .second, .val (.long x2), .second, .val (.int x3), .unset, .unset, .unset, .unset, .unset, .unset, .unset, .unset, .unset, .unset, .unset, .unset, .unset, .unset, .unset, .unset, .unset] [] := by first | (simp [entryFrame, mkF, argsToLocals, Value.category, maxLocals]; done) | rfl
def Q0 (Z : State) (q1 : Int64) (q2 : Int64) (q3 : Int64) (p4 : Int32) (h0 : Heap) (n0 : Nat) (v : Option Value) (h : Heap) (L : List Loc) : Prop := v = some (.int (1 : Int32)) ∧ Fr n0 L
set_option maxRecDepth 65536 in
set_option maxHeartbeats 40000000 in
theorem rm0_ffffttffffftf (l : Launch) (Z : State) (a0 : Array Value) (hw : ∀ d ∈ tables_1, d.before a0 Z = true) (ws : List Jvm.Cond) (q1 : Int64) (q2 : Int64) (q3 : Int64) (p4 : Int32) (x1 x2 : Int64) (h0 : Heap) (n0 : Nat) (Z0 : n0 ≤ h0.size) (hx1 : F3 q2 (q1 &&& (9223372036854775807 : Int64)) (p4 &&& (7 : Int32)) = x1) (hx2 : F3 q3 ((q1 &&& (9223372036854775807 : Int64)) - x1) (((p4.toUInt32 >>> ((3 : Int32) &&& 31).toUInt32).toInt32) &&& (7 : Int32)) = x2) (h1 : ¬ ((0 : Int32) < (lcmpW x1 (q1 &&& (9223372036854775807 : Int64))))) (h2 : ¬ ((0 : Int32) < (lcmpW x2 ((q1 &&& (9223372036854775807 : Int64)) - x1)))) (hc57 : ¬ ((1 : Int32) = (0 : Int32))) (hc93 : ¬ ((1 : Int32) = (0 : Int32))) (hc155 : ¬ ((1 : Int32) = (0 : Int32))) (hc195 : ¬ ((1 : Int32) = (0 : Int32))) (hc200 : ¬ ((1 : Int32) = (0 : Int32))) :
    MetFree l x (head1 (Jvm.Cond.code x code maxLocals ret :: ws) room_1) (fun a U => a = #[(.long q1), (.long q2), (.long q3), (.int p4)] ∧ Z.Warmed39 U.vm ∧ U.heap = h0) (fun _ _ _ _ _ => True) (fun _ U o U' => ∃ v L, o = .returned v ∧ Q0 Z q1 q2 q3 p4 h0 n0 v U'.heap L ∧ FrameEnd U o U' L room_1.cells room_1.slots) := by
  refine MetFree.of_bodySF (plainFor_of_name pn_0) hisR ?_
  intro p e s m args below meth c s₁ Bd hml0 hP hK
  obtain ⟨rfl, hZ, hh⟩ := hP
  have hx := Bd.exec
  have hby := Bd.bytes
  have hml : c.maxLocals = 24 := hml0
  have hown : s.vm.findClass "com/example/exact_anchor/exactanchor/search/BudgetSpendPinLaw" = some m.cls := findClass_of_methodNamed Bd.named
  have hnm := (name_of_methodNamed Bd.named Bd.method).1
  have X0 : Stand p l e room_1 s m #[(.long q1), (.long q2), (.long q3), (.int p4)] below meth c s₁ [] 0 0 := Stand.of_body Bd
  have e0 : s₁.heap = h0 := by rw [← hh, Bd.state]; rfl
  have N0 := Fr.nil n0
  have pre0 : ∀ t, Steps p.tables e below (s₁.setTop (mkF m 0 #[.val (.long q1), .second, .val (.long q2), .second, .val (.long q3), .second, .val (.int p4), .unset, .unset, .unset, .unset, .unset, .unset, .unset, .unset, .unset, .unset, .unset, .unset, .unset, .unset, .unset, .unset, .unset] [])) t → Steps p.tables e below (s₁.setTop (entryFrame m #[(.long q1), (.long q2), (.long q3), (.int p4)] maxLocals)) t := fun t k => castTop (ef_0 m q1 q2 q3 p4) k
  -- 3. LAWS
  obtain ⟨T5, h5, X5, e5, E5, A5, D5, -, st5⟩ := newO X0 hx hZ hown (hw _ (List.mem_of_getElem? (i := 1) rfl)) (hw _ (List.mem_of_getElem? (i := 2) rfl)) (hw _ (List.mem_of_getElem? (i := 3) rfl)) e0 (g := (mkF m 7 #[.val (.long q1), .second, .val (.long q2), .second, .val (.long q3), .second, .val (.int p4), .val (.long (q1 &&& (9223372036854775807 : Int64))), .second, .unset, .unset, .unset, .unset, .unset, .unset, .unset, .unset, .unset, .unset, .unset, .unset, .unset, .unset, .unset] [])) rfl (hb hby at_7) (by decide) (by decide)
  obtain ⟨b5, g5⟩ : ∃ z, z = h0.size := ⟨_, rfl⟩      -- the fresh object's address
  rw [← g5] at A5 D5 st5      -- A5 : Exa Z h5 b5 "com/example/exact_anchor/exactanchor/search/Budget"; E5 : Ext h0 h5 (carries every older fact: .ext E5)
  have F_limit_b5 : Fld Z h5 b5 "com/example/exact_anchor/exactanchor/search/Budget" "limit" "J" (.long (0 : Int64)) := D5 (Or.inr (hw _ (List.mem_of_getElem? (i := 11) rfl))) (ty := .long) (by decide)
  have F_spent_b5 : Fld Z h5 b5 "com/example/exact_anchor/exactanchor/search/Budget" "spent" "J" (.long (0 : Int64)) := D5 (Or.inl (hw _ (List.mem_of_getElem? (i := 22) rfl))) (ty := .long) (by decide)
  have F_refused_b5 : Fld Z h5 b5 "com/example/exact_anchor/exactanchor/search/Budget" "refused" "Z" (.int (0 : Int32)) := D5 (Or.inl (hw _ (List.mem_of_getElem? (i := 34) rfl))) (ty := .boolean) (by decide)
  have E_b5 := A5
  have g_b5 : n0 ≤ b5 := Nat.le_trans Z0 (Nat.le_of_eq g5.symm)
  have sz_b5 : h0.size ≤ b5 := (Nat.le_trans (Keep.refl h0 []).1 (Nat.le_of_eq g5.symm))
  have K5 : Keep h0 h5 [] := (Keep.refl h0 []).ext E5
  have H5 : n0 ≤ h5.size := Nat.le_trans Z0 K5.1
  -- pc 13: the constructor of com/example/exact_anchor/exactanchor/search/Budget by its contract rm1
  obtain ⟨_, _, ⟨T6, L6, k6, n6⟩, -, X6, ⟨Lc6, hQ6, l6, y6, z6⟩, st6⟩ := X5.specialBack hx (y := (⟨"com/example/exact_anchor/exactanchor/search/Budget", "<init>", "(J)V"⟩ : MethodName)) rfl hown (mvT hZ (hw _ (List.mem_of_getElem? (i := 4) rfl))) (mvT hZ (hw _ (List.mem_of_getElem? (i := 5) rfl))) (mvT hZ (hw _ (List.mem_of_getElem? (i := 6) rfl))) (by decide) (backOf (W := 1) (rm1 l Z a0 hw [] b5 (q1 &&& (9223372036854775807 : Int64)) _ h5 n0 H5 E_b5 F_limit_b5 F_spent_b5 F_refused_b5 g_b5) hZ (hw _ (List.mem_of_getElem? (i := 6) rfl)) (hw _ (List.mem_of_getElem? (i := 3) rfl)) (by decide) (by decide)) (g := (mkF m 13 #[.val (.long q1), .second, .val (.long q2), .second, .val (.long q3), .second, .val (.int p4), .val (.long (q1 &&& (9223372036854775807 : Int64))), .second, .unset, .unset, .unset, .unset, .unset, .unset, .unset, .unset, .unset, .unset, .unset, .unset, .unset, .unset, .unset] [(.long (q1 &&& (9223372036854775807 : Int64))), (.ref b5), (.ref b5)])) rfl (by rw [hml]; rfl) (Steps.refl _) (a := b5) (argsL := [(.long (q1 &&& (9223372036854775807 : Int64)))]) (rest := [(.ref b5)]) (lenOf pd_0_0 rfl) rfl (by show 2 * 0 + _ ≤ _; exact Nat.le_of_eq rfl) (hb hby at_13) (fun _ _ => ⟨rfl, e5, (by decide : 1 + 0 ≤ _), (by decide : 3 + 0 ≤ _)⟩)
  dsimp only [Pt.U, Pt.locs, Pt.cells, Pt.slots] at X6 l6 y6 z6 st6 hQ6
  subst l6 y6 z6
  obtain ⟨rfl, N6q, K6, E6', FL6, FS6, FR6⟩ := hQ6      -- what it returned, that it wrote nothing old, and the rest of your Q1
  have N6 := Fr.app N0 N6q
  have H6 : n0 ≤ T6.heap.size := Nat.le_trans H5 K6.1
  -- pc 26: com/example/exact_anchor/exactanchor/search/BudgetSpendPinLaw.pick by its contract rm3
  obtain ⟨_, _, ⟨T7, L7, k7, n7⟩, -, X7, ⟨Lc7, hQ7, l7, y7, z7⟩, st7⟩ := Jvm.LawKit.callS X6 hx (y := (⟨"com/example/exact_anchor/exactanchor/search/BudgetSpendPinLaw", "pick", "(JJI)J"⟩ : MethodName)) hown (mvT hZ (hw _ (List.mem_of_getElem? (i := 12) rfl))) (mvT hZ (hw _ (List.mem_of_getElem? (i := 13) rfl))) (mvT hZ (hw _ (List.mem_of_getElem? (i := 14) rfl))) (mvT hZ (hw _ (List.mem_of_getElem? (i := 15) rfl))) (by decide) (backOf (W := 0) (rm3x l Z a0 hw [] q2 (q1 &&& (9223372036854775807 : Int64)) (p4 &&& (7 : Int32)) x1 T6.heap n0 H6 hx1) hZ (hw _ (List.mem_of_getElem? (i := 15) rfl)) (hw _ (List.mem_of_getElem? (i := 14) rfl)) (by decide) (by decide)) (g := (mkF m 26 #[.val (.long q1), .second, .val (.long q2), .second, .val (.long q3), .second, .val (.int p4), .val (.long (q1 &&& (9223372036854775807 : Int64))), .second, .val (.ref b5), .unset, .unset, .unset, .unset, .unset, .unset, .unset, .unset, .unset, .unset, .unset, .unset, .unset, .unset] [(.int (p4 &&& (7 : Int32))), (.long (q1 &&& (9223372036854775807 : Int64))), (.long q2)])) rfl (by rw [hml]; rfl) (argsL := [(.long q2), (.long (q1 &&& (9223372036854775807 : Int64))), (.int (p4 &&& (7 : Int32)))]) (rest := []) (lenOf pd_0_2 rfl) rfl (by show 2 * 0 + _ ≤ _; exact Nat.le_of_eq rfl) (hb hby at_26) (fun _ _ => ⟨rfl, rfl, (by decide : 1 + 0 ≤ _), (by decide : 3 + 0 ≤ _)⟩)
  dsimp only [Pt.U, Pt.locs, Pt.cells, Pt.slots] at X7 l7 y7 z7 st7 hQ7
  subst l7 y7 z7
  obtain ⟨rfl, N7q, q7⟩ := hQ7      -- what it returned, that it wrote nothing old, and the rest of your Q3
  have N7 := Fr.app N6 N7q
  have H7 : n0 ≤ T7.heap.size := by rw [q7]; exact H6
  have E7' : Exa Z T7.heap b5 "com/example/exact_anchor/exactanchor/search/Budget" := by rw [q7]; exact E6'
  have FL7 : Fld Z T7.heap b5 "com/example/exact_anchor/exactanchor/search/Budget" "limit" "J" (.long (q1 &&& (9223372036854775807 : Int64))) := by rw [q7]; exact FL6
  have FS7 : Fld Z T7.heap b5 "com/example/exact_anchor/exactanchor/search/Budget" "spent" "J" (.long (0 : Int64)) := by rw [q7]; exact FS6
  have FR7 : Fld Z T7.heap b5 "com/example/exact_anchor/exactanchor/search/Budget" "refused" "Z" (.int (0 : Int32)) := by rw [q7]; exact FR6
  -- pc 35: com/example/exact_anchor/exactanchor/search/Budget.spend by the contract of the body that the receiver's class selects, rm4
  obtain ⟨cq8, kq8, q8a, q8b, q8c⟩ := isOf hZ rfl E7'
  obtain ⟨_, _, ⟨T8, L8, k8, n8⟩, -, X8, ⟨Lc8, hQ8, l8, y8, z8⟩, st8⟩ := X7.virtualBack hx (y := (⟨"com/example/exact_anchor/exactanchor/search/Budget", "spend", "(J)Z"⟩ : MethodName)) (z := (⟨"com/example/exact_anchor/exactanchor/search/Budget", "spend", "(J)Z"⟩ : MethodName)) hown (mvT hZ (hw _ (List.mem_of_getElem? (i := 16) rfl))) (mvT hZ (hw _ (List.mem_of_getElem? (i := 17) rfl))) (notFace_of_selects (args := #[]) (mvT hZ (hw _ (List.mem_of_getElem? (i := 19) rfl)))) (mvT hZ (hw _ (List.mem_of_getElem? (i := 19) rfl))) (mvT hZ (hw _ (List.mem_of_getElem? (i := 18) rfl))) (by decide) (backOf (W := 0) (rm4_t l Z a0 hw [] b5 x1 (q1 &&& (9223372036854775807 : Int64)) (0 : Int64) (0 : Int32) T7.heap n0 H7 FL7 FS7 E7' FR7 g_b5 (by rw [Int64.sub_zero]; exact h1)) hZ (hw _ (List.mem_of_getElem? (i := 20) rfl)) (hw _ (List.mem_of_getElem? (i := 3) rfl)) (by decide) (by decide)) q8a q8c (g := (mkF m 35 #[.val (.long q1), .second, .val (.long q2), .second, .val (.long q3), .second, .val (.int p4), .val (.long (q1 &&& (9223372036854775807 : Int64))), .second, .val (.ref b5), .val (.long x1), .second, .unset, .unset, .unset, .unset, .unset, .unset, .unset, .unset, .unset, .unset, .unset, .unset] [(.long x1), (.ref b5)])) rfl (by rw [hml]; rfl) (Steps.refl _) (argsL := [(.long x1)]) (rest := []) (lenOf pd_0_3 rfl) rfl (by show 2 * 0 + _ ≤ _; exact Nat.le_of_eq rfl) (hb hby at_35) (fun _ _ => ⟨rfl, rfl, (by decide : 1 + 0 ≤ _), (by decide : 3 + 0 ≤ _)⟩)
  dsimp only [Pt.U, Pt.locs, Pt.cells, Pt.slots] at X8 l8 y8 z8 st8 hQ8
  subst l8 y8 z8
  obtain ⟨rfl, N8q, K8, E8', FL8, FS8z, FR8⟩ := hQ8      -- what it returned, that it wrote nothing old, and the rest of your Q4
  have N8 := Fr.app N7 N8q
  have H8 : n0 ≤ T8.heap.size := Nat.le_trans H7 K8.1
  have FS8 : Fld Z T8.heap b5 "com/example/exact_anchor/exactanchor/search/Budget" "spent" "J" (.long x1) := by rw [Int64.zero_add] at FS8z; exact FS8z
  -- pc 77: com/example/exact_anchor/exactanchor/search/Budget.spent by the contract of the body that the receiver's class selects, rm5
  obtain ⟨cq9, kq9, q9a, q9b, q9c⟩ := isOf hZ rfl E8'
  obtain ⟨_, _, ⟨T9, L9, k9, n9⟩, -, X9, ⟨Lc9, hQ9, l9, y9, z9⟩, st9⟩ := X8.virtualBack hx (y := (⟨"com/example/exact_anchor/exactanchor/search/Budget", "spent", "()J"⟩ : MethodName)) (z := (⟨"com/example/exact_anchor/exactanchor/search/Budget", "spent", "()J"⟩ : MethodName)) hown (mvT hZ (hw _ (List.mem_of_getElem? (i := 23) rfl))) (mvT hZ (hw _ (List.mem_of_getElem? (i := 24) rfl))) (notFace_of_selects (args := #[]) (mvT hZ (hw _ (List.mem_of_getElem? (i := 26) rfl)))) (mvT hZ (hw _ (List.mem_of_getElem? (i := 26) rfl))) (mvT hZ (hw _ (List.mem_of_getElem? (i := 25) rfl))) (by decide) (backOf (W := 0) (rm5 l Z a0 hw [] b5 x1 T8.heap n0 H8 FS8) hZ (hw _ (List.mem_of_getElem? (i := 27) rfl)) (hw _ (List.mem_of_getElem? (i := 3) rfl)) (by decide) (by decide)) q9a q9c (g := (mkF m 77 #[.val (.long q1), .second, .val (.long q2), .second, .val (.long q3), .second, .val (.int p4), .val (.long (q1 &&& (9223372036854775807 : Int64))), .second, .val (.ref b5), .val (.long x1), .second, .val (.int (1 : Int32)), .val (.int (1 : Int32)), .val (.long x1), .second, .unset, .unset, .unset, .unset, .unset, .unset, .unset, .unset] [(.ref b5)])) rfl (by rw [hml]; rfl) (Steps.refl _) (argsL := []) (rest := []) (lenOf pd_0_4 rfl) rfl (by show 2 * 0 + _ ≤ _; exact Nat.le_of_eq rfl) (hb hby at_77) (fun _ _ => ⟨rfl, rfl, (by decide : 1 + 0 ≤ _), (by decide : 3 + 0 ≤ _)⟩)
  dsimp only [Pt.U, Pt.locs, Pt.cells, Pt.slots] at X9 l9 y9 z9 st9 hQ9
  subst l9 y9 z9
  obtain ⟨rfl, N9q, q9⟩ := hQ9      -- what it returned, that it wrote nothing old, and the rest of your Q5
  have N9 := Fr.app N8 N9q
  have H9 : n0 ≤ T9.heap.size := by rw [q9]; exact H8
  have E9' : Exa Z T9.heap b5 "com/example/exact_anchor/exactanchor/search/Budget" := by rw [q9]; exact E8'
  have FL9 : Fld Z T9.heap b5 "com/example/exact_anchor/exactanchor/search/Budget" "limit" "J" (.long (q1 &&& (9223372036854775807 : Int64))) := by rw [q9]; exact FL8
  have FS9 : Fld Z T9.heap b5 "com/example/exact_anchor/exactanchor/search/Budget" "spent" "J" (.long x1) := by rw [q9]; exact FS8
  have FR9 : Fld Z T9.heap b5 "com/example/exact_anchor/exactanchor/search/Budget" "refused" "Z" (.int (0 : Int32)) := by rw [q9]; exact FR8
  -- pc 88: com/example/exact_anchor/exactanchor/search/Budget.exhausted by the contract of the body that the receiver's class selects, rm6
  obtain ⟨cq10, kq10, q10a, q10b, q10c⟩ := isOf hZ rfl E9'
  obtain ⟨_, _, ⟨T10, L10, k10, n10⟩, -, X10, ⟨Lc10, hQ10, l10, y10, z10⟩, st10⟩ := X9.virtualBack hx (y := (⟨"com/example/exact_anchor/exactanchor/search/Budget", "exhausted", "()Z"⟩ : MethodName)) (z := (⟨"com/example/exact_anchor/exactanchor/search/Budget", "exhausted", "()Z"⟩ : MethodName)) hown (mvT hZ (hw _ (List.mem_of_getElem? (i := 28) rfl))) (mvT hZ (hw _ (List.mem_of_getElem? (i := 29) rfl))) (notFace_of_selects (args := #[]) (mvT hZ (hw _ (List.mem_of_getElem? (i := 31) rfl)))) (mvT hZ (hw _ (List.mem_of_getElem? (i := 31) rfl))) (mvT hZ (hw _ (List.mem_of_getElem? (i := 30) rfl))) (by decide) (backOf (W := 0) (rm6 l Z a0 hw [] b5 (0 : Int32) T9.heap n0 H9 FR9 rfl) hZ (hw _ (List.mem_of_getElem? (i := 32) rfl)) (hw _ (List.mem_of_getElem? (i := 3) rfl)) (by decide) (by decide)) q10a q10c (g := (mkF m 88 #[.val (.long q1), .second, .val (.long q2), .second, .val (.long q3), .second, .val (.int p4), .val (.long (q1 &&& (9223372036854775807 : Int64))), .second, .val (.ref b5), .val (.long x1), .second, .val (.int (1 : Int32)), .val (.int (1 : Int32)), .val (.long x1), .second, .unset, .unset, .unset, .unset, .unset, .unset, .unset, .unset] [(.ref b5)])) rfl (by rw [hml]; rfl) (Steps.refl _) (argsL := []) (rest := []) (lenOf pd_0_5 rfl) rfl (by show 2 * 0 + _ ≤ _; exact Nat.le_of_eq rfl) (hb hby at_88) (fun _ _ => ⟨rfl, rfl, (by decide : 1 + 0 ≤ _), (by decide : 3 + 0 ≤ _)⟩)
  dsimp only [Pt.U, Pt.locs, Pt.cells, Pt.slots] at X10 l10 y10 z10 st10 hQ10
  subst l10 y10 z10
  obtain ⟨rfl, N10q, q10⟩ := hQ10      -- what it returned, that it wrote nothing old, and the rest of your Q6
  have N10 := Fr.app N9 N10q
  have H10 : n0 ≤ T10.heap.size := by rw [q10]; exact H9
  have E10' : Exa Z T10.heap b5 "com/example/exact_anchor/exactanchor/search/Budget" := by rw [q10]; exact E9'
  have FL10 : Fld Z T10.heap b5 "com/example/exact_anchor/exactanchor/search/Budget" "limit" "J" (.long (q1 &&& (9223372036854775807 : Int64))) := by rw [q10]; exact FL9
  have FS10 : Fld Z T10.heap b5 "com/example/exact_anchor/exactanchor/search/Budget" "spent" "J" (.long x1) := by rw [q10]; exact FS9
  have FR10 : Fld Z T10.heap b5 "com/example/exact_anchor/exactanchor/search/Budget" "refused" "Z" (.int (0 : Int32)) := by rw [q10]; exact FR9
  -- pc 124: com/example/exact_anchor/exactanchor/search/BudgetSpendPinLaw.pick by its contract rm3
  obtain ⟨_, _, ⟨T11, L11, k11, n11⟩, -, X11, ⟨Lc11, hQ11, l11, y11, z11⟩, st11⟩ := Jvm.LawKit.callS X10 hx (y := (⟨"com/example/exact_anchor/exactanchor/search/BudgetSpendPinLaw", "pick", "(JJI)J"⟩ : MethodName)) hown (mvT hZ (hw _ (List.mem_of_getElem? (i := 12) rfl))) (mvT hZ (hw _ (List.mem_of_getElem? (i := 13) rfl))) (mvT hZ (hw _ (List.mem_of_getElem? (i := 14) rfl))) (mvT hZ (hw _ (List.mem_of_getElem? (i := 15) rfl))) (by decide) (backOf (W := 0) (rm3x l Z a0 hw [] q3 ((q1 &&& (9223372036854775807 : Int64)) - x1) (((p4.toUInt32 >>> ((3 : Int32) &&& 31).toUInt32).toInt32) &&& (7 : Int32)) x2 T10.heap n0 H10 hx2) hZ (hw _ (List.mem_of_getElem? (i := 15) rfl)) (hw _ (List.mem_of_getElem? (i := 14) rfl)) (by decide) (by decide)) (g := (mkF m 124 #[.val (.long q1), .second, .val (.long q2), .second, .val (.long q3), .second, .val (.int p4), .val (.long (q1 &&& (9223372036854775807 : Int64))), .second, .val (.ref b5), .val (.long x1), .second, .val (.int (1 : Int32)), .val (.int (1 : Int32)), .val (.long x1), .second, .val (.long ((q1 &&& (9223372036854775807 : Int64)) - x1)), .second, .unset, .unset, .unset, .unset, .unset, .unset] [(.int (((p4.toUInt32 >>> ((3 : Int32) &&& 31).toUInt32).toInt32) &&& (7 : Int32))), (.long ((q1 &&& (9223372036854775807 : Int64)) - x1)), (.long q3)])) rfl (by rw [hml]; rfl) (argsL := [(.long q3), (.long ((q1 &&& (9223372036854775807 : Int64)) - x1)), (.int (((p4.toUInt32 >>> ((3 : Int32) &&& 31).toUInt32).toInt32) &&& (7 : Int32)))]) (rest := []) (lenOf pd_0_2 rfl) rfl (by show 2 * 0 + _ ≤ _; exact Nat.le_of_eq rfl) (hb hby at_124) (fun _ _ => ⟨rfl, rfl, (by decide : 1 + 0 ≤ _), (by decide : 3 + 0 ≤ _)⟩)
  dsimp only [Pt.U, Pt.locs, Pt.cells, Pt.slots] at X11 l11 y11 z11 st11 hQ11
  subst l11 y11 z11
  obtain ⟨rfl, N11q, q11⟩ := hQ11      -- what it returned, that it wrote nothing old, and the rest of your Q3
  have N11 := Fr.app N10 N11q
  have H11 : n0 ≤ T11.heap.size := by rw [q11]; exact H10
  have E11' : Exa Z T11.heap b5 "com/example/exact_anchor/exactanchor/search/Budget" := by rw [q11]; exact E10'
  have FL11 : Fld Z T11.heap b5 "com/example/exact_anchor/exactanchor/search/Budget" "limit" "J" (.long (q1 &&& (9223372036854775807 : Int64))) := by rw [q11]; exact FL10
  have FS11 : Fld Z T11.heap b5 "com/example/exact_anchor/exactanchor/search/Budget" "spent" "J" (.long x1) := by rw [q11]; exact FS10
  have FR11 : Fld Z T11.heap b5 "com/example/exact_anchor/exactanchor/search/Budget" "refused" "Z" (.int (0 : Int32)) := by rw [q11]; exact FR10
  -- pc 133: com/example/exact_anchor/exactanchor/search/Budget.spend by the contract of the body that the receiver's class selects, rm4
  obtain ⟨cq12, kq12, q12a, q12b, q12c⟩ := isOf hZ rfl E11'
  obtain ⟨_, _, ⟨T12, L12, k12, n12⟩, -, X12, ⟨Lc12, hQ12, l12, y12, z12⟩, st12⟩ := X11.virtualBack hx (y := (⟨"com/example/exact_anchor/exactanchor/search/Budget", "spend", "(J)Z"⟩ : MethodName)) (z := (⟨"com/example/exact_anchor/exactanchor/search/Budget", "spend", "(J)Z"⟩ : MethodName)) hown (mvT hZ (hw _ (List.mem_of_getElem? (i := 16) rfl))) (mvT hZ (hw _ (List.mem_of_getElem? (i := 17) rfl))) (notFace_of_selects (args := #[]) (mvT hZ (hw _ (List.mem_of_getElem? (i := 19) rfl)))) (mvT hZ (hw _ (List.mem_of_getElem? (i := 19) rfl))) (mvT hZ (hw _ (List.mem_of_getElem? (i := 18) rfl))) (by decide) (backOf (W := 0) (rm4_t l Z a0 hw [] b5 x2 (q1 &&& (9223372036854775807 : Int64)) x1 (0 : Int32) T11.heap n0 H11 FL11 FS11 E11' FR11 g_b5 h2) hZ (hw _ (List.mem_of_getElem? (i := 20) rfl)) (hw _ (List.mem_of_getElem? (i := 3) rfl)) (by decide) (by decide)) q12a q12c (g := (mkF m 133 #[.val (.long q1), .second, .val (.long q2), .second, .val (.long q3), .second, .val (.int p4), .val (.long (q1 &&& (9223372036854775807 : Int64))), .second, .val (.ref b5), .val (.long x1), .second, .val (.int (1 : Int32)), .val (.int (1 : Int32)), .val (.long x1), .second, .val (.long ((q1 &&& (9223372036854775807 : Int64)) - x1)), .second, .val (.long x2), .second, .unset, .unset, .unset, .unset] [(.long x2), (.ref b5)])) rfl (by rw [hml]; rfl) (Steps.refl _) (argsL := [(.long x2)]) (rest := []) (lenOf pd_0_3 rfl) rfl (by show 2 * 0 + _ ≤ _; exact Nat.le_of_eq rfl) (hb hby at_133) (fun _ _ => ⟨rfl, rfl, (by decide : 1 + 0 ≤ _), (by decide : 3 + 0 ≤ _)⟩)
  dsimp only [Pt.U, Pt.locs, Pt.cells, Pt.slots] at X12 l12 y12 z12 st12 hQ12
  subst l12 y12 z12
  obtain ⟨rfl, N12q, K12, E12', FL12, FS12, FR12⟩ := hQ12      -- what it returned, that it wrote nothing old, and the rest of your Q4
  have N12 := Fr.app N11 N12q
  have H12 : n0 ≤ T12.heap.size := Nat.le_trans H11 K12.1
  -- pc 179: com/example/exact_anchor/exactanchor/search/Budget.spent by the contract of the body that the receiver's class selects, rm5
  obtain ⟨cq13, kq13, q13a, q13b, q13c⟩ := isOf hZ rfl E12'
  obtain ⟨_, _, ⟨T13, L13, k13, n13⟩, -, X13, ⟨Lc13, hQ13, l13, y13, z13⟩, st13⟩ := X12.virtualBack hx (y := (⟨"com/example/exact_anchor/exactanchor/search/Budget", "spent", "()J"⟩ : MethodName)) (z := (⟨"com/example/exact_anchor/exactanchor/search/Budget", "spent", "()J"⟩ : MethodName)) hown (mvT hZ (hw _ (List.mem_of_getElem? (i := 23) rfl))) (mvT hZ (hw _ (List.mem_of_getElem? (i := 24) rfl))) (notFace_of_selects (args := #[]) (mvT hZ (hw _ (List.mem_of_getElem? (i := 26) rfl)))) (mvT hZ (hw _ (List.mem_of_getElem? (i := 26) rfl))) (mvT hZ (hw _ (List.mem_of_getElem? (i := 25) rfl))) (by decide) (backOf (W := 0) (rm5 l Z a0 hw [] b5 (x1 + x2) T12.heap n0 H12 FS12) hZ (hw _ (List.mem_of_getElem? (i := 27) rfl)) (hw _ (List.mem_of_getElem? (i := 3) rfl)) (by decide) (by decide)) q13a q13c (g := (mkF m 179 #[.val (.long q1), .second, .val (.long q2), .second, .val (.long q3), .second, .val (.int p4), .val (.long (q1 &&& (9223372036854775807 : Int64))), .second, .val (.ref b5), .val (.long x1), .second, .val (.int (1 : Int32)), .val (.int (1 : Int32)), .val (.long x1), .second, .val (.long ((q1 &&& (9223372036854775807 : Int64)) - x1)), .second, .val (.long x2), .second, .val (.int (1 : Int32)), .val (.int (1 : Int32)), .val (.long (x1 + x2)), .second] [(.ref b5)])) rfl (by rw [hml]; rfl) (Steps.refl _) (argsL := []) (rest := []) (lenOf pd_0_4 rfl) rfl (by show 2 * 0 + _ ≤ _; exact Nat.le_of_eq rfl) (hb hby at_179) (fun _ _ => ⟨rfl, rfl, (by decide : 1 + 0 ≤ _), (by decide : 3 + 0 ≤ _)⟩)
  dsimp only [Pt.U, Pt.locs, Pt.cells, Pt.slots] at X13 l13 y13 z13 st13 hQ13
  subst l13 y13 z13
  obtain ⟨rfl, N13q, q13⟩ := hQ13      -- what it returned, that it wrote nothing old, and the rest of your Q5
  have N13 := Fr.app N12 N13q
  have H13 : n0 ≤ T13.heap.size := by rw [q13]; exact H12
  have E13' : Exa Z T13.heap b5 "com/example/exact_anchor/exactanchor/search/Budget" := by rw [q13]; exact E12'
  have FL13 : Fld Z T13.heap b5 "com/example/exact_anchor/exactanchor/search/Budget" "limit" "J" (.long (q1 &&& (9223372036854775807 : Int64))) := by rw [q13]; exact FL12
  have FS13 : Fld Z T13.heap b5 "com/example/exact_anchor/exactanchor/search/Budget" "spent" "J" (.long (x1 + x2)) := by rw [q13]; exact FS12
  have FR13 : Fld Z T13.heap b5 "com/example/exact_anchor/exactanchor/search/Budget" "refused" "Z" (.int (0 : Int32)) := by rw [q13]; exact FR12
  -- pc 190: com/example/exact_anchor/exactanchor/search/Budget.exhausted by the contract of the body that the receiver's class selects, rm6
  obtain ⟨cq14, kq14, q14a, q14b, q14c⟩ := isOf hZ rfl E13'
  obtain ⟨_, _, ⟨T14, L14, k14, n14⟩, -, X14, ⟨Lc14, hQ14, l14, y14, z14⟩, st14⟩ := X13.virtualBack hx (y := (⟨"com/example/exact_anchor/exactanchor/search/Budget", "exhausted", "()Z"⟩ : MethodName)) (z := (⟨"com/example/exact_anchor/exactanchor/search/Budget", "exhausted", "()Z"⟩ : MethodName)) hown (mvT hZ (hw _ (List.mem_of_getElem? (i := 28) rfl))) (mvT hZ (hw _ (List.mem_of_getElem? (i := 29) rfl))) (notFace_of_selects (args := #[]) (mvT hZ (hw _ (List.mem_of_getElem? (i := 31) rfl)))) (mvT hZ (hw _ (List.mem_of_getElem? (i := 31) rfl))) (mvT hZ (hw _ (List.mem_of_getElem? (i := 30) rfl))) (by decide) (backOf (W := 0) (rm6 l Z a0 hw [] b5 (0 : Int32) T13.heap n0 H13 FR13 rfl) hZ (hw _ (List.mem_of_getElem? (i := 32) rfl)) (hw _ (List.mem_of_getElem? (i := 3) rfl)) (by decide) (by decide)) q14a q14c (g := (mkF m 190 #[.val (.long q1), .second, .val (.long q2), .second, .val (.long q3), .second, .val (.int p4), .val (.long (q1 &&& (9223372036854775807 : Int64))), .second, .val (.ref b5), .val (.long x1), .second, .val (.int (1 : Int32)), .val (.int (1 : Int32)), .val (.long x1), .second, .val (.long ((q1 &&& (9223372036854775807 : Int64)) - x1)), .second, .val (.long x2), .second, .val (.int (1 : Int32)), .val (.int (1 : Int32)), .val (.long (x1 + x2)), .second] [(.ref b5)])) rfl (by rw [hml]; rfl) (Steps.refl _) (argsL := []) (rest := []) (lenOf pd_0_5 rfl) rfl (by show 2 * 0 + _ ≤ _; exact Nat.le_of_eq rfl) (hb hby at_190) (fun _ _ => ⟨rfl, rfl, (by decide : 1 + 0 ≤ _), (by decide : 3 + 0 ≤ _)⟩)
  dsimp only [Pt.U, Pt.locs, Pt.cells, Pt.slots] at X14 l14 y14 z14 st14 hQ14
  subst l14 y14 z14
  obtain ⟨rfl, N14q, q14⟩ := hQ14      -- what it returned, that it wrote nothing old, and the rest of your Q6
  have N14 := Fr.app N13 N14q
  have H14 : n0 ≤ T14.heap.size := by rw [q14]; exact H13
  have E14' : Exa Z T14.heap b5 "com/example/exact_anchor/exactanchor/search/Budget" := by rw [q14]; exact E13'
  have FL14 : Fld Z T14.heap b5 "com/example/exact_anchor/exactanchor/search/Budget" "limit" "J" (.long (q1 &&& (9223372036854775807 : Int64))) := by rw [q14]; exact FL13
  have FS14 : Fld Z T14.heap b5 "com/example/exact_anchor/exactanchor/search/Budget" "spent" "J" (.long (x1 + x2)) := by rw [q14]; exact FS13
  have FR14 : Fld Z T14.heap b5 "com/example/exact_anchor/exactanchor/search/Budget" "refused" "Z" (.int (0 : Int32)) := by rw [q14]; exact FR13
  obtain ⟨fs, hr, hrun, hended, hW, hsame⟩ := X14.leave (v := some (.int (1 : Int32))) (fun h => by rw [Bd.returns] at h; cases h)
  refine ⟨_, _, pre0 _ ?_, hrun, hended, _, _, rfl, ?_, ⟨_, rfl⟩, hW, hsame.mono (by decide) (by decide)⟩
  -- 4. STEPS
  · show Steps p.tables e below (s₁.setTop (mkF m 0 #[.val (.long q1), .second, .val (.long q2), .second, .val (.long q3), .second, .val (.int p4), .unset, .unset, .unset, .unset, .unset, .unset, .unset, .unset, .unset, .unset, .unset, .unset, .unset, .unset, .unset, .unset, .unset] [])) _
    refine XS.lloadN X0.here hx rfl (hb hby at_0) rfl ?_
    show Steps p.tables e below (s₁.setTop (mkF m 1 #[.val (.long q1), .second, .val (.long q2), .second, .val (.long q3), .second, .val (.int p4), .unset, .unset, .unset, .unset, .unset, .unset, .unset, .unset, .unset, .unset, .unset, .unset, .unset, .unset, .unset, .unset, .unset] [(.long q1)])) _
    refine X0.ldc2Long hx hown (mvT hZ (hw _ (List.mem_of_getElem? (i := 0) rfl))) (g := (mkF m 1 #[.val (.long q1), .second, .val (.long q2), .second, .val (.long q3), .second, .val (.int p4), .unset, .unset, .unset, .unset, .unset, .unset, .unset, .unset, .unset, .unset, .unset, .unset, .unset, .unset, .unset, .unset, .unset] [(.long q1)])) rfl (hb hby at_1) _ ?_
    show Steps p.tables e below (s₁.setTop (mkF m 4 #[.val (.long q1), .second, .val (.long q2), .second, .val (.long q3), .second, .val (.int p4), .unset, .unset, .unset, .unset, .unset, .unset, .unset, .unset, .unset, .unset, .unset, .unset, .unset, .unset, .unset, .unset, .unset] [(.long (9223372036854775807 : Int64)), (.long q1)])) _
    refine XS.land X0.here hx rfl (hb hby at_4) rfl ?_
    show Steps p.tables e below (s₁.setTop (mkF m 5 #[.val (.long q1), .second, .val (.long q2), .second, .val (.long q3), .second, .val (.int p4), .unset, .unset, .unset, .unset, .unset, .unset, .unset, .unset, .unset, .unset, .unset, .unset, .unset, .unset, .unset, .unset, .unset] [(.long (q1 &&& (9223372036854775807 : Int64)))])) _
    refine XS.lstore X0.here hx rfl (hb hby at_5) rfl (l' := #[.val (.long q1), .second, .val (.long q2), .second, .val (.long q3), .second, .val (.int p4), .val (.long (q1 &&& (9223372036854775807 : Int64))), .second, .unset, .unset, .unset, .unset, .unset, .unset, .unset, .unset, .unset, .unset, .unset, .unset, .unset, .unset, .unset]) rfl ?_
    show Steps p.tables e below (s₁.setTop (mkF m 7 #[.val (.long q1), .second, .val (.long q2), .second, .val (.long q3), .second, .val (.int p4), .val (.long (q1 &&& (9223372036854775807 : Int64))), .second, .unset, .unset, .unset, .unset, .unset, .unset, .unset, .unset, .unset, .unset, .unset, .unset, .unset, .unset, .unset] [])) _
    refine st5 _ ?_
    show Steps p.tables e below (T5.setTop (mkF m 10 #[.val (.long q1), .second, .val (.long q2), .second, .val (.long q3), .second, .val (.int p4), .val (.long (q1 &&& (9223372036854775807 : Int64))), .second, .unset, .unset, .unset, .unset, .unset, .unset, .unset, .unset, .unset, .unset, .unset, .unset, .unset, .unset, .unset] [(.ref b5)])) _
    refine XS.dup X5.here hx rfl (hb hby at_10) rfl rfl ?_
    show Steps p.tables e below (T5.setTop (mkF m 11 #[.val (.long q1), .second, .val (.long q2), .second, .val (.long q3), .second, .val (.int p4), .val (.long (q1 &&& (9223372036854775807 : Int64))), .second, .unset, .unset, .unset, .unset, .unset, .unset, .unset, .unset, .unset, .unset, .unset, .unset, .unset, .unset, .unset] [(.ref b5), (.ref b5)])) _
    refine XS.lload X5.here hx rfl (hb hby at_11) rfl ?_
    show Steps p.tables e below (T5.setTop (mkF m 13 #[.val (.long q1), .second, .val (.long q2), .second, .val (.long q3), .second, .val (.int p4), .val (.long (q1 &&& (9223372036854775807 : Int64))), .second, .unset, .unset, .unset, .unset, .unset, .unset, .unset, .unset, .unset, .unset, .unset, .unset, .unset, .unset, .unset] [(.long (q1 &&& (9223372036854775807 : Int64))), (.ref b5), (.ref b5)])) _
    refine st6.trans ?_
    show Steps p.tables e below (T6.setTop (mkF m 16 #[.val (.long q1), .second, .val (.long q2), .second, .val (.long q3), .second, .val (.int p4), .val (.long (q1 &&& (9223372036854775807 : Int64))), .second, .unset, .unset, .unset, .unset, .unset, .unset, .unset, .unset, .unset, .unset, .unset, .unset, .unset, .unset, .unset] [(.ref b5)])) _
    refine XS.astore X6.here hx rfl (hb hby at_16) rfl rfl (l' := #[.val (.long q1), .second, .val (.long q2), .second, .val (.long q3), .second, .val (.int p4), .val (.long (q1 &&& (9223372036854775807 : Int64))), .second, .val (.ref b5), .unset, .unset, .unset, .unset, .unset, .unset, .unset, .unset, .unset, .unset, .unset, .unset, .unset, .unset]) rfl ?_
    show Steps p.tables e below (T6.setTop (mkF m 18 #[.val (.long q1), .second, .val (.long q2), .second, .val (.long q3), .second, .val (.int p4), .val (.long (q1 &&& (9223372036854775807 : Int64))), .second, .val (.ref b5), .unset, .unset, .unset, .unset, .unset, .unset, .unset, .unset, .unset, .unset, .unset, .unset, .unset, .unset] [])) _
    refine XS.lloadN X6.here hx rfl (hb hby at_18) rfl ?_
    show Steps p.tables e below (T6.setTop (mkF m 19 #[.val (.long q1), .second, .val (.long q2), .second, .val (.long q3), .second, .val (.int p4), .val (.long (q1 &&& (9223372036854775807 : Int64))), .second, .val (.ref b5), .unset, .unset, .unset, .unset, .unset, .unset, .unset, .unset, .unset, .unset, .unset, .unset, .unset, .unset] [(.long q2)])) _
    refine XS.lload X6.here hx rfl (hb hby at_19) rfl ?_
    show Steps p.tables e below (T6.setTop (mkF m 21 #[.val (.long q1), .second, .val (.long q2), .second, .val (.long q3), .second, .val (.int p4), .val (.long (q1 &&& (9223372036854775807 : Int64))), .second, .val (.ref b5), .unset, .unset, .unset, .unset, .unset, .unset, .unset, .unset, .unset, .unset, .unset, .unset, .unset, .unset] [(.long (q1 &&& (9223372036854775807 : Int64))), (.long q2)])) _
    refine XS.iload X6.here hx rfl (hb hby at_21) rfl ?_
    show Steps p.tables e below (T6.setTop (mkF m 23 #[.val (.long q1), .second, .val (.long q2), .second, .val (.long q3), .second, .val (.int p4), .val (.long (q1 &&& (9223372036854775807 : Int64))), .second, .val (.ref b5), .unset, .unset, .unset, .unset, .unset, .unset, .unset, .unset, .unset, .unset, .unset, .unset, .unset, .unset] [(.int p4), (.long (q1 &&& (9223372036854775807 : Int64))), (.long q2)])) _
    refine XS.bipush X6.here hx rfl (hb hby at_23) ?_
    show Steps p.tables e below (T6.setTop (mkF m 25 #[.val (.long q1), .second, .val (.long q2), .second, .val (.long q3), .second, .val (.int p4), .val (.long (q1 &&& (9223372036854775807 : Int64))), .second, .val (.ref b5), .unset, .unset, .unset, .unset, .unset, .unset, .unset, .unset, .unset, .unset, .unset, .unset, .unset, .unset] [(.int (7 : Int32)), (.int p4), (.long (q1 &&& (9223372036854775807 : Int64))), (.long q2)])) _
    refine XS.iand X6.here hx rfl (hb hby at_25) rfl ?_
    show Steps p.tables e below (T6.setTop (mkF m 26 #[.val (.long q1), .second, .val (.long q2), .second, .val (.long q3), .second, .val (.int p4), .val (.long (q1 &&& (9223372036854775807 : Int64))), .second, .val (.ref b5), .unset, .unset, .unset, .unset, .unset, .unset, .unset, .unset, .unset, .unset, .unset, .unset, .unset, .unset] [(.int (p4 &&& (7 : Int32))), (.long (q1 &&& (9223372036854775807 : Int64))), (.long q2)])) _
    refine st7 _ ?_
    show Steps p.tables e below (T7.setTop (mkF m 29 #[.val (.long q1), .second, .val (.long q2), .second, .val (.long q3), .second, .val (.int p4), .val (.long (q1 &&& (9223372036854775807 : Int64))), .second, .val (.ref b5), .unset, .unset, .unset, .unset, .unset, .unset, .unset, .unset, .unset, .unset, .unset, .unset, .unset, .unset] [(.long x1)])) _
    refine XS.lstore X7.here hx rfl (hb hby at_29) rfl (l' := #[.val (.long q1), .second, .val (.long q2), .second, .val (.long q3), .second, .val (.int p4), .val (.long (q1 &&& (9223372036854775807 : Int64))), .second, .val (.ref b5), .val (.long x1), .second, .unset, .unset, .unset, .unset, .unset, .unset, .unset, .unset, .unset, .unset, .unset, .unset]) rfl ?_
    show Steps p.tables e below (T7.setTop (mkF m 31 #[.val (.long q1), .second, .val (.long q2), .second, .val (.long q3), .second, .val (.int p4), .val (.long (q1 &&& (9223372036854775807 : Int64))), .second, .val (.ref b5), .val (.long x1), .second, .unset, .unset, .unset, .unset, .unset, .unset, .unset, .unset, .unset, .unset, .unset, .unset] [])) _
    refine XS.aload X7.here hx rfl (hb hby at_31) rfl rfl ?_
    show Steps p.tables e below (T7.setTop (mkF m 33 #[.val (.long q1), .second, .val (.long q2), .second, .val (.long q3), .second, .val (.int p4), .val (.long (q1 &&& (9223372036854775807 : Int64))), .second, .val (.ref b5), .val (.long x1), .second, .unset, .unset, .unset, .unset, .unset, .unset, .unset, .unset, .unset, .unset, .unset, .unset] [(.ref b5)])) _
    refine XS.lload X7.here hx rfl (hb hby at_33) rfl ?_
    show Steps p.tables e below (T7.setTop (mkF m 35 #[.val (.long q1), .second, .val (.long q2), .second, .val (.long q3), .second, .val (.int p4), .val (.long (q1 &&& (9223372036854775807 : Int64))), .second, .val (.ref b5), .val (.long x1), .second, .unset, .unset, .unset, .unset, .unset, .unset, .unset, .unset, .unset, .unset, .unset, .unset] [(.long x1), (.ref b5)])) _
    refine st8.trans ?_
    show Steps p.tables e below (T8.setTop (mkF m 38 #[.val (.long q1), .second, .val (.long q2), .second, .val (.long q3), .second, .val (.int p4), .val (.long (q1 &&& (9223372036854775807 : Int64))), .second, .val (.ref b5), .val (.long x1), .second, .unset, .unset, .unset, .unset, .unset, .unset, .unset, .unset, .unset, .unset, .unset, .unset] [(.int (1 : Int32))])) _
    refine XS.istore X8.here hx rfl (hb hby at_38) rfl (l' := #[.val (.long q1), .second, .val (.long q2), .second, .val (.long q3), .second, .val (.int p4), .val (.long (q1 &&& (9223372036854775807 : Int64))), .second, .val (.ref b5), .val (.long x1), .second, .val (.int (1 : Int32)), .unset, .unset, .unset, .unset, .unset, .unset, .unset, .unset, .unset, .unset, .unset]) rfl ?_
    show Steps p.tables e below (T8.setTop (mkF m 40 #[.val (.long q1), .second, .val (.long q2), .second, .val (.long q3), .second, .val (.int p4), .val (.long (q1 &&& (9223372036854775807 : Int64))), .second, .val (.ref b5), .val (.long x1), .second, .val (.int (1 : Int32)), .unset, .unset, .unset, .unset, .unset, .unset, .unset, .unset, .unset, .unset, .unset] [])) _
    refine XS.lload X8.here hx rfl (hb hby at_40) rfl ?_
    show Steps p.tables e below (T8.setTop (mkF m 42 #[.val (.long q1), .second, .val (.long q2), .second, .val (.long q3), .second, .val (.int p4), .val (.long (q1 &&& (9223372036854775807 : Int64))), .second, .val (.ref b5), .val (.long x1), .second, .val (.int (1 : Int32)), .unset, .unset, .unset, .unset, .unset, .unset, .unset, .unset, .unset, .unset, .unset] [(.long x1)])) _
    refine XS.lload X8.here hx rfl (hb hby at_42) rfl ?_
    show Steps p.tables e below (T8.setTop (mkF m 44 #[.val (.long q1), .second, .val (.long q2), .second, .val (.long q3), .second, .val (.int p4), .val (.long (q1 &&& (9223372036854775807 : Int64))), .second, .val (.ref b5), .val (.long x1), .second, .val (.int (1 : Int32)), .unset, .unset, .unset, .unset, .unset, .unset, .unset, .unset, .unset, .unset, .unset] [(.long (q1 &&& (9223372036854775807 : Int64))), (.long x1)])) _
    refine XS.lcmp X8.here hx rfl (hb hby at_44) rfl ?_
    show Steps p.tables e below (T8.setTop (mkF m 45 #[.val (.long q1), .second, .val (.long q2), .second, .val (.long q3), .second, .val (.int p4), .val (.long (q1 &&& (9223372036854775807 : Int64))), .second, .val (.ref b5), .val (.long x1), .second, .val (.int (1 : Int32)), .unset, .unset, .unset, .unset, .unset, .unset, .unset, .unset, .unset, .unset, .unset] [(.int (lcmpW x1 (q1 &&& (9223372036854775807 : Int64))))])) _
    refine XS.ifNo X8.here hx rfl (hb hby at_45) rfl ((if0 _ _).trans (flt (h1 : ¬ ((0 : Int32) < (lcmpW x1 (q1 &&& (9223372036854775807 : Int64)))))).2.2.1) ?_
    show Steps p.tables e below (T8.setTop (mkF m 48 #[.val (.long q1), .second, .val (.long q2), .second, .val (.long q3), .second, .val (.int p4), .val (.long (q1 &&& (9223372036854775807 : Int64))), .second, .val (.ref b5), .val (.long x1), .second, .val (.int (1 : Int32)), .unset, .unset, .unset, .unset, .unset, .unset, .unset, .unset, .unset, .unset, .unset] [])) _
    refine XS.iconst X8.here hx rfl (hb hby at_48) ?_
    show Steps p.tables e below (T8.setTop (mkF m 49 #[.val (.long q1), .second, .val (.long q2), .second, .val (.long q3), .second, .val (.int p4), .val (.long (q1 &&& (9223372036854775807 : Int64))), .second, .val (.ref b5), .val (.long x1), .second, .val (.int (1 : Int32)), .unset, .unset, .unset, .unset, .unset, .unset, .unset, .unset, .unset, .unset, .unset] [(.int (1 : Int32))])) _
    refine XS.goto X8.here hx rfl (pc0 := 49) (pc' := 53) rfl (hb hby at_49) (by decide) (by decide) ?_
    show Steps p.tables e below (T8.setTop (mkF m 53 #[.val (.long q1), .second, .val (.long q2), .second, .val (.long q3), .second, .val (.int p4), .val (.long (q1 &&& (9223372036854775807 : Int64))), .second, .val (.ref b5), .val (.long x1), .second, .val (.int (1 : Int32)), .unset, .unset, .unset, .unset, .unset, .unset, .unset, .unset, .unset, .unset, .unset] [(.int (1 : Int32))])) _
    refine XS.istore X8.here hx rfl (hb hby at_53) rfl (l' := #[.val (.long q1), .second, .val (.long q2), .second, .val (.long q3), .second, .val (.int p4), .val (.long (q1 &&& (9223372036854775807 : Int64))), .second, .val (.ref b5), .val (.long x1), .second, .val (.int (1 : Int32)), .val (.int (1 : Int32)), .unset, .unset, .unset, .unset, .unset, .unset, .unset, .unset, .unset, .unset]) rfl ?_
    show Steps p.tables e below (T8.setTop (mkF m 55 #[.val (.long q1), .second, .val (.long q2), .second, .val (.long q3), .second, .val (.int p4), .val (.long (q1 &&& (9223372036854775807 : Int64))), .second, .val (.ref b5), .val (.long x1), .second, .val (.int (1 : Int32)), .val (.int (1 : Int32)), .unset, .unset, .unset, .unset, .unset, .unset, .unset, .unset, .unset, .unset] [])) _
    refine XS.iload X8.here hx rfl (hb hby at_55) rfl ?_
    show Steps p.tables e below (T8.setTop (mkF m 57 #[.val (.long q1), .second, .val (.long q2), .second, .val (.long q3), .second, .val (.int p4), .val (.long (q1 &&& (9223372036854775807 : Int64))), .second, .val (.ref b5), .val (.long x1), .second, .val (.int (1 : Int32)), .val (.int (1 : Int32)), .unset, .unset, .unset, .unset, .unset, .unset, .unset, .unset, .unset, .unset] [(.int (1 : Int32))])) _
    refine XS.ifNo X8.here hx rfl (hb hby at_57) rfl ((if0 _ _).trans (feq hc57).1) ?_
    show Steps p.tables e below (T8.setTop (mkF m 60 #[.val (.long q1), .second, .val (.long q2), .second, .val (.long q3), .second, .val (.int p4), .val (.long (q1 &&& (9223372036854775807 : Int64))), .second, .val (.ref b5), .val (.long x1), .second, .val (.int (1 : Int32)), .val (.int (1 : Int32)), .unset, .unset, .unset, .unset, .unset, .unset, .unset, .unset, .unset, .unset] [])) _
    refine XS.lload X8.here hx rfl (hb hby at_60) rfl ?_
    show Steps p.tables e below (T8.setTop (mkF m 62 #[.val (.long q1), .second, .val (.long q2), .second, .val (.long q3), .second, .val (.int p4), .val (.long (q1 &&& (9223372036854775807 : Int64))), .second, .val (.ref b5), .val (.long x1), .second, .val (.int (1 : Int32)), .val (.int (1 : Int32)), .unset, .unset, .unset, .unset, .unset, .unset, .unset, .unset, .unset, .unset] [(.long x1)])) _
    refine XS.goto X8.here hx rfl (pc0 := 62) (pc' := 66) rfl (hb hby at_62) (by decide) (by decide) ?_
    show Steps p.tables e below (T8.setTop (mkF m 66 #[.val (.long q1), .second, .val (.long q2), .second, .val (.long q3), .second, .val (.int p4), .val (.long (q1 &&& (9223372036854775807 : Int64))), .second, .val (.ref b5), .val (.long x1), .second, .val (.int (1 : Int32)), .val (.int (1 : Int32)), .unset, .unset, .unset, .unset, .unset, .unset, .unset, .unset, .unset, .unset] [(.long x1)])) _
    refine XS.lstore X8.here hx rfl (hb hby at_66) rfl (l' := #[.val (.long q1), .second, .val (.long q2), .second, .val (.long q3), .second, .val (.int p4), .val (.long (q1 &&& (9223372036854775807 : Int64))), .second, .val (.ref b5), .val (.long x1), .second, .val (.int (1 : Int32)), .val (.int (1 : Int32)), .val (.long x1), .second, .unset, .unset, .unset, .unset, .unset, .unset, .unset, .unset]) rfl ?_
    show Steps p.tables e below (T8.setTop (mkF m 68 #[.val (.long q1), .second, .val (.long q2), .second, .val (.long q3), .second, .val (.int p4), .val (.long (q1 &&& (9223372036854775807 : Int64))), .second, .val (.ref b5), .val (.long x1), .second, .val (.int (1 : Int32)), .val (.int (1 : Int32)), .val (.long x1), .second, .unset, .unset, .unset, .unset, .unset, .unset, .unset, .unset] [])) _
    refine XS.iload X8.here hx rfl (hb hby at_68) rfl ?_
    show Steps p.tables e below (T8.setTop (mkF m 70 #[.val (.long q1), .second, .val (.long q2), .second, .val (.long q3), .second, .val (.int p4), .val (.long (q1 &&& (9223372036854775807 : Int64))), .second, .val (.ref b5), .val (.long x1), .second, .val (.int (1 : Int32)), .val (.int (1 : Int32)), .val (.long x1), .second, .unset, .unset, .unset, .unset, .unset, .unset, .unset, .unset] [(.int (1 : Int32))])) _
    refine XS.iload X8.here hx rfl (hb hby at_70) rfl ?_
    show Steps p.tables e below (T8.setTop (mkF m 72 #[.val (.long q1), .second, .val (.long q2), .second, .val (.long q3), .second, .val (.int p4), .val (.long (q1 &&& (9223372036854775807 : Int64))), .second, .val (.ref b5), .val (.long x1), .second, .val (.int (1 : Int32)), .val (.int (1 : Int32)), .val (.long x1), .second, .unset, .unset, .unset, .unset, .unset, .unset, .unset, .unset] [(.int (1 : Int32)), (.int (1 : Int32))])) _
    refine XS.icmpNo X8.here hx rfl (hb hby at_72) rfl (teq (rfl : (1 : Int32) = (1 : Int32))).2 ?_
    show Steps p.tables e below (T8.setTop (mkF m 75 #[.val (.long q1), .second, .val (.long q2), .second, .val (.long q3), .second, .val (.int p4), .val (.long (q1 &&& (9223372036854775807 : Int64))), .second, .val (.ref b5), .val (.long x1), .second, .val (.int (1 : Int32)), .val (.int (1 : Int32)), .val (.long x1), .second, .unset, .unset, .unset, .unset, .unset, .unset, .unset, .unset] [])) _
    refine XS.aload X8.here hx rfl (hb hby at_75) rfl rfl ?_
    show Steps p.tables e below (T8.setTop (mkF m 77 #[.val (.long q1), .second, .val (.long q2), .second, .val (.long q3), .second, .val (.int p4), .val (.long (q1 &&& (9223372036854775807 : Int64))), .second, .val (.ref b5), .val (.long x1), .second, .val (.int (1 : Int32)), .val (.int (1 : Int32)), .val (.long x1), .second, .unset, .unset, .unset, .unset, .unset, .unset, .unset, .unset] [(.ref b5)])) _
    refine st9.trans ?_
    show Steps p.tables e below (T9.setTop (mkF m 80 #[.val (.long q1), .second, .val (.long q2), .second, .val (.long q3), .second, .val (.int p4), .val (.long (q1 &&& (9223372036854775807 : Int64))), .second, .val (.ref b5), .val (.long x1), .second, .val (.int (1 : Int32)), .val (.int (1 : Int32)), .val (.long x1), .second, .unset, .unset, .unset, .unset, .unset, .unset, .unset, .unset] [(.long x1)])) _
    refine XS.lload X9.here hx rfl (hb hby at_80) rfl ?_
    show Steps p.tables e below (T9.setTop (mkF m 82 #[.val (.long q1), .second, .val (.long q2), .second, .val (.long q3), .second, .val (.int p4), .val (.long (q1 &&& (9223372036854775807 : Int64))), .second, .val (.ref b5), .val (.long x1), .second, .val (.int (1 : Int32)), .val (.int (1 : Int32)), .val (.long x1), .second, .unset, .unset, .unset, .unset, .unset, .unset, .unset, .unset] [(.long x1), (.long x1)])) _
    refine XS.lcmp X9.here hx rfl (hb hby at_82) rfl ?_
    show Steps p.tables e below (T9.setTop (mkF m 83 #[.val (.long q1), .second, .val (.long q2), .second, .val (.long q3), .second, .val (.int p4), .val (.long (q1 &&& (9223372036854775807 : Int64))), .second, .val (.ref b5), .val (.long x1), .second, .val (.int (1 : Int32)), .val (.int (1 : Int32)), .val (.long x1), .second, .unset, .unset, .unset, .unset, .unset, .unset, .unset, .unset] [(.int (lcmpW x1 x1))])) _
    refine XS.ifNo X9.here hx rfl (hb hby at_83) rfl ((if0 _ _).trans (teq ((lw_eq _ _).mpr rfl : (lcmpW x1 x1) = (0 : Int32))).2) ?_
    show Steps p.tables e below (T9.setTop (mkF m 86 #[.val (.long q1), .second, .val (.long q2), .second, .val (.long q3), .second, .val (.int p4), .val (.long (q1 &&& (9223372036854775807 : Int64))), .second, .val (.ref b5), .val (.long x1), .second, .val (.int (1 : Int32)), .val (.int (1 : Int32)), .val (.long x1), .second, .unset, .unset, .unset, .unset, .unset, .unset, .unset, .unset] [])) _
    refine XS.aload X9.here hx rfl (hb hby at_86) rfl rfl ?_
    show Steps p.tables e below (T9.setTop (mkF m 88 #[.val (.long q1), .second, .val (.long q2), .second, .val (.long q3), .second, .val (.int p4), .val (.long (q1 &&& (9223372036854775807 : Int64))), .second, .val (.ref b5), .val (.long x1), .second, .val (.int (1 : Int32)), .val (.int (1 : Int32)), .val (.long x1), .second, .unset, .unset, .unset, .unset, .unset, .unset, .unset, .unset] [(.ref b5)])) _
    refine st10.trans ?_
    show Steps p.tables e below (T10.setTop (mkF m 91 #[.val (.long q1), .second, .val (.long q2), .second, .val (.long q3), .second, .val (.int p4), .val (.long (q1 &&& (9223372036854775807 : Int64))), .second, .val (.ref b5), .val (.long x1), .second, .val (.int (1 : Int32)), .val (.int (1 : Int32)), .val (.long x1), .second, .unset, .unset, .unset, .unset, .unset, .unset, .unset, .unset] [(.int (0 : Int32))])) _
    refine XS.iload X10.here hx rfl (hb hby at_91) rfl ?_
    show Steps p.tables e below (T10.setTop (mkF m 93 #[.val (.long q1), .second, .val (.long q2), .second, .val (.long q3), .second, .val (.int p4), .val (.long (q1 &&& (9223372036854775807 : Int64))), .second, .val (.ref b5), .val (.long x1), .second, .val (.int (1 : Int32)), .val (.int (1 : Int32)), .val (.long x1), .second, .unset, .unset, .unset, .unset, .unset, .unset, .unset, .unset] [(.int (1 : Int32)), (.int (0 : Int32))])) _
    refine XS.ifYes X10.here hx rfl (pc0 := 93) (pc' := 100) rfl (hb hby at_93) rfl ((if0 _ _).trans (feq hc93).2) (by decide) (by decide) ?_
    show Steps p.tables e below (T10.setTop (mkF m 100 #[.val (.long q1), .second, .val (.long q2), .second, .val (.long q3), .second, .val (.int p4), .val (.long (q1 &&& (9223372036854775807 : Int64))), .second, .val (.ref b5), .val (.long x1), .second, .val (.int (1 : Int32)), .val (.int (1 : Int32)), .val (.long x1), .second, .unset, .unset, .unset, .unset, .unset, .unset, .unset, .unset] [(.int (0 : Int32))])) _
    refine XS.iconst X10.here hx rfl (hb hby at_100) ?_
    show Steps p.tables e below (T10.setTop (mkF m 101 #[.val (.long q1), .second, .val (.long q2), .second, .val (.long q3), .second, .val (.int p4), .val (.long (q1 &&& (9223372036854775807 : Int64))), .second, .val (.ref b5), .val (.long x1), .second, .val (.int (1 : Int32)), .val (.int (1 : Int32)), .val (.long x1), .second, .unset, .unset, .unset, .unset, .unset, .unset, .unset, .unset] [(.int (0 : Int32)), (.int (0 : Int32))])) _
    refine XS.icmpYes X10.here hx rfl (pc0 := 101) (pc' := 106) rfl (hb hby at_101) rfl (teq (rfl : (0 : Int32) = (0 : Int32))).1 (by decide) (by decide) ?_
    show Steps p.tables e below (T10.setTop (mkF m 106 #[.val (.long q1), .second, .val (.long q2), .second, .val (.long q3), .second, .val (.int p4), .val (.long (q1 &&& (9223372036854775807 : Int64))), .second, .val (.ref b5), .val (.long x1), .second, .val (.int (1 : Int32)), .val (.int (1 : Int32)), .val (.long x1), .second, .unset, .unset, .unset, .unset, .unset, .unset, .unset, .unset] [])) _
    refine XS.lload X10.here hx rfl (hb hby at_106) rfl ?_
    show Steps p.tables e below (T10.setTop (mkF m 108 #[.val (.long q1), .second, .val (.long q2), .second, .val (.long q3), .second, .val (.int p4), .val (.long (q1 &&& (9223372036854775807 : Int64))), .second, .val (.ref b5), .val (.long x1), .second, .val (.int (1 : Int32)), .val (.int (1 : Int32)), .val (.long x1), .second, .unset, .unset, .unset, .unset, .unset, .unset, .unset, .unset] [(.long (q1 &&& (9223372036854775807 : Int64)))])) _
    refine XS.lload X10.here hx rfl (hb hby at_108) rfl ?_
    show Steps p.tables e below (T10.setTop (mkF m 110 #[.val (.long q1), .second, .val (.long q2), .second, .val (.long q3), .second, .val (.int p4), .val (.long (q1 &&& (9223372036854775807 : Int64))), .second, .val (.ref b5), .val (.long x1), .second, .val (.int (1 : Int32)), .val (.int (1 : Int32)), .val (.long x1), .second, .unset, .unset, .unset, .unset, .unset, .unset, .unset, .unset] [(.long x1), (.long (q1 &&& (9223372036854775807 : Int64)))])) _
    refine XS.lsub X10.here hx rfl (hb hby at_110) rfl ?_
    show Steps p.tables e below (T10.setTop (mkF m 111 #[.val (.long q1), .second, .val (.long q2), .second, .val (.long q3), .second, .val (.int p4), .val (.long (q1 &&& (9223372036854775807 : Int64))), .second, .val (.ref b5), .val (.long x1), .second, .val (.int (1 : Int32)), .val (.int (1 : Int32)), .val (.long x1), .second, .unset, .unset, .unset, .unset, .unset, .unset, .unset, .unset] [(.long ((q1 &&& (9223372036854775807 : Int64)) - x1))])) _
    refine XS.lstore X10.here hx rfl (hb hby at_111) rfl (l' := #[.val (.long q1), .second, .val (.long q2), .second, .val (.long q3), .second, .val (.int p4), .val (.long (q1 &&& (9223372036854775807 : Int64))), .second, .val (.ref b5), .val (.long x1), .second, .val (.int (1 : Int32)), .val (.int (1 : Int32)), .val (.long x1), .second, .val (.long ((q1 &&& (9223372036854775807 : Int64)) - x1)), .second, .unset, .unset, .unset, .unset, .unset, .unset]) rfl ?_
    show Steps p.tables e below (T10.setTop (mkF m 113 #[.val (.long q1), .second, .val (.long q2), .second, .val (.long q3), .second, .val (.int p4), .val (.long (q1 &&& (9223372036854775807 : Int64))), .second, .val (.ref b5), .val (.long x1), .second, .val (.int (1 : Int32)), .val (.int (1 : Int32)), .val (.long x1), .second, .val (.long ((q1 &&& (9223372036854775807 : Int64)) - x1)), .second, .unset, .unset, .unset, .unset, .unset, .unset] [])) _
    refine XS.lload X10.here hx rfl (hb hby at_113) rfl ?_
    show Steps p.tables e below (T10.setTop (mkF m 115 #[.val (.long q1), .second, .val (.long q2), .second, .val (.long q3), .second, .val (.int p4), .val (.long (q1 &&& (9223372036854775807 : Int64))), .second, .val (.ref b5), .val (.long x1), .second, .val (.int (1 : Int32)), .val (.int (1 : Int32)), .val (.long x1), .second, .val (.long ((q1 &&& (9223372036854775807 : Int64)) - x1)), .second, .unset, .unset, .unset, .unset, .unset, .unset] [(.long q3)])) _
    refine XS.lload X10.here hx rfl (hb hby at_115) rfl ?_
    show Steps p.tables e below (T10.setTop (mkF m 117 #[.val (.long q1), .second, .val (.long q2), .second, .val (.long q3), .second, .val (.int p4), .val (.long (q1 &&& (9223372036854775807 : Int64))), .second, .val (.ref b5), .val (.long x1), .second, .val (.int (1 : Int32)), .val (.int (1 : Int32)), .val (.long x1), .second, .val (.long ((q1 &&& (9223372036854775807 : Int64)) - x1)), .second, .unset, .unset, .unset, .unset, .unset, .unset] [(.long ((q1 &&& (9223372036854775807 : Int64)) - x1)), (.long q3)])) _
    refine XS.iload X10.here hx rfl (hb hby at_117) rfl ?_
    show Steps p.tables e below (T10.setTop (mkF m 119 #[.val (.long q1), .second, .val (.long q2), .second, .val (.long q3), .second, .val (.int p4), .val (.long (q1 &&& (9223372036854775807 : Int64))), .second, .val (.ref b5), .val (.long x1), .second, .val (.int (1 : Int32)), .val (.int (1 : Int32)), .val (.long x1), .second, .val (.long ((q1 &&& (9223372036854775807 : Int64)) - x1)), .second, .unset, .unset, .unset, .unset, .unset, .unset] [(.int p4), (.long ((q1 &&& (9223372036854775807 : Int64)) - x1)), (.long q3)])) _
    refine XS.iconst X10.here hx rfl (hb hby at_119) ?_
    show Steps p.tables e below (T10.setTop (mkF m 120 #[.val (.long q1), .second, .val (.long q2), .second, .val (.long q3), .second, .val (.int p4), .val (.long (q1 &&& (9223372036854775807 : Int64))), .second, .val (.ref b5), .val (.long x1), .second, .val (.int (1 : Int32)), .val (.int (1 : Int32)), .val (.long x1), .second, .val (.long ((q1 &&& (9223372036854775807 : Int64)) - x1)), .second, .unset, .unset, .unset, .unset, .unset, .unset] [(.int (3 : Int32)), (.int p4), (.long ((q1 &&& (9223372036854775807 : Int64)) - x1)), (.long q3)])) _
    refine XS.iushr X10.here hx rfl (hb hby at_120) rfl ?_
    show Steps p.tables e below (T10.setTop (mkF m 121 #[.val (.long q1), .second, .val (.long q2), .second, .val (.long q3), .second, .val (.int p4), .val (.long (q1 &&& (9223372036854775807 : Int64))), .second, .val (.ref b5), .val (.long x1), .second, .val (.int (1 : Int32)), .val (.int (1 : Int32)), .val (.long x1), .second, .val (.long ((q1 &&& (9223372036854775807 : Int64)) - x1)), .second, .unset, .unset, .unset, .unset, .unset, .unset] [(.int ((p4.toUInt32 >>> ((3 : Int32) &&& 31).toUInt32).toInt32)), (.long ((q1 &&& (9223372036854775807 : Int64)) - x1)), (.long q3)])) _
    refine XS.bipush X10.here hx rfl (hb hby at_121) ?_
    show Steps p.tables e below (T10.setTop (mkF m 123 #[.val (.long q1), .second, .val (.long q2), .second, .val (.long q3), .second, .val (.int p4), .val (.long (q1 &&& (9223372036854775807 : Int64))), .second, .val (.ref b5), .val (.long x1), .second, .val (.int (1 : Int32)), .val (.int (1 : Int32)), .val (.long x1), .second, .val (.long ((q1 &&& (9223372036854775807 : Int64)) - x1)), .second, .unset, .unset, .unset, .unset, .unset, .unset] [(.int (7 : Int32)), (.int ((p4.toUInt32 >>> ((3 : Int32) &&& 31).toUInt32).toInt32)), (.long ((q1 &&& (9223372036854775807 : Int64)) - x1)), (.long q3)])) _
    refine XS.iand X10.here hx rfl (hb hby at_123) rfl ?_
    show Steps p.tables e below (T10.setTop (mkF m 124 #[.val (.long q1), .second, .val (.long q2), .second, .val (.long q3), .second, .val (.int p4), .val (.long (q1 &&& (9223372036854775807 : Int64))), .second, .val (.ref b5), .val (.long x1), .second, .val (.int (1 : Int32)), .val (.int (1 : Int32)), .val (.long x1), .second, .val (.long ((q1 &&& (9223372036854775807 : Int64)) - x1)), .second, .unset, .unset, .unset, .unset, .unset, .unset] [(.int (((p4.toUInt32 >>> ((3 : Int32) &&& 31).toUInt32).toInt32) &&& (7 : Int32))), (.long ((q1 &&& (9223372036854775807 : Int64)) - x1)), (.long q3)])) _
    refine st11 _ ?_
    show Steps p.tables e below (T11.setTop (mkF m 127 #[.val (.long q1), .second, .val (.long q2), .second, .val (.long q3), .second, .val (.int p4), .val (.long (q1 &&& (9223372036854775807 : Int64))), .second, .val (.ref b5), .val (.long x1), .second, .val (.int (1 : Int32)), .val (.int (1 : Int32)), .val (.long x1), .second, .val (.long ((q1 &&& (9223372036854775807 : Int64)) - x1)), .second, .unset, .unset, .unset, .unset, .unset, .unset] [(.long x2)])) _
    refine XS.lstore X11.here hx rfl (hb hby at_127) rfl (l' := #[.val (.long q1), .second, .val (.long q2), .second, .val (.long q3), .second, .val (.int p4), .val (.long (q1 &&& (9223372036854775807 : Int64))), .second, .val (.ref b5), .val (.long x1), .second, .val (.int (1 : Int32)), .val (.int (1 : Int32)), .val (.long x1), .second, .val (.long ((q1 &&& (9223372036854775807 : Int64)) - x1)), .second, .val (.long x2), .second, .unset, .unset, .unset, .unset]) rfl ?_
    show Steps p.tables e below (T11.setTop (mkF m 129 #[.val (.long q1), .second, .val (.long q2), .second, .val (.long q3), .second, .val (.int p4), .val (.long (q1 &&& (9223372036854775807 : Int64))), .second, .val (.ref b5), .val (.long x1), .second, .val (.int (1 : Int32)), .val (.int (1 : Int32)), .val (.long x1), .second, .val (.long ((q1 &&& (9223372036854775807 : Int64)) - x1)), .second, .val (.long x2), .second, .unset, .unset, .unset, .unset] [])) _
    refine XS.aload X11.here hx rfl (hb hby at_129) rfl rfl ?_
    show Steps p.tables e below (T11.setTop (mkF m 131 #[.val (.long q1), .second, .val (.long q2), .second, .val (.long q3), .second, .val (.int p4), .val (.long (q1 &&& (9223372036854775807 : Int64))), .second, .val (.ref b5), .val (.long x1), .second, .val (.int (1 : Int32)), .val (.int (1 : Int32)), .val (.long x1), .second, .val (.long ((q1 &&& (9223372036854775807 : Int64)) - x1)), .second, .val (.long x2), .second, .unset, .unset, .unset, .unset] [(.ref b5)])) _
    refine XS.lload X11.here hx rfl (hb hby at_131) rfl ?_
    show Steps p.tables e below (T11.setTop (mkF m 133 #[.val (.long q1), .second, .val (.long q2), .second, .val (.long q3), .second, .val (.int p4), .val (.long (q1 &&& (9223372036854775807 : Int64))), .second, .val (.ref b5), .val (.long x1), .second, .val (.int (1 : Int32)), .val (.int (1 : Int32)), .val (.long x1), .second, .val (.long ((q1 &&& (9223372036854775807 : Int64)) - x1)), .second, .val (.long x2), .second, .unset, .unset, .unset, .unset] [(.long x2), (.ref b5)])) _
    refine st12.trans ?_
    show Steps p.tables e below (T12.setTop (mkF m 136 #[.val (.long q1), .second, .val (.long q2), .second, .val (.long q3), .second, .val (.int p4), .val (.long (q1 &&& (9223372036854775807 : Int64))), .second, .val (.ref b5), .val (.long x1), .second, .val (.int (1 : Int32)), .val (.int (1 : Int32)), .val (.long x1), .second, .val (.long ((q1 &&& (9223372036854775807 : Int64)) - x1)), .second, .val (.long x2), .second, .unset, .unset, .unset, .unset] [(.int (1 : Int32))])) _
    refine XS.istore X12.here hx rfl (hb hby at_136) rfl (l' := #[.val (.long q1), .second, .val (.long q2), .second, .val (.long q3), .second, .val (.int p4), .val (.long (q1 &&& (9223372036854775807 : Int64))), .second, .val (.ref b5), .val (.long x1), .second, .val (.int (1 : Int32)), .val (.int (1 : Int32)), .val (.long x1), .second, .val (.long ((q1 &&& (9223372036854775807 : Int64)) - x1)), .second, .val (.long x2), .second, .val (.int (1 : Int32)), .unset, .unset, .unset]) rfl ?_
    show Steps p.tables e below (T12.setTop (mkF m 138 #[.val (.long q1), .second, .val (.long q2), .second, .val (.long q3), .second, .val (.int p4), .val (.long (q1 &&& (9223372036854775807 : Int64))), .second, .val (.ref b5), .val (.long x1), .second, .val (.int (1 : Int32)), .val (.int (1 : Int32)), .val (.long x1), .second, .val (.long ((q1 &&& (9223372036854775807 : Int64)) - x1)), .second, .val (.long x2), .second, .val (.int (1 : Int32)), .unset, .unset, .unset] [])) _
    refine XS.lload X12.here hx rfl (hb hby at_138) rfl ?_
    show Steps p.tables e below (T12.setTop (mkF m 140 #[.val (.long q1), .second, .val (.long q2), .second, .val (.long q3), .second, .val (.int p4), .val (.long (q1 &&& (9223372036854775807 : Int64))), .second, .val (.ref b5), .val (.long x1), .second, .val (.int (1 : Int32)), .val (.int (1 : Int32)), .val (.long x1), .second, .val (.long ((q1 &&& (9223372036854775807 : Int64)) - x1)), .second, .val (.long x2), .second, .val (.int (1 : Int32)), .unset, .unset, .unset] [(.long x2)])) _
    refine XS.lload X12.here hx rfl (hb hby at_140) rfl ?_
    show Steps p.tables e below (T12.setTop (mkF m 142 #[.val (.long q1), .second, .val (.long q2), .second, .val (.long q3), .second, .val (.int p4), .val (.long (q1 &&& (9223372036854775807 : Int64))), .second, .val (.ref b5), .val (.long x1), .second, .val (.int (1 : Int32)), .val (.int (1 : Int32)), .val (.long x1), .second, .val (.long ((q1 &&& (9223372036854775807 : Int64)) - x1)), .second, .val (.long x2), .second, .val (.int (1 : Int32)), .unset, .unset, .unset] [(.long ((q1 &&& (9223372036854775807 : Int64)) - x1)), (.long x2)])) _
    refine XS.lcmp X12.here hx rfl (hb hby at_142) rfl ?_
    show Steps p.tables e below (T12.setTop (mkF m 143 #[.val (.long q1), .second, .val (.long q2), .second, .val (.long q3), .second, .val (.int p4), .val (.long (q1 &&& (9223372036854775807 : Int64))), .second, .val (.ref b5), .val (.long x1), .second, .val (.int (1 : Int32)), .val (.int (1 : Int32)), .val (.long x1), .second, .val (.long ((q1 &&& (9223372036854775807 : Int64)) - x1)), .second, .val (.long x2), .second, .val (.int (1 : Int32)), .unset, .unset, .unset] [(.int (lcmpW x2 ((q1 &&& (9223372036854775807 : Int64)) - x1)))])) _
    refine XS.ifNo X12.here hx rfl (hb hby at_143) rfl ((if0 _ _).trans (flt (h2 : ¬ ((0 : Int32) < (lcmpW x2 ((q1 &&& (9223372036854775807 : Int64)) - x1))))).2.2.1) ?_
    show Steps p.tables e below (T12.setTop (mkF m 146 #[.val (.long q1), .second, .val (.long q2), .second, .val (.long q3), .second, .val (.int p4), .val (.long (q1 &&& (9223372036854775807 : Int64))), .second, .val (.ref b5), .val (.long x1), .second, .val (.int (1 : Int32)), .val (.int (1 : Int32)), .val (.long x1), .second, .val (.long ((q1 &&& (9223372036854775807 : Int64)) - x1)), .second, .val (.long x2), .second, .val (.int (1 : Int32)), .unset, .unset, .unset] [])) _
    refine XS.iconst X12.here hx rfl (hb hby at_146) ?_
    show Steps p.tables e below (T12.setTop (mkF m 147 #[.val (.long q1), .second, .val (.long q2), .second, .val (.long q3), .second, .val (.int p4), .val (.long (q1 &&& (9223372036854775807 : Int64))), .second, .val (.ref b5), .val (.long x1), .second, .val (.int (1 : Int32)), .val (.int (1 : Int32)), .val (.long x1), .second, .val (.long ((q1 &&& (9223372036854775807 : Int64)) - x1)), .second, .val (.long x2), .second, .val (.int (1 : Int32)), .unset, .unset, .unset] [(.int (1 : Int32))])) _
    refine XS.goto X12.here hx rfl (pc0 := 147) (pc' := 151) rfl (hb hby at_147) (by decide) (by decide) ?_
    show Steps p.tables e below (T12.setTop (mkF m 151 #[.val (.long q1), .second, .val (.long q2), .second, .val (.long q3), .second, .val (.int p4), .val (.long (q1 &&& (9223372036854775807 : Int64))), .second, .val (.ref b5), .val (.long x1), .second, .val (.int (1 : Int32)), .val (.int (1 : Int32)), .val (.long x1), .second, .val (.long ((q1 &&& (9223372036854775807 : Int64)) - x1)), .second, .val (.long x2), .second, .val (.int (1 : Int32)), .unset, .unset, .unset] [(.int (1 : Int32))])) _
    refine XS.istore X12.here hx rfl (hb hby at_151) rfl (l' := #[.val (.long q1), .second, .val (.long q2), .second, .val (.long q3), .second, .val (.int p4), .val (.long (q1 &&& (9223372036854775807 : Int64))), .second, .val (.ref b5), .val (.long x1), .second, .val (.int (1 : Int32)), .val (.int (1 : Int32)), .val (.long x1), .second, .val (.long ((q1 &&& (9223372036854775807 : Int64)) - x1)), .second, .val (.long x2), .second, .val (.int (1 : Int32)), .val (.int (1 : Int32)), .unset, .unset]) rfl ?_
    show Steps p.tables e below (T12.setTop (mkF m 153 #[.val (.long q1), .second, .val (.long q2), .second, .val (.long q3), .second, .val (.int p4), .val (.long (q1 &&& (9223372036854775807 : Int64))), .second, .val (.ref b5), .val (.long x1), .second, .val (.int (1 : Int32)), .val (.int (1 : Int32)), .val (.long x1), .second, .val (.long ((q1 &&& (9223372036854775807 : Int64)) - x1)), .second, .val (.long x2), .second, .val (.int (1 : Int32)), .val (.int (1 : Int32)), .unset, .unset] [])) _
    refine XS.iload X12.here hx rfl (hb hby at_153) rfl ?_
    show Steps p.tables e below (T12.setTop (mkF m 155 #[.val (.long q1), .second, .val (.long q2), .second, .val (.long q3), .second, .val (.int p4), .val (.long (q1 &&& (9223372036854775807 : Int64))), .second, .val (.ref b5), .val (.long x1), .second, .val (.int (1 : Int32)), .val (.int (1 : Int32)), .val (.long x1), .second, .val (.long ((q1 &&& (9223372036854775807 : Int64)) - x1)), .second, .val (.long x2), .second, .val (.int (1 : Int32)), .val (.int (1 : Int32)), .unset, .unset] [(.int (1 : Int32))])) _
    refine XS.ifNo X12.here hx rfl (hb hby at_155) rfl ((if0 _ _).trans (feq hc155).1) ?_
    show Steps p.tables e below (T12.setTop (mkF m 158 #[.val (.long q1), .second, .val (.long q2), .second, .val (.long q3), .second, .val (.int p4), .val (.long (q1 &&& (9223372036854775807 : Int64))), .second, .val (.ref b5), .val (.long x1), .second, .val (.int (1 : Int32)), .val (.int (1 : Int32)), .val (.long x1), .second, .val (.long ((q1 &&& (9223372036854775807 : Int64)) - x1)), .second, .val (.long x2), .second, .val (.int (1 : Int32)), .val (.int (1 : Int32)), .unset, .unset] [])) _
    refine XS.lload X12.here hx rfl (hb hby at_158) rfl ?_
    show Steps p.tables e below (T12.setTop (mkF m 160 #[.val (.long q1), .second, .val (.long q2), .second, .val (.long q3), .second, .val (.int p4), .val (.long (q1 &&& (9223372036854775807 : Int64))), .second, .val (.ref b5), .val (.long x1), .second, .val (.int (1 : Int32)), .val (.int (1 : Int32)), .val (.long x1), .second, .val (.long ((q1 &&& (9223372036854775807 : Int64)) - x1)), .second, .val (.long x2), .second, .val (.int (1 : Int32)), .val (.int (1 : Int32)), .unset, .unset] [(.long x1)])) _
    refine XS.lload X12.here hx rfl (hb hby at_160) rfl ?_
    show Steps p.tables e below (T12.setTop (mkF m 162 #[.val (.long q1), .second, .val (.long q2), .second, .val (.long q3), .second, .val (.int p4), .val (.long (q1 &&& (9223372036854775807 : Int64))), .second, .val (.ref b5), .val (.long x1), .second, .val (.int (1 : Int32)), .val (.int (1 : Int32)), .val (.long x1), .second, .val (.long ((q1 &&& (9223372036854775807 : Int64)) - x1)), .second, .val (.long x2), .second, .val (.int (1 : Int32)), .val (.int (1 : Int32)), .unset, .unset] [(.long x2), (.long x1)])) _
    refine XS.ladd X12.here hx rfl (hb hby at_162) rfl ?_
    show Steps p.tables e below (T12.setTop (mkF m 163 #[.val (.long q1), .second, .val (.long q2), .second, .val (.long q3), .second, .val (.int p4), .val (.long (q1 &&& (9223372036854775807 : Int64))), .second, .val (.ref b5), .val (.long x1), .second, .val (.int (1 : Int32)), .val (.int (1 : Int32)), .val (.long x1), .second, .val (.long ((q1 &&& (9223372036854775807 : Int64)) - x1)), .second, .val (.long x2), .second, .val (.int (1 : Int32)), .val (.int (1 : Int32)), .unset, .unset] [(.long (x1 + x2))])) _
    refine XS.goto X12.here hx rfl (pc0 := 163) (pc' := 168) rfl (hb hby at_163) (by decide) (by decide) ?_
    show Steps p.tables e below (T12.setTop (mkF m 168 #[.val (.long q1), .second, .val (.long q2), .second, .val (.long q3), .second, .val (.int p4), .val (.long (q1 &&& (9223372036854775807 : Int64))), .second, .val (.ref b5), .val (.long x1), .second, .val (.int (1 : Int32)), .val (.int (1 : Int32)), .val (.long x1), .second, .val (.long ((q1 &&& (9223372036854775807 : Int64)) - x1)), .second, .val (.long x2), .second, .val (.int (1 : Int32)), .val (.int (1 : Int32)), .unset, .unset] [(.long (x1 + x2))])) _
    refine XS.lstore X12.here hx rfl (hb hby at_168) rfl (l' := #[.val (.long q1), .second, .val (.long q2), .second, .val (.long q3), .second, .val (.int p4), .val (.long (q1 &&& (9223372036854775807 : Int64))), .second, .val (.ref b5), .val (.long x1), .second, .val (.int (1 : Int32)), .val (.int (1 : Int32)), .val (.long x1), .second, .val (.long ((q1 &&& (9223372036854775807 : Int64)) - x1)), .second, .val (.long x2), .second, .val (.int (1 : Int32)), .val (.int (1 : Int32)), .val (.long (x1 + x2)), .second]) rfl ?_
    show Steps p.tables e below (T12.setTop (mkF m 170 #[.val (.long q1), .second, .val (.long q2), .second, .val (.long q3), .second, .val (.int p4), .val (.long (q1 &&& (9223372036854775807 : Int64))), .second, .val (.ref b5), .val (.long x1), .second, .val (.int (1 : Int32)), .val (.int (1 : Int32)), .val (.long x1), .second, .val (.long ((q1 &&& (9223372036854775807 : Int64)) - x1)), .second, .val (.long x2), .second, .val (.int (1 : Int32)), .val (.int (1 : Int32)), .val (.long (x1 + x2)), .second] [])) _
    refine XS.iload X12.here hx rfl (hb hby at_170) rfl ?_
    show Steps p.tables e below (T12.setTop (mkF m 172 #[.val (.long q1), .second, .val (.long q2), .second, .val (.long q3), .second, .val (.int p4), .val (.long (q1 &&& (9223372036854775807 : Int64))), .second, .val (.ref b5), .val (.long x1), .second, .val (.int (1 : Int32)), .val (.int (1 : Int32)), .val (.long x1), .second, .val (.long ((q1 &&& (9223372036854775807 : Int64)) - x1)), .second, .val (.long x2), .second, .val (.int (1 : Int32)), .val (.int (1 : Int32)), .val (.long (x1 + x2)), .second] [(.int (1 : Int32))])) _
    refine XS.iload X12.here hx rfl (hb hby at_172) rfl ?_
    show Steps p.tables e below (T12.setTop (mkF m 174 #[.val (.long q1), .second, .val (.long q2), .second, .val (.long q3), .second, .val (.int p4), .val (.long (q1 &&& (9223372036854775807 : Int64))), .second, .val (.ref b5), .val (.long x1), .second, .val (.int (1 : Int32)), .val (.int (1 : Int32)), .val (.long x1), .second, .val (.long ((q1 &&& (9223372036854775807 : Int64)) - x1)), .second, .val (.long x2), .second, .val (.int (1 : Int32)), .val (.int (1 : Int32)), .val (.long (x1 + x2)), .second] [(.int (1 : Int32)), (.int (1 : Int32))])) _
    refine XS.icmpNo X12.here hx rfl (hb hby at_174) rfl (teq (rfl : (1 : Int32) = (1 : Int32))).2 ?_
    show Steps p.tables e below (T12.setTop (mkF m 177 #[.val (.long q1), .second, .val (.long q2), .second, .val (.long q3), .second, .val (.int p4), .val (.long (q1 &&& (9223372036854775807 : Int64))), .second, .val (.ref b5), .val (.long x1), .second, .val (.int (1 : Int32)), .val (.int (1 : Int32)), .val (.long x1), .second, .val (.long ((q1 &&& (9223372036854775807 : Int64)) - x1)), .second, .val (.long x2), .second, .val (.int (1 : Int32)), .val (.int (1 : Int32)), .val (.long (x1 + x2)), .second] [])) _
    refine XS.aload X12.here hx rfl (hb hby at_177) rfl rfl ?_
    show Steps p.tables e below (T12.setTop (mkF m 179 #[.val (.long q1), .second, .val (.long q2), .second, .val (.long q3), .second, .val (.int p4), .val (.long (q1 &&& (9223372036854775807 : Int64))), .second, .val (.ref b5), .val (.long x1), .second, .val (.int (1 : Int32)), .val (.int (1 : Int32)), .val (.long x1), .second, .val (.long ((q1 &&& (9223372036854775807 : Int64)) - x1)), .second, .val (.long x2), .second, .val (.int (1 : Int32)), .val (.int (1 : Int32)), .val (.long (x1 + x2)), .second] [(.ref b5)])) _
    refine st13.trans ?_
    show Steps p.tables e below (T13.setTop (mkF m 182 #[.val (.long q1), .second, .val (.long q2), .second, .val (.long q3), .second, .val (.int p4), .val (.long (q1 &&& (9223372036854775807 : Int64))), .second, .val (.ref b5), .val (.long x1), .second, .val (.int (1 : Int32)), .val (.int (1 : Int32)), .val (.long x1), .second, .val (.long ((q1 &&& (9223372036854775807 : Int64)) - x1)), .second, .val (.long x2), .second, .val (.int (1 : Int32)), .val (.int (1 : Int32)), .val (.long (x1 + x2)), .second] [(.long (x1 + x2))])) _
    refine XS.lload X13.here hx rfl (hb hby at_182) rfl ?_
    show Steps p.tables e below (T13.setTop (mkF m 184 #[.val (.long q1), .second, .val (.long q2), .second, .val (.long q3), .second, .val (.int p4), .val (.long (q1 &&& (9223372036854775807 : Int64))), .second, .val (.ref b5), .val (.long x1), .second, .val (.int (1 : Int32)), .val (.int (1 : Int32)), .val (.long x1), .second, .val (.long ((q1 &&& (9223372036854775807 : Int64)) - x1)), .second, .val (.long x2), .second, .val (.int (1 : Int32)), .val (.int (1 : Int32)), .val (.long (x1 + x2)), .second] [(.long (x1 + x2)), (.long (x1 + x2))])) _
    refine XS.lcmp X13.here hx rfl (hb hby at_184) rfl ?_
    show Steps p.tables e below (T13.setTop (mkF m 185 #[.val (.long q1), .second, .val (.long q2), .second, .val (.long q3), .second, .val (.int p4), .val (.long (q1 &&& (9223372036854775807 : Int64))), .second, .val (.ref b5), .val (.long x1), .second, .val (.int (1 : Int32)), .val (.int (1 : Int32)), .val (.long x1), .second, .val (.long ((q1 &&& (9223372036854775807 : Int64)) - x1)), .second, .val (.long x2), .second, .val (.int (1 : Int32)), .val (.int (1 : Int32)), .val (.long (x1 + x2)), .second] [(.int (lcmpW (x1 + x2) (x1 + x2)))])) _
    refine XS.ifNo X13.here hx rfl (hb hby at_185) rfl ((if0 _ _).trans (teq ((lw_eq _ _).mpr rfl : (lcmpW (x1 + x2) (x1 + x2)) = (0 : Int32))).2) ?_
    show Steps p.tables e below (T13.setTop (mkF m 188 #[.val (.long q1), .second, .val (.long q2), .second, .val (.long q3), .second, .val (.int p4), .val (.long (q1 &&& (9223372036854775807 : Int64))), .second, .val (.ref b5), .val (.long x1), .second, .val (.int (1 : Int32)), .val (.int (1 : Int32)), .val (.long x1), .second, .val (.long ((q1 &&& (9223372036854775807 : Int64)) - x1)), .second, .val (.long x2), .second, .val (.int (1 : Int32)), .val (.int (1 : Int32)), .val (.long (x1 + x2)), .second] [])) _
    refine XS.aload X13.here hx rfl (hb hby at_188) rfl rfl ?_
    show Steps p.tables e below (T13.setTop (mkF m 190 #[.val (.long q1), .second, .val (.long q2), .second, .val (.long q3), .second, .val (.int p4), .val (.long (q1 &&& (9223372036854775807 : Int64))), .second, .val (.ref b5), .val (.long x1), .second, .val (.int (1 : Int32)), .val (.int (1 : Int32)), .val (.long x1), .second, .val (.long ((q1 &&& (9223372036854775807 : Int64)) - x1)), .second, .val (.long x2), .second, .val (.int (1 : Int32)), .val (.int (1 : Int32)), .val (.long (x1 + x2)), .second] [(.ref b5)])) _
    refine st14.trans ?_
    show Steps p.tables e below (T14.setTop (mkF m 193 #[.val (.long q1), .second, .val (.long q2), .second, .val (.long q3), .second, .val (.int p4), .val (.long (q1 &&& (9223372036854775807 : Int64))), .second, .val (.ref b5), .val (.long x1), .second, .val (.int (1 : Int32)), .val (.int (1 : Int32)), .val (.long x1), .second, .val (.long ((q1 &&& (9223372036854775807 : Int64)) - x1)), .second, .val (.long x2), .second, .val (.int (1 : Int32)), .val (.int (1 : Int32)), .val (.long (x1 + x2)), .second] [(.int (0 : Int32))])) _
    refine XS.iload X14.here hx rfl (hb hby at_193) rfl ?_
    show Steps p.tables e below (T14.setTop (mkF m 195 #[.val (.long q1), .second, .val (.long q2), .second, .val (.long q3), .second, .val (.int p4), .val (.long (q1 &&& (9223372036854775807 : Int64))), .second, .val (.ref b5), .val (.long x1), .second, .val (.int (1 : Int32)), .val (.int (1 : Int32)), .val (.long x1), .second, .val (.long ((q1 &&& (9223372036854775807 : Int64)) - x1)), .second, .val (.long x2), .second, .val (.int (1 : Int32)), .val (.int (1 : Int32)), .val (.long (x1 + x2)), .second] [(.int (1 : Int32)), (.int (0 : Int32))])) _
    refine XS.ifNo X14.here hx rfl (hb hby at_195) rfl ((if0 _ _).trans (feq hc195).1) ?_
    show Steps p.tables e below (T14.setTop (mkF m 198 #[.val (.long q1), .second, .val (.long q2), .second, .val (.long q3), .second, .val (.int p4), .val (.long (q1 &&& (9223372036854775807 : Int64))), .second, .val (.ref b5), .val (.long x1), .second, .val (.int (1 : Int32)), .val (.int (1 : Int32)), .val (.long x1), .second, .val (.long ((q1 &&& (9223372036854775807 : Int64)) - x1)), .second, .val (.long x2), .second, .val (.int (1 : Int32)), .val (.int (1 : Int32)), .val (.long (x1 + x2)), .second] [(.int (0 : Int32))])) _
    refine XS.iload X14.here hx rfl (hb hby at_198) rfl ?_
    show Steps p.tables e below (T14.setTop (mkF m 200 #[.val (.long q1), .second, .val (.long q2), .second, .val (.long q3), .second, .val (.int p4), .val (.long (q1 &&& (9223372036854775807 : Int64))), .second, .val (.ref b5), .val (.long x1), .second, .val (.int (1 : Int32)), .val (.int (1 : Int32)), .val (.long x1), .second, .val (.long ((q1 &&& (9223372036854775807 : Int64)) - x1)), .second, .val (.long x2), .second, .val (.int (1 : Int32)), .val (.int (1 : Int32)), .val (.long (x1 + x2)), .second] [(.int (1 : Int32)), (.int (0 : Int32))])) _
    refine XS.ifYes X14.here hx rfl (pc0 := 200) (pc' := 207) rfl (hb hby at_200) rfl ((if0 _ _).trans (feq hc200).2) (by decide) (by decide) ?_
    show Steps p.tables e below (T14.setTop (mkF m 207 #[.val (.long q1), .second, .val (.long q2), .second, .val (.long q3), .second, .val (.int p4), .val (.long (q1 &&& (9223372036854775807 : Int64))), .second, .val (.ref b5), .val (.long x1), .second, .val (.int (1 : Int32)), .val (.int (1 : Int32)), .val (.long x1), .second, .val (.long ((q1 &&& (9223372036854775807 : Int64)) - x1)), .second, .val (.long x2), .second, .val (.int (1 : Int32)), .val (.int (1 : Int32)), .val (.long (x1 + x2)), .second] [(.int (0 : Int32))])) _
    refine XS.iconst X14.here hx rfl (hb hby at_207) ?_
    show Steps p.tables e below (T14.setTop (mkF m 208 #[.val (.long q1), .second, .val (.long q2), .second, .val (.long q3), .second, .val (.int p4), .val (.long (q1 &&& (9223372036854775807 : Int64))), .second, .val (.ref b5), .val (.long x1), .second, .val (.int (1 : Int32)), .val (.int (1 : Int32)), .val (.long x1), .second, .val (.long ((q1 &&& (9223372036854775807 : Int64)) - x1)), .second, .val (.long x2), .second, .val (.int (1 : Int32)), .val (.int (1 : Int32)), .val (.long (x1 + x2)), .second] [(.int (0 : Int32)), (.int (0 : Int32))])) _
    refine XS.icmpNo X14.here hx rfl (hb hby at_208) rfl (teq (rfl : (0 : Int32) = (0 : Int32))).2 ?_
    show Steps p.tables e below (T14.setTop (mkF m 211 #[.val (.long q1), .second, .val (.long q2), .second, .val (.long q3), .second, .val (.int p4), .val (.long (q1 &&& (9223372036854775807 : Int64))), .second, .val (.ref b5), .val (.long x1), .second, .val (.int (1 : Int32)), .val (.int (1 : Int32)), .val (.long x1), .second, .val (.long ((q1 &&& (9223372036854775807 : Int64)) - x1)), .second, .val (.long x2), .second, .val (.int (1 : Int32)), .val (.int (1 : Int32)), .val (.long (x1 + x2)), .second] [])) _
    refine XS.iconst X14.here hx rfl (hb hby at_211) ?_
    show Steps p.tables e below (T14.setTop (mkF m 212 #[.val (.long q1), .second, .val (.long q2), .second, .val (.long q3), .second, .val (.int p4), .val (.long (q1 &&& (9223372036854775807 : Int64))), .second, .val (.ref b5), .val (.long x1), .second, .val (.int (1 : Int32)), .val (.int (1 : Int32)), .val (.long x1), .second, .val (.long ((q1 &&& (9223372036854775807 : Int64)) - x1)), .second, .val (.long x2), .second, .val (.int (1 : Int32)), .val (.int (1 : Int32)), .val (.long (x1 + x2)), .second] [(.int (1 : Int32))])) _
    refine XS.goto X14.here hx rfl (pc0 := 212) (pc' := 216) rfl (hb hby at_212) (by decide) (by decide) ?_
    show Steps p.tables e below (T14.setTop (mkF m 216 #[.val (.long q1), .second, .val (.long q2), .second, .val (.long q3), .second, .val (.int p4), .val (.long (q1 &&& (9223372036854775807 : Int64))), .second, .val (.ref b5), .val (.long x1), .second, .val (.int (1 : Int32)), .val (.int (1 : Int32)), .val (.long x1), .second, .val (.long ((q1 &&& (9223372036854775807 : Int64)) - x1)), .second, .val (.long x2), .second, .val (.int (1 : Int32)), .val (.int (1 : Int32)), .val (.long (x1 + x2)), .second] [(.int (1 : Int32))])) _
    exact retN X14 hx (t := .boolean) Bd.returns (by simp) (hb hby at_216) hr
  · show Q0 Z q1 q2 q3 p4 h0 n0 _ T14.heap _
    exact ⟨rfl, N14⟩
set_option maxRecDepth 65536 in
set_option maxHeartbeats 40000000 in
theorem rm0_ffffttttfffff (l : Launch) (Z : State) (a0 : Array Value) (hw : ∀ d ∈ tables_1, d.before a0 Z = true) (ws : List Jvm.Cond) (q1 : Int64) (q2 : Int64) (q3 : Int64) (p4 : Int32) (x1 x2 : Int64) (h0 : Heap) (n0 : Nat) (Z0 : n0 ≤ h0.size) (hx1 : F3 q2 (q1 &&& (9223372036854775807 : Int64)) (p4 &&& (7 : Int32)) = x1) (hx2 : F3 q3 ((q1 &&& (9223372036854775807 : Int64)) - x1) (((p4.toUInt32 >>> ((3 : Int32) &&& 31).toUInt32).toInt32) &&& (7 : Int32)) = x2) (h1 : ¬ ((0 : Int32) < (lcmpW x1 (q1 &&& (9223372036854775807 : Int64))))) (h2 : (0 : Int32) < (lcmpW x2 ((q1 &&& (9223372036854775807 : Int64)) - x1))) (hc57 : ¬ ((1 : Int32) = (0 : Int32))) (hc93 : ¬ ((1 : Int32) = (0 : Int32))) (hc195 : ¬ ((1 : Int32) = (0 : Int32))) :
    MetFree l x (head1 (Jvm.Cond.code x code maxLocals ret :: ws) room_1) (fun a U => a = #[(.long q1), (.long q2), (.long q3), (.int p4)] ∧ Z.Warmed39 U.vm ∧ U.heap = h0) (fun _ _ _ _ _ => True) (fun _ U o U' => ∃ v L, o = .returned v ∧ Q0 Z q1 q2 q3 p4 h0 n0 v U'.heap L ∧ FrameEnd U o U' L room_1.cells room_1.slots) := by
  refine MetFree.of_bodySF (plainFor_of_name pn_0) hisR ?_
  intro p e s m args below meth c s₁ Bd hml0 hP hK
  obtain ⟨rfl, hZ, hh⟩ := hP
  have hx := Bd.exec
  have hby := Bd.bytes
  have hml : c.maxLocals = 24 := hml0
  have hown : s.vm.findClass "com/example/exact_anchor/exactanchor/search/BudgetSpendPinLaw" = some m.cls := findClass_of_methodNamed Bd.named
  have hnm := (name_of_methodNamed Bd.named Bd.method).1
  have X0 : Stand p l e room_1 s m #[(.long q1), (.long q2), (.long q3), (.int p4)] below meth c s₁ [] 0 0 := Stand.of_body Bd
  have e0 : s₁.heap = h0 := by rw [← hh, Bd.state]; rfl
  have N0 := Fr.nil n0
  have pre0 : ∀ t, Steps p.tables e below (s₁.setTop (mkF m 0 #[.val (.long q1), .second, .val (.long q2), .second, .val (.long q3), .second, .val (.int p4), .unset, .unset, .unset, .unset, .unset, .unset, .unset, .unset, .unset, .unset, .unset, .unset, .unset, .unset, .unset, .unset, .unset] [])) t → Steps p.tables e below (s₁.setTop (entryFrame m #[(.long q1), (.long q2), (.long q3), (.int p4)] maxLocals)) t := fun t k => castTop (ef_0 m q1 q2 q3 p4) k
  -- 3. LAWS
  obtain ⟨T5, h5, X5, e5, E5, A5, D5, -, st5⟩ := newO X0 hx hZ hown (hw _ (List.mem_of_getElem? (i := 1) rfl)) (hw _ (List.mem_of_getElem? (i := 2) rfl)) (hw _ (List.mem_of_getElem? (i := 3) rfl)) e0 (g := (mkF m 7 #[.val (.long q1), .second, .val (.long q2), .second, .val (.long q3), .second, .val (.int p4), .val (.long (q1 &&& (9223372036854775807 : Int64))), .second, .unset, .unset, .unset, .unset, .unset, .unset, .unset, .unset, .unset, .unset, .unset, .unset, .unset, .unset, .unset] [])) rfl (hb hby at_7) (by decide) (by decide)
  obtain ⟨b5, g5⟩ : ∃ z, z = h0.size := ⟨_, rfl⟩      -- the fresh object's address
  rw [← g5] at A5 D5 st5      -- A5 : Exa Z h5 b5 "com/example/exact_anchor/exactanchor/search/Budget"; E5 : Ext h0 h5 (carries every older fact: .ext E5)
  have F_limit_b5 : Fld Z h5 b5 "com/example/exact_anchor/exactanchor/search/Budget" "limit" "J" (.long (0 : Int64)) := D5 (Or.inr (hw _ (List.mem_of_getElem? (i := 11) rfl))) (ty := .long) (by decide)
  have F_spent_b5 : Fld Z h5 b5 "com/example/exact_anchor/exactanchor/search/Budget" "spent" "J" (.long (0 : Int64)) := D5 (Or.inl (hw _ (List.mem_of_getElem? (i := 22) rfl))) (ty := .long) (by decide)
  have F_refused_b5 : Fld Z h5 b5 "com/example/exact_anchor/exactanchor/search/Budget" "refused" "Z" (.int (0 : Int32)) := D5 (Or.inl (hw _ (List.mem_of_getElem? (i := 34) rfl))) (ty := .boolean) (by decide)
  have E_b5 := A5
  have g_b5 : n0 ≤ b5 := Nat.le_trans Z0 (Nat.le_of_eq g5.symm)
  have sz_b5 : h0.size ≤ b5 := (Nat.le_trans (Keep.refl h0 []).1 (Nat.le_of_eq g5.symm))
  have K5 : Keep h0 h5 [] := (Keep.refl h0 []).ext E5
  have H5 : n0 ≤ h5.size := Nat.le_trans Z0 K5.1
  -- pc 13: the constructor of com/example/exact_anchor/exactanchor/search/Budget by its contract rm1
  obtain ⟨_, _, ⟨T6, L6, k6, n6⟩, -, X6, ⟨Lc6, hQ6, l6, y6, z6⟩, st6⟩ := X5.specialBack hx (y := (⟨"com/example/exact_anchor/exactanchor/search/Budget", "<init>", "(J)V"⟩ : MethodName)) rfl hown (mvT hZ (hw _ (List.mem_of_getElem? (i := 4) rfl))) (mvT hZ (hw _ (List.mem_of_getElem? (i := 5) rfl))) (mvT hZ (hw _ (List.mem_of_getElem? (i := 6) rfl))) (by decide) (backOf (W := 1) (rm1 l Z a0 hw [] b5 (q1 &&& (9223372036854775807 : Int64)) _ h5 n0 H5 E_b5 F_limit_b5 F_spent_b5 F_refused_b5 g_b5) hZ (hw _ (List.mem_of_getElem? (i := 6) rfl)) (hw _ (List.mem_of_getElem? (i := 3) rfl)) (by decide) (by decide)) (g := (mkF m 13 #[.val (.long q1), .second, .val (.long q2), .second, .val (.long q3), .second, .val (.int p4), .val (.long (q1 &&& (9223372036854775807 : Int64))), .second, .unset, .unset, .unset, .unset, .unset, .unset, .unset, .unset, .unset, .unset, .unset, .unset, .unset, .unset, .unset] [(.long (q1 &&& (9223372036854775807 : Int64))), (.ref b5), (.ref b5)])) rfl (by rw [hml]; rfl) (Steps.refl _) (a := b5) (argsL := [(.long (q1 &&& (9223372036854775807 : Int64)))]) (rest := [(.ref b5)]) (lenOf pd_0_0 rfl) rfl (by show 2 * 0 + _ ≤ _; exact Nat.le_of_eq rfl) (hb hby at_13) (fun _ _ => ⟨rfl, e5, (by decide : 1 + 0 ≤ _), (by decide : 3 + 0 ≤ _)⟩)
  dsimp only [Pt.U, Pt.locs, Pt.cells, Pt.slots] at X6 l6 y6 z6 st6 hQ6
  subst l6 y6 z6
  obtain ⟨rfl, N6q, K6, E6', FL6, FS6, FR6⟩ := hQ6      -- what it returned, that it wrote nothing old, and the rest of your Q1
  have N6 := Fr.app N0 N6q
  have H6 : n0 ≤ T6.heap.size := Nat.le_trans H5 K6.1
  -- pc 26: com/example/exact_anchor/exactanchor/search/BudgetSpendPinLaw.pick by its contract rm3
  obtain ⟨_, _, ⟨T7, L7, k7, n7⟩, -, X7, ⟨Lc7, hQ7, l7, y7, z7⟩, st7⟩ := Jvm.LawKit.callS X6 hx (y := (⟨"com/example/exact_anchor/exactanchor/search/BudgetSpendPinLaw", "pick", "(JJI)J"⟩ : MethodName)) hown (mvT hZ (hw _ (List.mem_of_getElem? (i := 12) rfl))) (mvT hZ (hw _ (List.mem_of_getElem? (i := 13) rfl))) (mvT hZ (hw _ (List.mem_of_getElem? (i := 14) rfl))) (mvT hZ (hw _ (List.mem_of_getElem? (i := 15) rfl))) (by decide) (backOf (W := 0) (rm3x l Z a0 hw [] q2 (q1 &&& (9223372036854775807 : Int64)) (p4 &&& (7 : Int32)) x1 T6.heap n0 H6 hx1) hZ (hw _ (List.mem_of_getElem? (i := 15) rfl)) (hw _ (List.mem_of_getElem? (i := 14) rfl)) (by decide) (by decide)) (g := (mkF m 26 #[.val (.long q1), .second, .val (.long q2), .second, .val (.long q3), .second, .val (.int p4), .val (.long (q1 &&& (9223372036854775807 : Int64))), .second, .val (.ref b5), .unset, .unset, .unset, .unset, .unset, .unset, .unset, .unset, .unset, .unset, .unset, .unset, .unset, .unset] [(.int (p4 &&& (7 : Int32))), (.long (q1 &&& (9223372036854775807 : Int64))), (.long q2)])) rfl (by rw [hml]; rfl) (argsL := [(.long q2), (.long (q1 &&& (9223372036854775807 : Int64))), (.int (p4 &&& (7 : Int32)))]) (rest := []) (lenOf pd_0_2 rfl) rfl (by show 2 * 0 + _ ≤ _; exact Nat.le_of_eq rfl) (hb hby at_26) (fun _ _ => ⟨rfl, rfl, (by decide : 1 + 0 ≤ _), (by decide : 3 + 0 ≤ _)⟩)
  dsimp only [Pt.U, Pt.locs, Pt.cells, Pt.slots] at X7 l7 y7 z7 st7 hQ7
  subst l7 y7 z7
  obtain ⟨rfl, N7q, q7⟩ := hQ7      -- what it returned, that it wrote nothing old, and the rest of your Q3
  have N7 := Fr.app N6 N7q
  have H7 : n0 ≤ T7.heap.size := by rw [q7]; exact H6
  have E7' : Exa Z T7.heap b5 "com/example/exact_anchor/exactanchor/search/Budget" := by rw [q7]; exact E6'
  have FL7 : Fld Z T7.heap b5 "com/example/exact_anchor/exactanchor/search/Budget" "limit" "J" (.long (q1 &&& (9223372036854775807 : Int64))) := by rw [q7]; exact FL6
  have FS7 : Fld Z T7.heap b5 "com/example/exact_anchor/exactanchor/search/Budget" "spent" "J" (.long (0 : Int64)) := by rw [q7]; exact FS6
  have FR7 : Fld Z T7.heap b5 "com/example/exact_anchor/exactanchor/search/Budget" "refused" "Z" (.int (0 : Int32)) := by rw [q7]; exact FR6
  -- pc 35: com/example/exact_anchor/exactanchor/search/Budget.spend by the contract of the body that the receiver's class selects, rm4
  obtain ⟨cq8, kq8, q8a, q8b, q8c⟩ := isOf hZ rfl E7'
  obtain ⟨_, _, ⟨T8, L8, k8, n8⟩, -, X8, ⟨Lc8, hQ8, l8, y8, z8⟩, st8⟩ := X7.virtualBack hx (y := (⟨"com/example/exact_anchor/exactanchor/search/Budget", "spend", "(J)Z"⟩ : MethodName)) (z := (⟨"com/example/exact_anchor/exactanchor/search/Budget", "spend", "(J)Z"⟩ : MethodName)) hown (mvT hZ (hw _ (List.mem_of_getElem? (i := 16) rfl))) (mvT hZ (hw _ (List.mem_of_getElem? (i := 17) rfl))) (notFace_of_selects (args := #[]) (mvT hZ (hw _ (List.mem_of_getElem? (i := 19) rfl)))) (mvT hZ (hw _ (List.mem_of_getElem? (i := 19) rfl))) (mvT hZ (hw _ (List.mem_of_getElem? (i := 18) rfl))) (by decide) (backOf (W := 0) (rm4_t l Z a0 hw [] b5 x1 (q1 &&& (9223372036854775807 : Int64)) (0 : Int64) (0 : Int32) T7.heap n0 H7 FL7 FS7 E7' FR7 g_b5 (by rw [Int64.sub_zero]; exact h1)) hZ (hw _ (List.mem_of_getElem? (i := 20) rfl)) (hw _ (List.mem_of_getElem? (i := 3) rfl)) (by decide) (by decide)) q8a q8c (g := (mkF m 35 #[.val (.long q1), .second, .val (.long q2), .second, .val (.long q3), .second, .val (.int p4), .val (.long (q1 &&& (9223372036854775807 : Int64))), .second, .val (.ref b5), .val (.long x1), .second, .unset, .unset, .unset, .unset, .unset, .unset, .unset, .unset, .unset, .unset, .unset, .unset] [(.long x1), (.ref b5)])) rfl (by rw [hml]; rfl) (Steps.refl _) (argsL := [(.long x1)]) (rest := []) (lenOf pd_0_3 rfl) rfl (by show 2 * 0 + _ ≤ _; exact Nat.le_of_eq rfl) (hb hby at_35) (fun _ _ => ⟨rfl, rfl, (by decide : 1 + 0 ≤ _), (by decide : 3 + 0 ≤ _)⟩)
  dsimp only [Pt.U, Pt.locs, Pt.cells, Pt.slots] at X8 l8 y8 z8 st8 hQ8
  subst l8 y8 z8
  obtain ⟨rfl, N8q, K8, E8', FL8, FS8z, FR8⟩ := hQ8      -- what it returned, that it wrote nothing old, and the rest of your Q4
  have N8 := Fr.app N7 N8q
  have H8 : n0 ≤ T8.heap.size := Nat.le_trans H7 K8.1
  have FS8 : Fld Z T8.heap b5 "com/example/exact_anchor/exactanchor/search/Budget" "spent" "J" (.long x1) := by rw [Int64.zero_add] at FS8z; exact FS8z
  -- pc 77: com/example/exact_anchor/exactanchor/search/Budget.spent by the contract of the body that the receiver's class selects, rm5
  obtain ⟨cq9, kq9, q9a, q9b, q9c⟩ := isOf hZ rfl E8'
  obtain ⟨_, _, ⟨T9, L9, k9, n9⟩, -, X9, ⟨Lc9, hQ9, l9, y9, z9⟩, st9⟩ := X8.virtualBack hx (y := (⟨"com/example/exact_anchor/exactanchor/search/Budget", "spent", "()J"⟩ : MethodName)) (z := (⟨"com/example/exact_anchor/exactanchor/search/Budget", "spent", "()J"⟩ : MethodName)) hown (mvT hZ (hw _ (List.mem_of_getElem? (i := 23) rfl))) (mvT hZ (hw _ (List.mem_of_getElem? (i := 24) rfl))) (notFace_of_selects (args := #[]) (mvT hZ (hw _ (List.mem_of_getElem? (i := 26) rfl)))) (mvT hZ (hw _ (List.mem_of_getElem? (i := 26) rfl))) (mvT hZ (hw _ (List.mem_of_getElem? (i := 25) rfl))) (by decide) (backOf (W := 0) (rm5 l Z a0 hw [] b5 x1 T8.heap n0 H8 FS8) hZ (hw _ (List.mem_of_getElem? (i := 27) rfl)) (hw _ (List.mem_of_getElem? (i := 3) rfl)) (by decide) (by decide)) q9a q9c (g := (mkF m 77 #[.val (.long q1), .second, .val (.long q2), .second, .val (.long q3), .second, .val (.int p4), .val (.long (q1 &&& (9223372036854775807 : Int64))), .second, .val (.ref b5), .val (.long x1), .second, .val (.int (1 : Int32)), .val (.int (1 : Int32)), .val (.long x1), .second, .unset, .unset, .unset, .unset, .unset, .unset, .unset, .unset] [(.ref b5)])) rfl (by rw [hml]; rfl) (Steps.refl _) (argsL := []) (rest := []) (lenOf pd_0_4 rfl) rfl (by show 2 * 0 + _ ≤ _; exact Nat.le_of_eq rfl) (hb hby at_77) (fun _ _ => ⟨rfl, rfl, (by decide : 1 + 0 ≤ _), (by decide : 3 + 0 ≤ _)⟩)
  dsimp only [Pt.U, Pt.locs, Pt.cells, Pt.slots] at X9 l9 y9 z9 st9 hQ9
  subst l9 y9 z9
  obtain ⟨rfl, N9q, q9⟩ := hQ9      -- what it returned, that it wrote nothing old, and the rest of your Q5
  have N9 := Fr.app N8 N9q
  have H9 : n0 ≤ T9.heap.size := by rw [q9]; exact H8
  have E9' : Exa Z T9.heap b5 "com/example/exact_anchor/exactanchor/search/Budget" := by rw [q9]; exact E8'
  have FL9 : Fld Z T9.heap b5 "com/example/exact_anchor/exactanchor/search/Budget" "limit" "J" (.long (q1 &&& (9223372036854775807 : Int64))) := by rw [q9]; exact FL8
  have FS9 : Fld Z T9.heap b5 "com/example/exact_anchor/exactanchor/search/Budget" "spent" "J" (.long x1) := by rw [q9]; exact FS8
  have FR9 : Fld Z T9.heap b5 "com/example/exact_anchor/exactanchor/search/Budget" "refused" "Z" (.int (0 : Int32)) := by rw [q9]; exact FR8
  -- pc 88: com/example/exact_anchor/exactanchor/search/Budget.exhausted by the contract of the body that the receiver's class selects, rm6
  obtain ⟨cq10, kq10, q10a, q10b, q10c⟩ := isOf hZ rfl E9'
  obtain ⟨_, _, ⟨T10, L10, k10, n10⟩, -, X10, ⟨Lc10, hQ10, l10, y10, z10⟩, st10⟩ := X9.virtualBack hx (y := (⟨"com/example/exact_anchor/exactanchor/search/Budget", "exhausted", "()Z"⟩ : MethodName)) (z := (⟨"com/example/exact_anchor/exactanchor/search/Budget", "exhausted", "()Z"⟩ : MethodName)) hown (mvT hZ (hw _ (List.mem_of_getElem? (i := 28) rfl))) (mvT hZ (hw _ (List.mem_of_getElem? (i := 29) rfl))) (notFace_of_selects (args := #[]) (mvT hZ (hw _ (List.mem_of_getElem? (i := 31) rfl)))) (mvT hZ (hw _ (List.mem_of_getElem? (i := 31) rfl))) (mvT hZ (hw _ (List.mem_of_getElem? (i := 30) rfl))) (by decide) (backOf (W := 0) (rm6 l Z a0 hw [] b5 (0 : Int32) T9.heap n0 H9 FR9 rfl) hZ (hw _ (List.mem_of_getElem? (i := 32) rfl)) (hw _ (List.mem_of_getElem? (i := 3) rfl)) (by decide) (by decide)) q10a q10c (g := (mkF m 88 #[.val (.long q1), .second, .val (.long q2), .second, .val (.long q3), .second, .val (.int p4), .val (.long (q1 &&& (9223372036854775807 : Int64))), .second, .val (.ref b5), .val (.long x1), .second, .val (.int (1 : Int32)), .val (.int (1 : Int32)), .val (.long x1), .second, .unset, .unset, .unset, .unset, .unset, .unset, .unset, .unset] [(.ref b5)])) rfl (by rw [hml]; rfl) (Steps.refl _) (argsL := []) (rest := []) (lenOf pd_0_5 rfl) rfl (by show 2 * 0 + _ ≤ _; exact Nat.le_of_eq rfl) (hb hby at_88) (fun _ _ => ⟨rfl, rfl, (by decide : 1 + 0 ≤ _), (by decide : 3 + 0 ≤ _)⟩)
  dsimp only [Pt.U, Pt.locs, Pt.cells, Pt.slots] at X10 l10 y10 z10 st10 hQ10
  subst l10 y10 z10
  obtain ⟨rfl, N10q, q10⟩ := hQ10      -- what it returned, that it wrote nothing old, and the rest of your Q6
  have N10 := Fr.app N9 N10q
  have H10 : n0 ≤ T10.heap.size := by rw [q10]; exact H9
  have E10' : Exa Z T10.heap b5 "com/example/exact_anchor/exactanchor/search/Budget" := by rw [q10]; exact E9'
  have FL10 : Fld Z T10.heap b5 "com/example/exact_anchor/exactanchor/search/Budget" "limit" "J" (.long (q1 &&& (9223372036854775807 : Int64))) := by rw [q10]; exact FL9
  have FS10 : Fld Z T10.heap b5 "com/example/exact_anchor/exactanchor/search/Budget" "spent" "J" (.long x1) := by rw [q10]; exact FS9
  have FR10 : Fld Z T10.heap b5 "com/example/exact_anchor/exactanchor/search/Budget" "refused" "Z" (.int (0 : Int32)) := by rw [q10]; exact FR9
  -- pc 124: com/example/exact_anchor/exactanchor/search/BudgetSpendPinLaw.pick by its contract rm3
  obtain ⟨_, _, ⟨T11, L11, k11, n11⟩, -, X11, ⟨Lc11, hQ11, l11, y11, z11⟩, st11⟩ := Jvm.LawKit.callS X10 hx (y := (⟨"com/example/exact_anchor/exactanchor/search/BudgetSpendPinLaw", "pick", "(JJI)J"⟩ : MethodName)) hown (mvT hZ (hw _ (List.mem_of_getElem? (i := 12) rfl))) (mvT hZ (hw _ (List.mem_of_getElem? (i := 13) rfl))) (mvT hZ (hw _ (List.mem_of_getElem? (i := 14) rfl))) (mvT hZ (hw _ (List.mem_of_getElem? (i := 15) rfl))) (by decide) (backOf (W := 0) (rm3x l Z a0 hw [] q3 ((q1 &&& (9223372036854775807 : Int64)) - x1) (((p4.toUInt32 >>> ((3 : Int32) &&& 31).toUInt32).toInt32) &&& (7 : Int32)) x2 T10.heap n0 H10 hx2) hZ (hw _ (List.mem_of_getElem? (i := 15) rfl)) (hw _ (List.mem_of_getElem? (i := 14) rfl)) (by decide) (by decide)) (g := (mkF m 124 #[.val (.long q1), .second, .val (.long q2), .second, .val (.long q3), .second, .val (.int p4), .val (.long (q1 &&& (9223372036854775807 : Int64))), .second, .val (.ref b5), .val (.long x1), .second, .val (.int (1 : Int32)), .val (.int (1 : Int32)), .val (.long x1), .second, .val (.long ((q1 &&& (9223372036854775807 : Int64)) - x1)), .second, .unset, .unset, .unset, .unset, .unset, .unset] [(.int (((p4.toUInt32 >>> ((3 : Int32) &&& 31).toUInt32).toInt32) &&& (7 : Int32))), (.long ((q1 &&& (9223372036854775807 : Int64)) - x1)), (.long q3)])) rfl (by rw [hml]; rfl) (argsL := [(.long q3), (.long ((q1 &&& (9223372036854775807 : Int64)) - x1)), (.int (((p4.toUInt32 >>> ((3 : Int32) &&& 31).toUInt32).toInt32) &&& (7 : Int32)))]) (rest := []) (lenOf pd_0_2 rfl) rfl (by show 2 * 0 + _ ≤ _; exact Nat.le_of_eq rfl) (hb hby at_124) (fun _ _ => ⟨rfl, rfl, (by decide : 1 + 0 ≤ _), (by decide : 3 + 0 ≤ _)⟩)
  dsimp only [Pt.U, Pt.locs, Pt.cells, Pt.slots] at X11 l11 y11 z11 st11 hQ11
  subst l11 y11 z11
  obtain ⟨rfl, N11q, q11⟩ := hQ11      -- what it returned, that it wrote nothing old, and the rest of your Q3
  have N11 := Fr.app N10 N11q
  have H11 : n0 ≤ T11.heap.size := by rw [q11]; exact H10
  have E11' : Exa Z T11.heap b5 "com/example/exact_anchor/exactanchor/search/Budget" := by rw [q11]; exact E10'
  have FL11 : Fld Z T11.heap b5 "com/example/exact_anchor/exactanchor/search/Budget" "limit" "J" (.long (q1 &&& (9223372036854775807 : Int64))) := by rw [q11]; exact FL10
  have FS11 : Fld Z T11.heap b5 "com/example/exact_anchor/exactanchor/search/Budget" "spent" "J" (.long x1) := by rw [q11]; exact FS10
  have FR11 : Fld Z T11.heap b5 "com/example/exact_anchor/exactanchor/search/Budget" "refused" "Z" (.int (0 : Int32)) := by rw [q11]; exact FR10
  -- pc 133: com/example/exact_anchor/exactanchor/search/Budget.spend by the contract of the body that the receiver's class selects, rm4
  obtain ⟨cq12, kq12, q12a, q12b, q12c⟩ := isOf hZ rfl E11'
  obtain ⟨_, _, ⟨T12, L12, k12, n12⟩, -, X12, ⟨Lc12, hQ12, l12, y12, z12⟩, st12⟩ := X11.virtualBack hx (y := (⟨"com/example/exact_anchor/exactanchor/search/Budget", "spend", "(J)Z"⟩ : MethodName)) (z := (⟨"com/example/exact_anchor/exactanchor/search/Budget", "spend", "(J)Z"⟩ : MethodName)) hown (mvT hZ (hw _ (List.mem_of_getElem? (i := 16) rfl))) (mvT hZ (hw _ (List.mem_of_getElem? (i := 17) rfl))) (notFace_of_selects (args := #[]) (mvT hZ (hw _ (List.mem_of_getElem? (i := 19) rfl)))) (mvT hZ (hw _ (List.mem_of_getElem? (i := 19) rfl))) (mvT hZ (hw _ (List.mem_of_getElem? (i := 18) rfl))) (by decide) (backOf (W := 0) (rm4_f l Z a0 hw [] b5 x2 (q1 &&& (9223372036854775807 : Int64)) x1 (0 : Int32) T11.heap n0 H11 FL11 FS11 E11' FR11 g_b5 h2) hZ (hw _ (List.mem_of_getElem? (i := 20) rfl)) (hw _ (List.mem_of_getElem? (i := 3) rfl)) (by decide) (by decide)) q12a q12c (g := (mkF m 133 #[.val (.long q1), .second, .val (.long q2), .second, .val (.long q3), .second, .val (.int p4), .val (.long (q1 &&& (9223372036854775807 : Int64))), .second, .val (.ref b5), .val (.long x1), .second, .val (.int (1 : Int32)), .val (.int (1 : Int32)), .val (.long x1), .second, .val (.long ((q1 &&& (9223372036854775807 : Int64)) - x1)), .second, .val (.long x2), .second, .unset, .unset, .unset, .unset] [(.long x2), (.ref b5)])) rfl (by rw [hml]; rfl) (Steps.refl _) (argsL := [(.long x2)]) (rest := []) (lenOf pd_0_3 rfl) rfl (by show 2 * 0 + _ ≤ _; exact Nat.le_of_eq rfl) (hb hby at_133) (fun _ _ => ⟨rfl, rfl, (by decide : 1 + 0 ≤ _), (by decide : 3 + 0 ≤ _)⟩)
  dsimp only [Pt.U, Pt.locs, Pt.cells, Pt.slots] at X12 l12 y12 z12 st12 hQ12
  subst l12 y12 z12
  obtain ⟨rfl, N12q, K12, E12', FL12, FS12, FR12⟩ := hQ12      -- what it returned, that it wrote nothing old, and the rest of your Q4
  have N12 := Fr.app N11 N12q
  have H12 : n0 ≤ T12.heap.size := Nat.le_trans H11 K12.1
  -- pc 179: com/example/exact_anchor/exactanchor/search/Budget.spent by the contract of the body that the receiver's class selects, rm5
  obtain ⟨cq13, kq13, q13a, q13b, q13c⟩ := isOf hZ rfl E12'
  obtain ⟨_, _, ⟨T13, L13, k13, n13⟩, -, X13, ⟨Lc13, hQ13, l13, y13, z13⟩, st13⟩ := X12.virtualBack hx (y := (⟨"com/example/exact_anchor/exactanchor/search/Budget", "spent", "()J"⟩ : MethodName)) (z := (⟨"com/example/exact_anchor/exactanchor/search/Budget", "spent", "()J"⟩ : MethodName)) hown (mvT hZ (hw _ (List.mem_of_getElem? (i := 23) rfl))) (mvT hZ (hw _ (List.mem_of_getElem? (i := 24) rfl))) (notFace_of_selects (args := #[]) (mvT hZ (hw _ (List.mem_of_getElem? (i := 26) rfl)))) (mvT hZ (hw _ (List.mem_of_getElem? (i := 26) rfl))) (mvT hZ (hw _ (List.mem_of_getElem? (i := 25) rfl))) (by decide) (backOf (W := 0) (rm5 l Z a0 hw [] b5 x1 T12.heap n0 H12 FS12) hZ (hw _ (List.mem_of_getElem? (i := 27) rfl)) (hw _ (List.mem_of_getElem? (i := 3) rfl)) (by decide) (by decide)) q13a q13c (g := (mkF m 179 #[.val (.long q1), .second, .val (.long q2), .second, .val (.long q3), .second, .val (.int p4), .val (.long (q1 &&& (9223372036854775807 : Int64))), .second, .val (.ref b5), .val (.long x1), .second, .val (.int (1 : Int32)), .val (.int (1 : Int32)), .val (.long x1), .second, .val (.long ((q1 &&& (9223372036854775807 : Int64)) - x1)), .second, .val (.long x2), .second, .val (.int (0 : Int32)), .val (.int (0 : Int32)), .val (.long x1), .second] [(.ref b5)])) rfl (by rw [hml]; rfl) (Steps.refl _) (argsL := []) (rest := []) (lenOf pd_0_4 rfl) rfl (by show 2 * 0 + _ ≤ _; exact Nat.le_of_eq rfl) (hb hby at_179) (fun _ _ => ⟨rfl, rfl, (by decide : 1 + 0 ≤ _), (by decide : 3 + 0 ≤ _)⟩)
  dsimp only [Pt.U, Pt.locs, Pt.cells, Pt.slots] at X13 l13 y13 z13 st13 hQ13
  subst l13 y13 z13
  obtain ⟨rfl, N13q, q13⟩ := hQ13      -- what it returned, that it wrote nothing old, and the rest of your Q5
  have N13 := Fr.app N12 N13q
  have H13 : n0 ≤ T13.heap.size := by rw [q13]; exact H12
  have E13' : Exa Z T13.heap b5 "com/example/exact_anchor/exactanchor/search/Budget" := by rw [q13]; exact E12'
  have FL13 : Fld Z T13.heap b5 "com/example/exact_anchor/exactanchor/search/Budget" "limit" "J" (.long (q1 &&& (9223372036854775807 : Int64))) := by rw [q13]; exact FL12
  have FS13 : Fld Z T13.heap b5 "com/example/exact_anchor/exactanchor/search/Budget" "spent" "J" (.long x1) := by rw [q13]; exact FS12
  have FR13 : Fld Z T13.heap b5 "com/example/exact_anchor/exactanchor/search/Budget" "refused" "Z" (.int (1 : Int32)) := by rw [q13]; exact FR12
  -- pc 190: com/example/exact_anchor/exactanchor/search/Budget.exhausted by the contract of the body that the receiver's class selects, rm6
  obtain ⟨cq14, kq14, q14a, q14b, q14c⟩ := isOf hZ rfl E13'
  obtain ⟨_, _, ⟨T14, L14, k14, n14⟩, -, X14, ⟨Lc14, hQ14, l14, y14, z14⟩, st14⟩ := X13.virtualBack hx (y := (⟨"com/example/exact_anchor/exactanchor/search/Budget", "exhausted", "()Z"⟩ : MethodName)) (z := (⟨"com/example/exact_anchor/exactanchor/search/Budget", "exhausted", "()Z"⟩ : MethodName)) hown (mvT hZ (hw _ (List.mem_of_getElem? (i := 28) rfl))) (mvT hZ (hw _ (List.mem_of_getElem? (i := 29) rfl))) (notFace_of_selects (args := #[]) (mvT hZ (hw _ (List.mem_of_getElem? (i := 31) rfl)))) (mvT hZ (hw _ (List.mem_of_getElem? (i := 31) rfl))) (mvT hZ (hw _ (List.mem_of_getElem? (i := 30) rfl))) (by decide) (backOf (W := 0) (rm6 l Z a0 hw [] b5 (1 : Int32) T13.heap n0 H13 FR13 rfl) hZ (hw _ (List.mem_of_getElem? (i := 32) rfl)) (hw _ (List.mem_of_getElem? (i := 3) rfl)) (by decide) (by decide)) q14a q14c (g := (mkF m 190 #[.val (.long q1), .second, .val (.long q2), .second, .val (.long q3), .second, .val (.int p4), .val (.long (q1 &&& (9223372036854775807 : Int64))), .second, .val (.ref b5), .val (.long x1), .second, .val (.int (1 : Int32)), .val (.int (1 : Int32)), .val (.long x1), .second, .val (.long ((q1 &&& (9223372036854775807 : Int64)) - x1)), .second, .val (.long x2), .second, .val (.int (0 : Int32)), .val (.int (0 : Int32)), .val (.long x1), .second] [(.ref b5)])) rfl (by rw [hml]; rfl) (Steps.refl _) (argsL := []) (rest := []) (lenOf pd_0_5 rfl) rfl (by show 2 * 0 + _ ≤ _; exact Nat.le_of_eq rfl) (hb hby at_190) (fun _ _ => ⟨rfl, rfl, (by decide : 1 + 0 ≤ _), (by decide : 3 + 0 ≤ _)⟩)
  dsimp only [Pt.U, Pt.locs, Pt.cells, Pt.slots] at X14 l14 y14 z14 st14 hQ14
  subst l14 y14 z14
  obtain ⟨rfl, N14q, q14⟩ := hQ14      -- what it returned, that it wrote nothing old, and the rest of your Q6
  have N14 := Fr.app N13 N14q
  have H14 : n0 ≤ T14.heap.size := by rw [q14]; exact H13
  have E14' : Exa Z T14.heap b5 "com/example/exact_anchor/exactanchor/search/Budget" := by rw [q14]; exact E13'
  have FL14 : Fld Z T14.heap b5 "com/example/exact_anchor/exactanchor/search/Budget" "limit" "J" (.long (q1 &&& (9223372036854775807 : Int64))) := by rw [q14]; exact FL13
  have FS14 : Fld Z T14.heap b5 "com/example/exact_anchor/exactanchor/search/Budget" "spent" "J" (.long x1) := by rw [q14]; exact FS13
  have FR14 : Fld Z T14.heap b5 "com/example/exact_anchor/exactanchor/search/Budget" "refused" "Z" (.int (1 : Int32)) := by rw [q14]; exact FR13
  obtain ⟨fs, hr, hrun, hended, hW, hsame⟩ := X14.leave (v := some (.int (1 : Int32))) (fun h => by rw [Bd.returns] at h; cases h)
  refine ⟨_, _, pre0 _ ?_, hrun, hended, _, _, rfl, ?_, ⟨_, rfl⟩, hW, hsame.mono (by decide) (by decide)⟩
  -- 4. STEPS
  · show Steps p.tables e below (s₁.setTop (mkF m 0 #[.val (.long q1), .second, .val (.long q2), .second, .val (.long q3), .second, .val (.int p4), .unset, .unset, .unset, .unset, .unset, .unset, .unset, .unset, .unset, .unset, .unset, .unset, .unset, .unset, .unset, .unset, .unset] [])) _
    refine XS.lloadN X0.here hx rfl (hb hby at_0) rfl ?_
    show Steps p.tables e below (s₁.setTop (mkF m 1 #[.val (.long q1), .second, .val (.long q2), .second, .val (.long q3), .second, .val (.int p4), .unset, .unset, .unset, .unset, .unset, .unset, .unset, .unset, .unset, .unset, .unset, .unset, .unset, .unset, .unset, .unset, .unset] [(.long q1)])) _
    refine X0.ldc2Long hx hown (mvT hZ (hw _ (List.mem_of_getElem? (i := 0) rfl))) (g := (mkF m 1 #[.val (.long q1), .second, .val (.long q2), .second, .val (.long q3), .second, .val (.int p4), .unset, .unset, .unset, .unset, .unset, .unset, .unset, .unset, .unset, .unset, .unset, .unset, .unset, .unset, .unset, .unset, .unset] [(.long q1)])) rfl (hb hby at_1) _ ?_
    show Steps p.tables e below (s₁.setTop (mkF m 4 #[.val (.long q1), .second, .val (.long q2), .second, .val (.long q3), .second, .val (.int p4), .unset, .unset, .unset, .unset, .unset, .unset, .unset, .unset, .unset, .unset, .unset, .unset, .unset, .unset, .unset, .unset, .unset] [(.long (9223372036854775807 : Int64)), (.long q1)])) _
    refine XS.land X0.here hx rfl (hb hby at_4) rfl ?_
    show Steps p.tables e below (s₁.setTop (mkF m 5 #[.val (.long q1), .second, .val (.long q2), .second, .val (.long q3), .second, .val (.int p4), .unset, .unset, .unset, .unset, .unset, .unset, .unset, .unset, .unset, .unset, .unset, .unset, .unset, .unset, .unset, .unset, .unset] [(.long (q1 &&& (9223372036854775807 : Int64)))])) _
    refine XS.lstore X0.here hx rfl (hb hby at_5) rfl (l' := #[.val (.long q1), .second, .val (.long q2), .second, .val (.long q3), .second, .val (.int p4), .val (.long (q1 &&& (9223372036854775807 : Int64))), .second, .unset, .unset, .unset, .unset, .unset, .unset, .unset, .unset, .unset, .unset, .unset, .unset, .unset, .unset, .unset]) rfl ?_
    show Steps p.tables e below (s₁.setTop (mkF m 7 #[.val (.long q1), .second, .val (.long q2), .second, .val (.long q3), .second, .val (.int p4), .val (.long (q1 &&& (9223372036854775807 : Int64))), .second, .unset, .unset, .unset, .unset, .unset, .unset, .unset, .unset, .unset, .unset, .unset, .unset, .unset, .unset, .unset] [])) _
    refine st5 _ ?_
    show Steps p.tables e below (T5.setTop (mkF m 10 #[.val (.long q1), .second, .val (.long q2), .second, .val (.long q3), .second, .val (.int p4), .val (.long (q1 &&& (9223372036854775807 : Int64))), .second, .unset, .unset, .unset, .unset, .unset, .unset, .unset, .unset, .unset, .unset, .unset, .unset, .unset, .unset, .unset] [(.ref b5)])) _
    refine XS.dup X5.here hx rfl (hb hby at_10) rfl rfl ?_
    show Steps p.tables e below (T5.setTop (mkF m 11 #[.val (.long q1), .second, .val (.long q2), .second, .val (.long q3), .second, .val (.int p4), .val (.long (q1 &&& (9223372036854775807 : Int64))), .second, .unset, .unset, .unset, .unset, .unset, .unset, .unset, .unset, .unset, .unset, .unset, .unset, .unset, .unset, .unset] [(.ref b5), (.ref b5)])) _
    refine XS.lload X5.here hx rfl (hb hby at_11) rfl ?_
    show Steps p.tables e below (T5.setTop (mkF m 13 #[.val (.long q1), .second, .val (.long q2), .second, .val (.long q3), .second, .val (.int p4), .val (.long (q1 &&& (9223372036854775807 : Int64))), .second, .unset, .unset, .unset, .unset, .unset, .unset, .unset, .unset, .unset, .unset, .unset, .unset, .unset, .unset, .unset] [(.long (q1 &&& (9223372036854775807 : Int64))), (.ref b5), (.ref b5)])) _
    refine st6.trans ?_
    show Steps p.tables e below (T6.setTop (mkF m 16 #[.val (.long q1), .second, .val (.long q2), .second, .val (.long q3), .second, .val (.int p4), .val (.long (q1 &&& (9223372036854775807 : Int64))), .second, .unset, .unset, .unset, .unset, .unset, .unset, .unset, .unset, .unset, .unset, .unset, .unset, .unset, .unset, .unset] [(.ref b5)])) _
    refine XS.astore X6.here hx rfl (hb hby at_16) rfl rfl (l' := #[.val (.long q1), .second, .val (.long q2), .second, .val (.long q3), .second, .val (.int p4), .val (.long (q1 &&& (9223372036854775807 : Int64))), .second, .val (.ref b5), .unset, .unset, .unset, .unset, .unset, .unset, .unset, .unset, .unset, .unset, .unset, .unset, .unset, .unset]) rfl ?_
    show Steps p.tables e below (T6.setTop (mkF m 18 #[.val (.long q1), .second, .val (.long q2), .second, .val (.long q3), .second, .val (.int p4), .val (.long (q1 &&& (9223372036854775807 : Int64))), .second, .val (.ref b5), .unset, .unset, .unset, .unset, .unset, .unset, .unset, .unset, .unset, .unset, .unset, .unset, .unset, .unset] [])) _
    refine XS.lloadN X6.here hx rfl (hb hby at_18) rfl ?_
    show Steps p.tables e below (T6.setTop (mkF m 19 #[.val (.long q1), .second, .val (.long q2), .second, .val (.long q3), .second, .val (.int p4), .val (.long (q1 &&& (9223372036854775807 : Int64))), .second, .val (.ref b5), .unset, .unset, .unset, .unset, .unset, .unset, .unset, .unset, .unset, .unset, .unset, .unset, .unset, .unset] [(.long q2)])) _
    refine XS.lload X6.here hx rfl (hb hby at_19) rfl ?_
    show Steps p.tables e below (T6.setTop (mkF m 21 #[.val (.long q1), .second, .val (.long q2), .second, .val (.long q3), .second, .val (.int p4), .val (.long (q1 &&& (9223372036854775807 : Int64))), .second, .val (.ref b5), .unset, .unset, .unset, .unset, .unset, .unset, .unset, .unset, .unset, .unset, .unset, .unset, .unset, .unset] [(.long (q1 &&& (9223372036854775807 : Int64))), (.long q2)])) _
    refine XS.iload X6.here hx rfl (hb hby at_21) rfl ?_
    show Steps p.tables e below (T6.setTop (mkF m 23 #[.val (.long q1), .second, .val (.long q2), .second, .val (.long q3), .second, .val (.int p4), .val (.long (q1 &&& (9223372036854775807 : Int64))), .second, .val (.ref b5), .unset, .unset, .unset, .unset, .unset, .unset, .unset, .unset, .unset, .unset, .unset, .unset, .unset, .unset] [(.int p4), (.long (q1 &&& (9223372036854775807 : Int64))), (.long q2)])) _
    refine XS.bipush X6.here hx rfl (hb hby at_23) ?_
    show Steps p.tables e below (T6.setTop (mkF m 25 #[.val (.long q1), .second, .val (.long q2), .second, .val (.long q3), .second, .val (.int p4), .val (.long (q1 &&& (9223372036854775807 : Int64))), .second, .val (.ref b5), .unset, .unset, .unset, .unset, .unset, .unset, .unset, .unset, .unset, .unset, .unset, .unset, .unset, .unset] [(.int (7 : Int32)), (.int p4), (.long (q1 &&& (9223372036854775807 : Int64))), (.long q2)])) _
    refine XS.iand X6.here hx rfl (hb hby at_25) rfl ?_
    show Steps p.tables e below (T6.setTop (mkF m 26 #[.val (.long q1), .second, .val (.long q2), .second, .val (.long q3), .second, .val (.int p4), .val (.long (q1 &&& (9223372036854775807 : Int64))), .second, .val (.ref b5), .unset, .unset, .unset, .unset, .unset, .unset, .unset, .unset, .unset, .unset, .unset, .unset, .unset, .unset] [(.int (p4 &&& (7 : Int32))), (.long (q1 &&& (9223372036854775807 : Int64))), (.long q2)])) _
    refine st7 _ ?_
    show Steps p.tables e below (T7.setTop (mkF m 29 #[.val (.long q1), .second, .val (.long q2), .second, .val (.long q3), .second, .val (.int p4), .val (.long (q1 &&& (9223372036854775807 : Int64))), .second, .val (.ref b5), .unset, .unset, .unset, .unset, .unset, .unset, .unset, .unset, .unset, .unset, .unset, .unset, .unset, .unset] [(.long x1)])) _
    refine XS.lstore X7.here hx rfl (hb hby at_29) rfl (l' := #[.val (.long q1), .second, .val (.long q2), .second, .val (.long q3), .second, .val (.int p4), .val (.long (q1 &&& (9223372036854775807 : Int64))), .second, .val (.ref b5), .val (.long x1), .second, .unset, .unset, .unset, .unset, .unset, .unset, .unset, .unset, .unset, .unset, .unset, .unset]) rfl ?_
    show Steps p.tables e below (T7.setTop (mkF m 31 #[.val (.long q1), .second, .val (.long q2), .second, .val (.long q3), .second, .val (.int p4), .val (.long (q1 &&& (9223372036854775807 : Int64))), .second, .val (.ref b5), .val (.long x1), .second, .unset, .unset, .unset, .unset, .unset, .unset, .unset, .unset, .unset, .unset, .unset, .unset] [])) _
    refine XS.aload X7.here hx rfl (hb hby at_31) rfl rfl ?_
    show Steps p.tables e below (T7.setTop (mkF m 33 #[.val (.long q1), .second, .val (.long q2), .second, .val (.long q3), .second, .val (.int p4), .val (.long (q1 &&& (9223372036854775807 : Int64))), .second, .val (.ref b5), .val (.long x1), .second, .unset, .unset, .unset, .unset, .unset, .unset, .unset, .unset, .unset, .unset, .unset, .unset] [(.ref b5)])) _
    refine XS.lload X7.here hx rfl (hb hby at_33) rfl ?_
    show Steps p.tables e below (T7.setTop (mkF m 35 #[.val (.long q1), .second, .val (.long q2), .second, .val (.long q3), .second, .val (.int p4), .val (.long (q1 &&& (9223372036854775807 : Int64))), .second, .val (.ref b5), .val (.long x1), .second, .unset, .unset, .unset, .unset, .unset, .unset, .unset, .unset, .unset, .unset, .unset, .unset] [(.long x1), (.ref b5)])) _
    refine st8.trans ?_
    show Steps p.tables e below (T8.setTop (mkF m 38 #[.val (.long q1), .second, .val (.long q2), .second, .val (.long q3), .second, .val (.int p4), .val (.long (q1 &&& (9223372036854775807 : Int64))), .second, .val (.ref b5), .val (.long x1), .second, .unset, .unset, .unset, .unset, .unset, .unset, .unset, .unset, .unset, .unset, .unset, .unset] [(.int (1 : Int32))])) _
    refine XS.istore X8.here hx rfl (hb hby at_38) rfl (l' := #[.val (.long q1), .second, .val (.long q2), .second, .val (.long q3), .second, .val (.int p4), .val (.long (q1 &&& (9223372036854775807 : Int64))), .second, .val (.ref b5), .val (.long x1), .second, .val (.int (1 : Int32)), .unset, .unset, .unset, .unset, .unset, .unset, .unset, .unset, .unset, .unset, .unset]) rfl ?_
    show Steps p.tables e below (T8.setTop (mkF m 40 #[.val (.long q1), .second, .val (.long q2), .second, .val (.long q3), .second, .val (.int p4), .val (.long (q1 &&& (9223372036854775807 : Int64))), .second, .val (.ref b5), .val (.long x1), .second, .val (.int (1 : Int32)), .unset, .unset, .unset, .unset, .unset, .unset, .unset, .unset, .unset, .unset, .unset] [])) _
    refine XS.lload X8.here hx rfl (hb hby at_40) rfl ?_
    show Steps p.tables e below (T8.setTop (mkF m 42 #[.val (.long q1), .second, .val (.long q2), .second, .val (.long q3), .second, .val (.int p4), .val (.long (q1 &&& (9223372036854775807 : Int64))), .second, .val (.ref b5), .val (.long x1), .second, .val (.int (1 : Int32)), .unset, .unset, .unset, .unset, .unset, .unset, .unset, .unset, .unset, .unset, .unset] [(.long x1)])) _
    refine XS.lload X8.here hx rfl (hb hby at_42) rfl ?_
    show Steps p.tables e below (T8.setTop (mkF m 44 #[.val (.long q1), .second, .val (.long q2), .second, .val (.long q3), .second, .val (.int p4), .val (.long (q1 &&& (9223372036854775807 : Int64))), .second, .val (.ref b5), .val (.long x1), .second, .val (.int (1 : Int32)), .unset, .unset, .unset, .unset, .unset, .unset, .unset, .unset, .unset, .unset, .unset] [(.long (q1 &&& (9223372036854775807 : Int64))), (.long x1)])) _
    refine XS.lcmp X8.here hx rfl (hb hby at_44) rfl ?_
    show Steps p.tables e below (T8.setTop (mkF m 45 #[.val (.long q1), .second, .val (.long q2), .second, .val (.long q3), .second, .val (.int p4), .val (.long (q1 &&& (9223372036854775807 : Int64))), .second, .val (.ref b5), .val (.long x1), .second, .val (.int (1 : Int32)), .unset, .unset, .unset, .unset, .unset, .unset, .unset, .unset, .unset, .unset, .unset] [(.int (lcmpW x1 (q1 &&& (9223372036854775807 : Int64))))])) _
    refine XS.ifNo X8.here hx rfl (hb hby at_45) rfl ((if0 _ _).trans (flt (h1 : ¬ ((0 : Int32) < (lcmpW x1 (q1 &&& (9223372036854775807 : Int64)))))).2.2.1) ?_
    show Steps p.tables e below (T8.setTop (mkF m 48 #[.val (.long q1), .second, .val (.long q2), .second, .val (.long q3), .second, .val (.int p4), .val (.long (q1 &&& (9223372036854775807 : Int64))), .second, .val (.ref b5), .val (.long x1), .second, .val (.int (1 : Int32)), .unset, .unset, .unset, .unset, .unset, .unset, .unset, .unset, .unset, .unset, .unset] [])) _
    refine XS.iconst X8.here hx rfl (hb hby at_48) ?_
    show Steps p.tables e below (T8.setTop (mkF m 49 #[.val (.long q1), .second, .val (.long q2), .second, .val (.long q3), .second, .val (.int p4), .val (.long (q1 &&& (9223372036854775807 : Int64))), .second, .val (.ref b5), .val (.long x1), .second, .val (.int (1 : Int32)), .unset, .unset, .unset, .unset, .unset, .unset, .unset, .unset, .unset, .unset, .unset] [(.int (1 : Int32))])) _
    refine XS.goto X8.here hx rfl (pc0 := 49) (pc' := 53) rfl (hb hby at_49) (by decide) (by decide) ?_
    show Steps p.tables e below (T8.setTop (mkF m 53 #[.val (.long q1), .second, .val (.long q2), .second, .val (.long q3), .second, .val (.int p4), .val (.long (q1 &&& (9223372036854775807 : Int64))), .second, .val (.ref b5), .val (.long x1), .second, .val (.int (1 : Int32)), .unset, .unset, .unset, .unset, .unset, .unset, .unset, .unset, .unset, .unset, .unset] [(.int (1 : Int32))])) _
    refine XS.istore X8.here hx rfl (hb hby at_53) rfl (l' := #[.val (.long q1), .second, .val (.long q2), .second, .val (.long q3), .second, .val (.int p4), .val (.long (q1 &&& (9223372036854775807 : Int64))), .second, .val (.ref b5), .val (.long x1), .second, .val (.int (1 : Int32)), .val (.int (1 : Int32)), .unset, .unset, .unset, .unset, .unset, .unset, .unset, .unset, .unset, .unset]) rfl ?_
    show Steps p.tables e below (T8.setTop (mkF m 55 #[.val (.long q1), .second, .val (.long q2), .second, .val (.long q3), .second, .val (.int p4), .val (.long (q1 &&& (9223372036854775807 : Int64))), .second, .val (.ref b5), .val (.long x1), .second, .val (.int (1 : Int32)), .val (.int (1 : Int32)), .unset, .unset, .unset, .unset, .unset, .unset, .unset, .unset, .unset, .unset] [])) _
    refine XS.iload X8.here hx rfl (hb hby at_55) rfl ?_
    show Steps p.tables e below (T8.setTop (mkF m 57 #[.val (.long q1), .second, .val (.long q2), .second, .val (.long q3), .second, .val (.int p4), .val (.long (q1 &&& (9223372036854775807 : Int64))), .second, .val (.ref b5), .val (.long x1), .second, .val (.int (1 : Int32)), .val (.int (1 : Int32)), .unset, .unset, .unset, .unset, .unset, .unset, .unset, .unset, .unset, .unset] [(.int (1 : Int32))])) _
    refine XS.ifNo X8.here hx rfl (hb hby at_57) rfl ((if0 _ _).trans (feq hc57).1) ?_
    show Steps p.tables e below (T8.setTop (mkF m 60 #[.val (.long q1), .second, .val (.long q2), .second, .val (.long q3), .second, .val (.int p4), .val (.long (q1 &&& (9223372036854775807 : Int64))), .second, .val (.ref b5), .val (.long x1), .second, .val (.int (1 : Int32)), .val (.int (1 : Int32)), .unset, .unset, .unset, .unset, .unset, .unset, .unset, .unset, .unset, .unset] [])) _
    refine XS.lload X8.here hx rfl (hb hby at_60) rfl ?_
    show Steps p.tables e below (T8.setTop (mkF m 62 #[.val (.long q1), .second, .val (.long q2), .second, .val (.long q3), .second, .val (.int p4), .val (.long (q1 &&& (9223372036854775807 : Int64))), .second, .val (.ref b5), .val (.long x1), .second, .val (.int (1 : Int32)), .val (.int (1 : Int32)), .unset, .unset, .unset, .unset, .unset, .unset, .unset, .unset, .unset, .unset] [(.long x1)])) _
    refine XS.goto X8.here hx rfl (pc0 := 62) (pc' := 66) rfl (hb hby at_62) (by decide) (by decide) ?_
    show Steps p.tables e below (T8.setTop (mkF m 66 #[.val (.long q1), .second, .val (.long q2), .second, .val (.long q3), .second, .val (.int p4), .val (.long (q1 &&& (9223372036854775807 : Int64))), .second, .val (.ref b5), .val (.long x1), .second, .val (.int (1 : Int32)), .val (.int (1 : Int32)), .unset, .unset, .unset, .unset, .unset, .unset, .unset, .unset, .unset, .unset] [(.long x1)])) _
    refine XS.lstore X8.here hx rfl (hb hby at_66) rfl (l' := #[.val (.long q1), .second, .val (.long q2), .second, .val (.long q3), .second, .val (.int p4), .val (.long (q1 &&& (9223372036854775807 : Int64))), .second, .val (.ref b5), .val (.long x1), .second, .val (.int (1 : Int32)), .val (.int (1 : Int32)), .val (.long x1), .second, .unset, .unset, .unset, .unset, .unset, .unset, .unset, .unset]) rfl ?_
    show Steps p.tables e below (T8.setTop (mkF m 68 #[.val (.long q1), .second, .val (.long q2), .second, .val (.long q3), .second, .val (.int p4), .val (.long (q1 &&& (9223372036854775807 : Int64))), .second, .val (.ref b5), .val (.long x1), .second, .val (.int (1 : Int32)), .val (.int (1 : Int32)), .val (.long x1), .second, .unset, .unset, .unset, .unset, .unset, .unset, .unset, .unset] [])) _
    refine XS.iload X8.here hx rfl (hb hby at_68) rfl ?_
    show Steps p.tables e below (T8.setTop (mkF m 70 #[.val (.long q1), .second, .val (.long q2), .second, .val (.long q3), .second, .val (.int p4), .val (.long (q1 &&& (9223372036854775807 : Int64))), .second, .val (.ref b5), .val (.long x1), .second, .val (.int (1 : Int32)), .val (.int (1 : Int32)), .val (.long x1), .second, .unset, .unset, .unset, .unset, .unset, .unset, .unset, .unset] [(.int (1 : Int32))])) _
    refine XS.iload X8.here hx rfl (hb hby at_70) rfl ?_
    show Steps p.tables e below (T8.setTop (mkF m 72 #[.val (.long q1), .second, .val (.long q2), .second, .val (.long q3), .second, .val (.int p4), .val (.long (q1 &&& (9223372036854775807 : Int64))), .second, .val (.ref b5), .val (.long x1), .second, .val (.int (1 : Int32)), .val (.int (1 : Int32)), .val (.long x1), .second, .unset, .unset, .unset, .unset, .unset, .unset, .unset, .unset] [(.int (1 : Int32)), (.int (1 : Int32))])) _
    refine XS.icmpNo X8.here hx rfl (hb hby at_72) rfl (teq (rfl : (1 : Int32) = (1 : Int32))).2 ?_
    show Steps p.tables e below (T8.setTop (mkF m 75 #[.val (.long q1), .second, .val (.long q2), .second, .val (.long q3), .second, .val (.int p4), .val (.long (q1 &&& (9223372036854775807 : Int64))), .second, .val (.ref b5), .val (.long x1), .second, .val (.int (1 : Int32)), .val (.int (1 : Int32)), .val (.long x1), .second, .unset, .unset, .unset, .unset, .unset, .unset, .unset, .unset] [])) _
    refine XS.aload X8.here hx rfl (hb hby at_75) rfl rfl ?_
    show Steps p.tables e below (T8.setTop (mkF m 77 #[.val (.long q1), .second, .val (.long q2), .second, .val (.long q3), .second, .val (.int p4), .val (.long (q1 &&& (9223372036854775807 : Int64))), .second, .val (.ref b5), .val (.long x1), .second, .val (.int (1 : Int32)), .val (.int (1 : Int32)), .val (.long x1), .second, .unset, .unset, .unset, .unset, .unset, .unset, .unset, .unset] [(.ref b5)])) _
    refine st9.trans ?_
    show Steps p.tables e below (T9.setTop (mkF m 80 #[.val (.long q1), .second, .val (.long q2), .second, .val (.long q3), .second, .val (.int p4), .val (.long (q1 &&& (9223372036854775807 : Int64))), .second, .val (.ref b5), .val (.long x1), .second, .val (.int (1 : Int32)), .val (.int (1 : Int32)), .val (.long x1), .second, .unset, .unset, .unset, .unset, .unset, .unset, .unset, .unset] [(.long x1)])) _
    refine XS.lload X9.here hx rfl (hb hby at_80) rfl ?_
    show Steps p.tables e below (T9.setTop (mkF m 82 #[.val (.long q1), .second, .val (.long q2), .second, .val (.long q3), .second, .val (.int p4), .val (.long (q1 &&& (9223372036854775807 : Int64))), .second, .val (.ref b5), .val (.long x1), .second, .val (.int (1 : Int32)), .val (.int (1 : Int32)), .val (.long x1), .second, .unset, .unset, .unset, .unset, .unset, .unset, .unset, .unset] [(.long x1), (.long x1)])) _
    refine XS.lcmp X9.here hx rfl (hb hby at_82) rfl ?_
    show Steps p.tables e below (T9.setTop (mkF m 83 #[.val (.long q1), .second, .val (.long q2), .second, .val (.long q3), .second, .val (.int p4), .val (.long (q1 &&& (9223372036854775807 : Int64))), .second, .val (.ref b5), .val (.long x1), .second, .val (.int (1 : Int32)), .val (.int (1 : Int32)), .val (.long x1), .second, .unset, .unset, .unset, .unset, .unset, .unset, .unset, .unset] [(.int (lcmpW x1 x1))])) _
    refine XS.ifNo X9.here hx rfl (hb hby at_83) rfl ((if0 _ _).trans (teq ((lw_eq _ _).mpr rfl : (lcmpW x1 x1) = (0 : Int32))).2) ?_
    show Steps p.tables e below (T9.setTop (mkF m 86 #[.val (.long q1), .second, .val (.long q2), .second, .val (.long q3), .second, .val (.int p4), .val (.long (q1 &&& (9223372036854775807 : Int64))), .second, .val (.ref b5), .val (.long x1), .second, .val (.int (1 : Int32)), .val (.int (1 : Int32)), .val (.long x1), .second, .unset, .unset, .unset, .unset, .unset, .unset, .unset, .unset] [])) _
    refine XS.aload X9.here hx rfl (hb hby at_86) rfl rfl ?_
    show Steps p.tables e below (T9.setTop (mkF m 88 #[.val (.long q1), .second, .val (.long q2), .second, .val (.long q3), .second, .val (.int p4), .val (.long (q1 &&& (9223372036854775807 : Int64))), .second, .val (.ref b5), .val (.long x1), .second, .val (.int (1 : Int32)), .val (.int (1 : Int32)), .val (.long x1), .second, .unset, .unset, .unset, .unset, .unset, .unset, .unset, .unset] [(.ref b5)])) _
    refine st10.trans ?_
    show Steps p.tables e below (T10.setTop (mkF m 91 #[.val (.long q1), .second, .val (.long q2), .second, .val (.long q3), .second, .val (.int p4), .val (.long (q1 &&& (9223372036854775807 : Int64))), .second, .val (.ref b5), .val (.long x1), .second, .val (.int (1 : Int32)), .val (.int (1 : Int32)), .val (.long x1), .second, .unset, .unset, .unset, .unset, .unset, .unset, .unset, .unset] [(.int (0 : Int32))])) _
    refine XS.iload X10.here hx rfl (hb hby at_91) rfl ?_
    show Steps p.tables e below (T10.setTop (mkF m 93 #[.val (.long q1), .second, .val (.long q2), .second, .val (.long q3), .second, .val (.int p4), .val (.long (q1 &&& (9223372036854775807 : Int64))), .second, .val (.ref b5), .val (.long x1), .second, .val (.int (1 : Int32)), .val (.int (1 : Int32)), .val (.long x1), .second, .unset, .unset, .unset, .unset, .unset, .unset, .unset, .unset] [(.int (1 : Int32)), (.int (0 : Int32))])) _
    refine XS.ifYes X10.here hx rfl (pc0 := 93) (pc' := 100) rfl (hb hby at_93) rfl ((if0 _ _).trans (feq hc93).2) (by decide) (by decide) ?_
    show Steps p.tables e below (T10.setTop (mkF m 100 #[.val (.long q1), .second, .val (.long q2), .second, .val (.long q3), .second, .val (.int p4), .val (.long (q1 &&& (9223372036854775807 : Int64))), .second, .val (.ref b5), .val (.long x1), .second, .val (.int (1 : Int32)), .val (.int (1 : Int32)), .val (.long x1), .second, .unset, .unset, .unset, .unset, .unset, .unset, .unset, .unset] [(.int (0 : Int32))])) _
    refine XS.iconst X10.here hx rfl (hb hby at_100) ?_
    show Steps p.tables e below (T10.setTop (mkF m 101 #[.val (.long q1), .second, .val (.long q2), .second, .val (.long q3), .second, .val (.int p4), .val (.long (q1 &&& (9223372036854775807 : Int64))), .second, .val (.ref b5), .val (.long x1), .second, .val (.int (1 : Int32)), .val (.int (1 : Int32)), .val (.long x1), .second, .unset, .unset, .unset, .unset, .unset, .unset, .unset, .unset] [(.int (0 : Int32)), (.int (0 : Int32))])) _
    refine XS.icmpYes X10.here hx rfl (pc0 := 101) (pc' := 106) rfl (hb hby at_101) rfl (teq (rfl : (0 : Int32) = (0 : Int32))).1 (by decide) (by decide) ?_
    show Steps p.tables e below (T10.setTop (mkF m 106 #[.val (.long q1), .second, .val (.long q2), .second, .val (.long q3), .second, .val (.int p4), .val (.long (q1 &&& (9223372036854775807 : Int64))), .second, .val (.ref b5), .val (.long x1), .second, .val (.int (1 : Int32)), .val (.int (1 : Int32)), .val (.long x1), .second, .unset, .unset, .unset, .unset, .unset, .unset, .unset, .unset] [])) _
    refine XS.lload X10.here hx rfl (hb hby at_106) rfl ?_
    show Steps p.tables e below (T10.setTop (mkF m 108 #[.val (.long q1), .second, .val (.long q2), .second, .val (.long q3), .second, .val (.int p4), .val (.long (q1 &&& (9223372036854775807 : Int64))), .second, .val (.ref b5), .val (.long x1), .second, .val (.int (1 : Int32)), .val (.int (1 : Int32)), .val (.long x1), .second, .unset, .unset, .unset, .unset, .unset, .unset, .unset, .unset] [(.long (q1 &&& (9223372036854775807 : Int64)))])) _
    refine XS.lload X10.here hx rfl (hb hby at_108) rfl ?_
    show Steps p.tables e below (T10.setTop (mkF m 110 #[.val (.long q1), .second, .val (.long q2), .second, .val (.long q3), .second, .val (.int p4), .val (.long (q1 &&& (9223372036854775807 : Int64))), .second, .val (.ref b5), .val (.long x1), .second, .val (.int (1 : Int32)), .val (.int (1 : Int32)), .val (.long x1), .second, .unset, .unset, .unset, .unset, .unset, .unset, .unset, .unset] [(.long x1), (.long (q1 &&& (9223372036854775807 : Int64)))])) _
    refine XS.lsub X10.here hx rfl (hb hby at_110) rfl ?_
    show Steps p.tables e below (T10.setTop (mkF m 111 #[.val (.long q1), .second, .val (.long q2), .second, .val (.long q3), .second, .val (.int p4), .val (.long (q1 &&& (9223372036854775807 : Int64))), .second, .val (.ref b5), .val (.long x1), .second, .val (.int (1 : Int32)), .val (.int (1 : Int32)), .val (.long x1), .second, .unset, .unset, .unset, .unset, .unset, .unset, .unset, .unset] [(.long ((q1 &&& (9223372036854775807 : Int64)) - x1))])) _
    refine XS.lstore X10.here hx rfl (hb hby at_111) rfl (l' := #[.val (.long q1), .second, .val (.long q2), .second, .val (.long q3), .second, .val (.int p4), .val (.long (q1 &&& (9223372036854775807 : Int64))), .second, .val (.ref b5), .val (.long x1), .second, .val (.int (1 : Int32)), .val (.int (1 : Int32)), .val (.long x1), .second, .val (.long ((q1 &&& (9223372036854775807 : Int64)) - x1)), .second, .unset, .unset, .unset, .unset, .unset, .unset]) rfl ?_
    show Steps p.tables e below (T10.setTop (mkF m 113 #[.val (.long q1), .second, .val (.long q2), .second, .val (.long q3), .second, .val (.int p4), .val (.long (q1 &&& (9223372036854775807 : Int64))), .second, .val (.ref b5), .val (.long x1), .second, .val (.int (1 : Int32)), .val (.int (1 : Int32)), .val (.long x1), .second, .val (.long ((q1 &&& (9223372036854775807 : Int64)) - x1)), .second, .unset, .unset, .unset, .unset, .unset, .unset] [])) _
    refine XS.lload X10.here hx rfl (hb hby at_113) rfl ?_
    show Steps p.tables e below (T10.setTop (mkF m 115 #[.val (.long q1), .second, .val (.long q2), .second, .val (.long q3), .second, .val (.int p4), .val (.long (q1 &&& (9223372036854775807 : Int64))), .second, .val (.ref b5), .val (.long x1), .second, .val (.int (1 : Int32)), .val (.int (1 : Int32)), .val (.long x1), .second, .val (.long ((q1 &&& (9223372036854775807 : Int64)) - x1)), .second, .unset, .unset, .unset, .unset, .unset, .unset] [(.long q3)])) _
    refine XS.lload X10.here hx rfl (hb hby at_115) rfl ?_
    show Steps p.tables e below (T10.setTop (mkF m 117 #[.val (.long q1), .second, .val (.long q2), .second, .val (.long q3), .second, .val (.int p4), .val (.long (q1 &&& (9223372036854775807 : Int64))), .second, .val (.ref b5), .val (.long x1), .second, .val (.int (1 : Int32)), .val (.int (1 : Int32)), .val (.long x1), .second, .val (.long ((q1 &&& (9223372036854775807 : Int64)) - x1)), .second, .unset, .unset, .unset, .unset, .unset, .unset] [(.long ((q1 &&& (9223372036854775807 : Int64)) - x1)), (.long q3)])) _
    refine XS.iload X10.here hx rfl (hb hby at_117) rfl ?_
    show Steps p.tables e below (T10.setTop (mkF m 119 #[.val (.long q1), .second, .val (.long q2), .second, .val (.long q3), .second, .val (.int p4), .val (.long (q1 &&& (9223372036854775807 : Int64))), .second, .val (.ref b5), .val (.long x1), .second, .val (.int (1 : Int32)), .val (.int (1 : Int32)), .val (.long x1), .second, .val (.long ((q1 &&& (9223372036854775807 : Int64)) - x1)), .second, .unset, .unset, .unset, .unset, .unset, .unset] [(.int p4), (.long ((q1 &&& (9223372036854775807 : Int64)) - x1)), (.long q3)])) _
    refine XS.iconst X10.here hx rfl (hb hby at_119) ?_
    show Steps p.tables e below (T10.setTop (mkF m 120 #[.val (.long q1), .second, .val (.long q2), .second, .val (.long q3), .second, .val (.int p4), .val (.long (q1 &&& (9223372036854775807 : Int64))), .second, .val (.ref b5), .val (.long x1), .second, .val (.int (1 : Int32)), .val (.int (1 : Int32)), .val (.long x1), .second, .val (.long ((q1 &&& (9223372036854775807 : Int64)) - x1)), .second, .unset, .unset, .unset, .unset, .unset, .unset] [(.int (3 : Int32)), (.int p4), (.long ((q1 &&& (9223372036854775807 : Int64)) - x1)), (.long q3)])) _
    refine XS.iushr X10.here hx rfl (hb hby at_120) rfl ?_
    show Steps p.tables e below (T10.setTop (mkF m 121 #[.val (.long q1), .second, .val (.long q2), .second, .val (.long q3), .second, .val (.int p4), .val (.long (q1 &&& (9223372036854775807 : Int64))), .second, .val (.ref b5), .val (.long x1), .second, .val (.int (1 : Int32)), .val (.int (1 : Int32)), .val (.long x1), .second, .val (.long ((q1 &&& (9223372036854775807 : Int64)) - x1)), .second, .unset, .unset, .unset, .unset, .unset, .unset] [(.int ((p4.toUInt32 >>> ((3 : Int32) &&& 31).toUInt32).toInt32)), (.long ((q1 &&& (9223372036854775807 : Int64)) - x1)), (.long q3)])) _
    refine XS.bipush X10.here hx rfl (hb hby at_121) ?_
    show Steps p.tables e below (T10.setTop (mkF m 123 #[.val (.long q1), .second, .val (.long q2), .second, .val (.long q3), .second, .val (.int p4), .val (.long (q1 &&& (9223372036854775807 : Int64))), .second, .val (.ref b5), .val (.long x1), .second, .val (.int (1 : Int32)), .val (.int (1 : Int32)), .val (.long x1), .second, .val (.long ((q1 &&& (9223372036854775807 : Int64)) - x1)), .second, .unset, .unset, .unset, .unset, .unset, .unset] [(.int (7 : Int32)), (.int ((p4.toUInt32 >>> ((3 : Int32) &&& 31).toUInt32).toInt32)), (.long ((q1 &&& (9223372036854775807 : Int64)) - x1)), (.long q3)])) _
    refine XS.iand X10.here hx rfl (hb hby at_123) rfl ?_
    show Steps p.tables e below (T10.setTop (mkF m 124 #[.val (.long q1), .second, .val (.long q2), .second, .val (.long q3), .second, .val (.int p4), .val (.long (q1 &&& (9223372036854775807 : Int64))), .second, .val (.ref b5), .val (.long x1), .second, .val (.int (1 : Int32)), .val (.int (1 : Int32)), .val (.long x1), .second, .val (.long ((q1 &&& (9223372036854775807 : Int64)) - x1)), .second, .unset, .unset, .unset, .unset, .unset, .unset] [(.int (((p4.toUInt32 >>> ((3 : Int32) &&& 31).toUInt32).toInt32) &&& (7 : Int32))), (.long ((q1 &&& (9223372036854775807 : Int64)) - x1)), (.long q3)])) _
    refine st11 _ ?_
    show Steps p.tables e below (T11.setTop (mkF m 127 #[.val (.long q1), .second, .val (.long q2), .second, .val (.long q3), .second, .val (.int p4), .val (.long (q1 &&& (9223372036854775807 : Int64))), .second, .val (.ref b5), .val (.long x1), .second, .val (.int (1 : Int32)), .val (.int (1 : Int32)), .val (.long x1), .second, .val (.long ((q1 &&& (9223372036854775807 : Int64)) - x1)), .second, .unset, .unset, .unset, .unset, .unset, .unset] [(.long x2)])) _
    refine XS.lstore X11.here hx rfl (hb hby at_127) rfl (l' := #[.val (.long q1), .second, .val (.long q2), .second, .val (.long q3), .second, .val (.int p4), .val (.long (q1 &&& (9223372036854775807 : Int64))), .second, .val (.ref b5), .val (.long x1), .second, .val (.int (1 : Int32)), .val (.int (1 : Int32)), .val (.long x1), .second, .val (.long ((q1 &&& (9223372036854775807 : Int64)) - x1)), .second, .val (.long x2), .second, .unset, .unset, .unset, .unset]) rfl ?_
    show Steps p.tables e below (T11.setTop (mkF m 129 #[.val (.long q1), .second, .val (.long q2), .second, .val (.long q3), .second, .val (.int p4), .val (.long (q1 &&& (9223372036854775807 : Int64))), .second, .val (.ref b5), .val (.long x1), .second, .val (.int (1 : Int32)), .val (.int (1 : Int32)), .val (.long x1), .second, .val (.long ((q1 &&& (9223372036854775807 : Int64)) - x1)), .second, .val (.long x2), .second, .unset, .unset, .unset, .unset] [])) _
    refine XS.aload X11.here hx rfl (hb hby at_129) rfl rfl ?_
    show Steps p.tables e below (T11.setTop (mkF m 131 #[.val (.long q1), .second, .val (.long q2), .second, .val (.long q3), .second, .val (.int p4), .val (.long (q1 &&& (9223372036854775807 : Int64))), .second, .val (.ref b5), .val (.long x1), .second, .val (.int (1 : Int32)), .val (.int (1 : Int32)), .val (.long x1), .second, .val (.long ((q1 &&& (9223372036854775807 : Int64)) - x1)), .second, .val (.long x2), .second, .unset, .unset, .unset, .unset] [(.ref b5)])) _
    refine XS.lload X11.here hx rfl (hb hby at_131) rfl ?_
    show Steps p.tables e below (T11.setTop (mkF m 133 #[.val (.long q1), .second, .val (.long q2), .second, .val (.long q3), .second, .val (.int p4), .val (.long (q1 &&& (9223372036854775807 : Int64))), .second, .val (.ref b5), .val (.long x1), .second, .val (.int (1 : Int32)), .val (.int (1 : Int32)), .val (.long x1), .second, .val (.long ((q1 &&& (9223372036854775807 : Int64)) - x1)), .second, .val (.long x2), .second, .unset, .unset, .unset, .unset] [(.long x2), (.ref b5)])) _
    refine st12.trans ?_
    show Steps p.tables e below (T12.setTop (mkF m 136 #[.val (.long q1), .second, .val (.long q2), .second, .val (.long q3), .second, .val (.int p4), .val (.long (q1 &&& (9223372036854775807 : Int64))), .second, .val (.ref b5), .val (.long x1), .second, .val (.int (1 : Int32)), .val (.int (1 : Int32)), .val (.long x1), .second, .val (.long ((q1 &&& (9223372036854775807 : Int64)) - x1)), .second, .val (.long x2), .second, .unset, .unset, .unset, .unset] [(.int (0 : Int32))])) _
    refine XS.istore X12.here hx rfl (hb hby at_136) rfl (l' := #[.val (.long q1), .second, .val (.long q2), .second, .val (.long q3), .second, .val (.int p4), .val (.long (q1 &&& (9223372036854775807 : Int64))), .second, .val (.ref b5), .val (.long x1), .second, .val (.int (1 : Int32)), .val (.int (1 : Int32)), .val (.long x1), .second, .val (.long ((q1 &&& (9223372036854775807 : Int64)) - x1)), .second, .val (.long x2), .second, .val (.int (0 : Int32)), .unset, .unset, .unset]) rfl ?_
    show Steps p.tables e below (T12.setTop (mkF m 138 #[.val (.long q1), .second, .val (.long q2), .second, .val (.long q3), .second, .val (.int p4), .val (.long (q1 &&& (9223372036854775807 : Int64))), .second, .val (.ref b5), .val (.long x1), .second, .val (.int (1 : Int32)), .val (.int (1 : Int32)), .val (.long x1), .second, .val (.long ((q1 &&& (9223372036854775807 : Int64)) - x1)), .second, .val (.long x2), .second, .val (.int (0 : Int32)), .unset, .unset, .unset] [])) _
    refine XS.lload X12.here hx rfl (hb hby at_138) rfl ?_
    show Steps p.tables e below (T12.setTop (mkF m 140 #[.val (.long q1), .second, .val (.long q2), .second, .val (.long q3), .second, .val (.int p4), .val (.long (q1 &&& (9223372036854775807 : Int64))), .second, .val (.ref b5), .val (.long x1), .second, .val (.int (1 : Int32)), .val (.int (1 : Int32)), .val (.long x1), .second, .val (.long ((q1 &&& (9223372036854775807 : Int64)) - x1)), .second, .val (.long x2), .second, .val (.int (0 : Int32)), .unset, .unset, .unset] [(.long x2)])) _
    refine XS.lload X12.here hx rfl (hb hby at_140) rfl ?_
    show Steps p.tables e below (T12.setTop (mkF m 142 #[.val (.long q1), .second, .val (.long q2), .second, .val (.long q3), .second, .val (.int p4), .val (.long (q1 &&& (9223372036854775807 : Int64))), .second, .val (.ref b5), .val (.long x1), .second, .val (.int (1 : Int32)), .val (.int (1 : Int32)), .val (.long x1), .second, .val (.long ((q1 &&& (9223372036854775807 : Int64)) - x1)), .second, .val (.long x2), .second, .val (.int (0 : Int32)), .unset, .unset, .unset] [(.long ((q1 &&& (9223372036854775807 : Int64)) - x1)), (.long x2)])) _
    refine XS.lcmp X12.here hx rfl (hb hby at_142) rfl ?_
    show Steps p.tables e below (T12.setTop (mkF m 143 #[.val (.long q1), .second, .val (.long q2), .second, .val (.long q3), .second, .val (.int p4), .val (.long (q1 &&& (9223372036854775807 : Int64))), .second, .val (.ref b5), .val (.long x1), .second, .val (.int (1 : Int32)), .val (.int (1 : Int32)), .val (.long x1), .second, .val (.long ((q1 &&& (9223372036854775807 : Int64)) - x1)), .second, .val (.long x2), .second, .val (.int (0 : Int32)), .unset, .unset, .unset] [(.int (lcmpW x2 ((q1 &&& (9223372036854775807 : Int64)) - x1)))])) _
    refine XS.ifYes X12.here hx rfl (pc0 := 143) (pc' := 150) rfl (hb hby at_143) rfl ((if0 _ _).trans (tlt (h2 : (0 : Int32) < (lcmpW x2 ((q1 &&& (9223372036854775807 : Int64)) - x1)))).2.2.1) (by decide) (by decide) ?_
    show Steps p.tables e below (T12.setTop (mkF m 150 #[.val (.long q1), .second, .val (.long q2), .second, .val (.long q3), .second, .val (.int p4), .val (.long (q1 &&& (9223372036854775807 : Int64))), .second, .val (.ref b5), .val (.long x1), .second, .val (.int (1 : Int32)), .val (.int (1 : Int32)), .val (.long x1), .second, .val (.long ((q1 &&& (9223372036854775807 : Int64)) - x1)), .second, .val (.long x2), .second, .val (.int (0 : Int32)), .unset, .unset, .unset] [])) _
    refine XS.iconst X12.here hx rfl (hb hby at_150) ?_
    show Steps p.tables e below (T12.setTop (mkF m 151 #[.val (.long q1), .second, .val (.long q2), .second, .val (.long q3), .second, .val (.int p4), .val (.long (q1 &&& (9223372036854775807 : Int64))), .second, .val (.ref b5), .val (.long x1), .second, .val (.int (1 : Int32)), .val (.int (1 : Int32)), .val (.long x1), .second, .val (.long ((q1 &&& (9223372036854775807 : Int64)) - x1)), .second, .val (.long x2), .second, .val (.int (0 : Int32)), .unset, .unset, .unset] [(.int (0 : Int32))])) _
    refine XS.istore X12.here hx rfl (hb hby at_151) rfl (l' := #[.val (.long q1), .second, .val (.long q2), .second, .val (.long q3), .second, .val (.int p4), .val (.long (q1 &&& (9223372036854775807 : Int64))), .second, .val (.ref b5), .val (.long x1), .second, .val (.int (1 : Int32)), .val (.int (1 : Int32)), .val (.long x1), .second, .val (.long ((q1 &&& (9223372036854775807 : Int64)) - x1)), .second, .val (.long x2), .second, .val (.int (0 : Int32)), .val (.int (0 : Int32)), .unset, .unset]) rfl ?_
    show Steps p.tables e below (T12.setTop (mkF m 153 #[.val (.long q1), .second, .val (.long q2), .second, .val (.long q3), .second, .val (.int p4), .val (.long (q1 &&& (9223372036854775807 : Int64))), .second, .val (.ref b5), .val (.long x1), .second, .val (.int (1 : Int32)), .val (.int (1 : Int32)), .val (.long x1), .second, .val (.long ((q1 &&& (9223372036854775807 : Int64)) - x1)), .second, .val (.long x2), .second, .val (.int (0 : Int32)), .val (.int (0 : Int32)), .unset, .unset] [])) _
    refine XS.iload X12.here hx rfl (hb hby at_153) rfl ?_
    show Steps p.tables e below (T12.setTop (mkF m 155 #[.val (.long q1), .second, .val (.long q2), .second, .val (.long q3), .second, .val (.int p4), .val (.long (q1 &&& (9223372036854775807 : Int64))), .second, .val (.ref b5), .val (.long x1), .second, .val (.int (1 : Int32)), .val (.int (1 : Int32)), .val (.long x1), .second, .val (.long ((q1 &&& (9223372036854775807 : Int64)) - x1)), .second, .val (.long x2), .second, .val (.int (0 : Int32)), .val (.int (0 : Int32)), .unset, .unset] [(.int (0 : Int32))])) _
    refine XS.ifYes X12.here hx rfl (pc0 := 155) (pc' := 166) rfl (hb hby at_155) rfl ((if0 _ _).trans (teq (rfl : (0 : Int32) = (0 : Int32))).1) (by decide) (by decide) ?_
    show Steps p.tables e below (T12.setTop (mkF m 166 #[.val (.long q1), .second, .val (.long q2), .second, .val (.long q3), .second, .val (.int p4), .val (.long (q1 &&& (9223372036854775807 : Int64))), .second, .val (.ref b5), .val (.long x1), .second, .val (.int (1 : Int32)), .val (.int (1 : Int32)), .val (.long x1), .second, .val (.long ((q1 &&& (9223372036854775807 : Int64)) - x1)), .second, .val (.long x2), .second, .val (.int (0 : Int32)), .val (.int (0 : Int32)), .unset, .unset] [])) _
    refine XS.lload X12.here hx rfl (hb hby at_166) rfl ?_
    show Steps p.tables e below (T12.setTop (mkF m 168 #[.val (.long q1), .second, .val (.long q2), .second, .val (.long q3), .second, .val (.int p4), .val (.long (q1 &&& (9223372036854775807 : Int64))), .second, .val (.ref b5), .val (.long x1), .second, .val (.int (1 : Int32)), .val (.int (1 : Int32)), .val (.long x1), .second, .val (.long ((q1 &&& (9223372036854775807 : Int64)) - x1)), .second, .val (.long x2), .second, .val (.int (0 : Int32)), .val (.int (0 : Int32)), .unset, .unset] [(.long x1)])) _
    refine XS.lstore X12.here hx rfl (hb hby at_168) rfl (l' := #[.val (.long q1), .second, .val (.long q2), .second, .val (.long q3), .second, .val (.int p4), .val (.long (q1 &&& (9223372036854775807 : Int64))), .second, .val (.ref b5), .val (.long x1), .second, .val (.int (1 : Int32)), .val (.int (1 : Int32)), .val (.long x1), .second, .val (.long ((q1 &&& (9223372036854775807 : Int64)) - x1)), .second, .val (.long x2), .second, .val (.int (0 : Int32)), .val (.int (0 : Int32)), .val (.long x1), .second]) rfl ?_
    show Steps p.tables e below (T12.setTop (mkF m 170 #[.val (.long q1), .second, .val (.long q2), .second, .val (.long q3), .second, .val (.int p4), .val (.long (q1 &&& (9223372036854775807 : Int64))), .second, .val (.ref b5), .val (.long x1), .second, .val (.int (1 : Int32)), .val (.int (1 : Int32)), .val (.long x1), .second, .val (.long ((q1 &&& (9223372036854775807 : Int64)) - x1)), .second, .val (.long x2), .second, .val (.int (0 : Int32)), .val (.int (0 : Int32)), .val (.long x1), .second] [])) _
    refine XS.iload X12.here hx rfl (hb hby at_170) rfl ?_
    show Steps p.tables e below (T12.setTop (mkF m 172 #[.val (.long q1), .second, .val (.long q2), .second, .val (.long q3), .second, .val (.int p4), .val (.long (q1 &&& (9223372036854775807 : Int64))), .second, .val (.ref b5), .val (.long x1), .second, .val (.int (1 : Int32)), .val (.int (1 : Int32)), .val (.long x1), .second, .val (.long ((q1 &&& (9223372036854775807 : Int64)) - x1)), .second, .val (.long x2), .second, .val (.int (0 : Int32)), .val (.int (0 : Int32)), .val (.long x1), .second] [(.int (0 : Int32))])) _
    refine XS.iload X12.here hx rfl (hb hby at_172) rfl ?_
    show Steps p.tables e below (T12.setTop (mkF m 174 #[.val (.long q1), .second, .val (.long q2), .second, .val (.long q3), .second, .val (.int p4), .val (.long (q1 &&& (9223372036854775807 : Int64))), .second, .val (.ref b5), .val (.long x1), .second, .val (.int (1 : Int32)), .val (.int (1 : Int32)), .val (.long x1), .second, .val (.long ((q1 &&& (9223372036854775807 : Int64)) - x1)), .second, .val (.long x2), .second, .val (.int (0 : Int32)), .val (.int (0 : Int32)), .val (.long x1), .second] [(.int (0 : Int32)), (.int (0 : Int32))])) _
    refine XS.icmpNo X12.here hx rfl (hb hby at_174) rfl (teq (rfl : (0 : Int32) = (0 : Int32))).2 ?_
    show Steps p.tables e below (T12.setTop (mkF m 177 #[.val (.long q1), .second, .val (.long q2), .second, .val (.long q3), .second, .val (.int p4), .val (.long (q1 &&& (9223372036854775807 : Int64))), .second, .val (.ref b5), .val (.long x1), .second, .val (.int (1 : Int32)), .val (.int (1 : Int32)), .val (.long x1), .second, .val (.long ((q1 &&& (9223372036854775807 : Int64)) - x1)), .second, .val (.long x2), .second, .val (.int (0 : Int32)), .val (.int (0 : Int32)), .val (.long x1), .second] [])) _
    refine XS.aload X12.here hx rfl (hb hby at_177) rfl rfl ?_
    show Steps p.tables e below (T12.setTop (mkF m 179 #[.val (.long q1), .second, .val (.long q2), .second, .val (.long q3), .second, .val (.int p4), .val (.long (q1 &&& (9223372036854775807 : Int64))), .second, .val (.ref b5), .val (.long x1), .second, .val (.int (1 : Int32)), .val (.int (1 : Int32)), .val (.long x1), .second, .val (.long ((q1 &&& (9223372036854775807 : Int64)) - x1)), .second, .val (.long x2), .second, .val (.int (0 : Int32)), .val (.int (0 : Int32)), .val (.long x1), .second] [(.ref b5)])) _
    refine st13.trans ?_
    show Steps p.tables e below (T13.setTop (mkF m 182 #[.val (.long q1), .second, .val (.long q2), .second, .val (.long q3), .second, .val (.int p4), .val (.long (q1 &&& (9223372036854775807 : Int64))), .second, .val (.ref b5), .val (.long x1), .second, .val (.int (1 : Int32)), .val (.int (1 : Int32)), .val (.long x1), .second, .val (.long ((q1 &&& (9223372036854775807 : Int64)) - x1)), .second, .val (.long x2), .second, .val (.int (0 : Int32)), .val (.int (0 : Int32)), .val (.long x1), .second] [(.long x1)])) _
    refine XS.lload X13.here hx rfl (hb hby at_182) rfl ?_
    show Steps p.tables e below (T13.setTop (mkF m 184 #[.val (.long q1), .second, .val (.long q2), .second, .val (.long q3), .second, .val (.int p4), .val (.long (q1 &&& (9223372036854775807 : Int64))), .second, .val (.ref b5), .val (.long x1), .second, .val (.int (1 : Int32)), .val (.int (1 : Int32)), .val (.long x1), .second, .val (.long ((q1 &&& (9223372036854775807 : Int64)) - x1)), .second, .val (.long x2), .second, .val (.int (0 : Int32)), .val (.int (0 : Int32)), .val (.long x1), .second] [(.long x1), (.long x1)])) _
    refine XS.lcmp X13.here hx rfl (hb hby at_184) rfl ?_
    show Steps p.tables e below (T13.setTop (mkF m 185 #[.val (.long q1), .second, .val (.long q2), .second, .val (.long q3), .second, .val (.int p4), .val (.long (q1 &&& (9223372036854775807 : Int64))), .second, .val (.ref b5), .val (.long x1), .second, .val (.int (1 : Int32)), .val (.int (1 : Int32)), .val (.long x1), .second, .val (.long ((q1 &&& (9223372036854775807 : Int64)) - x1)), .second, .val (.long x2), .second, .val (.int (0 : Int32)), .val (.int (0 : Int32)), .val (.long x1), .second] [(.int (lcmpW x1 x1))])) _
    refine XS.ifNo X13.here hx rfl (hb hby at_185) rfl ((if0 _ _).trans (teq ((lw_eq _ _).mpr rfl : (lcmpW x1 x1) = (0 : Int32))).2) ?_
    show Steps p.tables e below (T13.setTop (mkF m 188 #[.val (.long q1), .second, .val (.long q2), .second, .val (.long q3), .second, .val (.int p4), .val (.long (q1 &&& (9223372036854775807 : Int64))), .second, .val (.ref b5), .val (.long x1), .second, .val (.int (1 : Int32)), .val (.int (1 : Int32)), .val (.long x1), .second, .val (.long ((q1 &&& (9223372036854775807 : Int64)) - x1)), .second, .val (.long x2), .second, .val (.int (0 : Int32)), .val (.int (0 : Int32)), .val (.long x1), .second] [])) _
    refine XS.aload X13.here hx rfl (hb hby at_188) rfl rfl ?_
    show Steps p.tables e below (T13.setTop (mkF m 190 #[.val (.long q1), .second, .val (.long q2), .second, .val (.long q3), .second, .val (.int p4), .val (.long (q1 &&& (9223372036854775807 : Int64))), .second, .val (.ref b5), .val (.long x1), .second, .val (.int (1 : Int32)), .val (.int (1 : Int32)), .val (.long x1), .second, .val (.long ((q1 &&& (9223372036854775807 : Int64)) - x1)), .second, .val (.long x2), .second, .val (.int (0 : Int32)), .val (.int (0 : Int32)), .val (.long x1), .second] [(.ref b5)])) _
    refine st14.trans ?_
    show Steps p.tables e below (T14.setTop (mkF m 193 #[.val (.long q1), .second, .val (.long q2), .second, .val (.long q3), .second, .val (.int p4), .val (.long (q1 &&& (9223372036854775807 : Int64))), .second, .val (.ref b5), .val (.long x1), .second, .val (.int (1 : Int32)), .val (.int (1 : Int32)), .val (.long x1), .second, .val (.long ((q1 &&& (9223372036854775807 : Int64)) - x1)), .second, .val (.long x2), .second, .val (.int (0 : Int32)), .val (.int (0 : Int32)), .val (.long x1), .second] [(.int (1 : Int32))])) _
    refine XS.iload X14.here hx rfl (hb hby at_193) rfl ?_
    show Steps p.tables e below (T14.setTop (mkF m 195 #[.val (.long q1), .second, .val (.long q2), .second, .val (.long q3), .second, .val (.int p4), .val (.long (q1 &&& (9223372036854775807 : Int64))), .second, .val (.ref b5), .val (.long x1), .second, .val (.int (1 : Int32)), .val (.int (1 : Int32)), .val (.long x1), .second, .val (.long ((q1 &&& (9223372036854775807 : Int64)) - x1)), .second, .val (.long x2), .second, .val (.int (0 : Int32)), .val (.int (0 : Int32)), .val (.long x1), .second] [(.int (1 : Int32)), (.int (1 : Int32))])) _
    refine XS.ifNo X14.here hx rfl (hb hby at_195) rfl ((if0 _ _).trans (feq hc195).1) ?_
    show Steps p.tables e below (T14.setTop (mkF m 198 #[.val (.long q1), .second, .val (.long q2), .second, .val (.long q3), .second, .val (.int p4), .val (.long (q1 &&& (9223372036854775807 : Int64))), .second, .val (.ref b5), .val (.long x1), .second, .val (.int (1 : Int32)), .val (.int (1 : Int32)), .val (.long x1), .second, .val (.long ((q1 &&& (9223372036854775807 : Int64)) - x1)), .second, .val (.long x2), .second, .val (.int (0 : Int32)), .val (.int (0 : Int32)), .val (.long x1), .second] [(.int (1 : Int32))])) _
    refine XS.iload X14.here hx rfl (hb hby at_198) rfl ?_
    show Steps p.tables e below (T14.setTop (mkF m 200 #[.val (.long q1), .second, .val (.long q2), .second, .val (.long q3), .second, .val (.int p4), .val (.long (q1 &&& (9223372036854775807 : Int64))), .second, .val (.ref b5), .val (.long x1), .second, .val (.int (1 : Int32)), .val (.int (1 : Int32)), .val (.long x1), .second, .val (.long ((q1 &&& (9223372036854775807 : Int64)) - x1)), .second, .val (.long x2), .second, .val (.int (0 : Int32)), .val (.int (0 : Int32)), .val (.long x1), .second] [(.int (0 : Int32)), (.int (1 : Int32))])) _
    refine XS.ifNo X14.here hx rfl (hb hby at_200) rfl ((if0 _ _).trans (teq (rfl : (0 : Int32) = (0 : Int32))).2) ?_
    show Steps p.tables e below (T14.setTop (mkF m 203 #[.val (.long q1), .second, .val (.long q2), .second, .val (.long q3), .second, .val (.int p4), .val (.long (q1 &&& (9223372036854775807 : Int64))), .second, .val (.ref b5), .val (.long x1), .second, .val (.int (1 : Int32)), .val (.int (1 : Int32)), .val (.long x1), .second, .val (.long ((q1 &&& (9223372036854775807 : Int64)) - x1)), .second, .val (.long x2), .second, .val (.int (0 : Int32)), .val (.int (0 : Int32)), .val (.long x1), .second] [(.int (1 : Int32))])) _
    refine XS.iconst X14.here hx rfl (hb hby at_203) ?_
    show Steps p.tables e below (T14.setTop (mkF m 204 #[.val (.long q1), .second, .val (.long q2), .second, .val (.long q3), .second, .val (.int p4), .val (.long (q1 &&& (9223372036854775807 : Int64))), .second, .val (.ref b5), .val (.long x1), .second, .val (.int (1 : Int32)), .val (.int (1 : Int32)), .val (.long x1), .second, .val (.long ((q1 &&& (9223372036854775807 : Int64)) - x1)), .second, .val (.long x2), .second, .val (.int (0 : Int32)), .val (.int (0 : Int32)), .val (.long x1), .second] [(.int (1 : Int32)), (.int (1 : Int32))])) _
    refine XS.goto X14.here hx rfl (pc0 := 204) (pc' := 208) rfl (hb hby at_204) (by decide) (by decide) ?_
    show Steps p.tables e below (T14.setTop (mkF m 208 #[.val (.long q1), .second, .val (.long q2), .second, .val (.long q3), .second, .val (.int p4), .val (.long (q1 &&& (9223372036854775807 : Int64))), .second, .val (.ref b5), .val (.long x1), .second, .val (.int (1 : Int32)), .val (.int (1 : Int32)), .val (.long x1), .second, .val (.long ((q1 &&& (9223372036854775807 : Int64)) - x1)), .second, .val (.long x2), .second, .val (.int (0 : Int32)), .val (.int (0 : Int32)), .val (.long x1), .second] [(.int (1 : Int32)), (.int (1 : Int32))])) _
    refine XS.icmpNo X14.here hx rfl (hb hby at_208) rfl (teq (rfl : (1 : Int32) = (1 : Int32))).2 ?_
    show Steps p.tables e below (T14.setTop (mkF m 211 #[.val (.long q1), .second, .val (.long q2), .second, .val (.long q3), .second, .val (.int p4), .val (.long (q1 &&& (9223372036854775807 : Int64))), .second, .val (.ref b5), .val (.long x1), .second, .val (.int (1 : Int32)), .val (.int (1 : Int32)), .val (.long x1), .second, .val (.long ((q1 &&& (9223372036854775807 : Int64)) - x1)), .second, .val (.long x2), .second, .val (.int (0 : Int32)), .val (.int (0 : Int32)), .val (.long x1), .second] [])) _
    refine XS.iconst X14.here hx rfl (hb hby at_211) ?_
    show Steps p.tables e below (T14.setTop (mkF m 212 #[.val (.long q1), .second, .val (.long q2), .second, .val (.long q3), .second, .val (.int p4), .val (.long (q1 &&& (9223372036854775807 : Int64))), .second, .val (.ref b5), .val (.long x1), .second, .val (.int (1 : Int32)), .val (.int (1 : Int32)), .val (.long x1), .second, .val (.long ((q1 &&& (9223372036854775807 : Int64)) - x1)), .second, .val (.long x2), .second, .val (.int (0 : Int32)), .val (.int (0 : Int32)), .val (.long x1), .second] [(.int (1 : Int32))])) _
    refine XS.goto X14.here hx rfl (pc0 := 212) (pc' := 216) rfl (hb hby at_212) (by decide) (by decide) ?_
    show Steps p.tables e below (T14.setTop (mkF m 216 #[.val (.long q1), .second, .val (.long q2), .second, .val (.long q3), .second, .val (.int p4), .val (.long (q1 &&& (9223372036854775807 : Int64))), .second, .val (.ref b5), .val (.long x1), .second, .val (.int (1 : Int32)), .val (.int (1 : Int32)), .val (.long x1), .second, .val (.long ((q1 &&& (9223372036854775807 : Int64)) - x1)), .second, .val (.long x2), .second, .val (.int (0 : Int32)), .val (.int (0 : Int32)), .val (.long x1), .second] [(.int (1 : Int32))])) _
    exact retN X14 hx (t := .boolean) Bd.returns (by simp) (hb hby at_216) hr
  · show Q0 Z q1 q2 q3 p4 h0 n0 _ T14.heap _
    exact ⟨rfl, N14⟩
set_option maxRecDepth 65536 in
set_option maxHeartbeats 40000000 in
theorem rm0_ttffftfffftf (l : Launch) (Z : State) (a0 : Array Value) (hw : ∀ d ∈ tables_1, d.before a0 Z = true) (ws : List Jvm.Cond) (q1 : Int64) (q2 : Int64) (q3 : Int64) (p4 : Int32) (x1 x2 : Int64) (h0 : Heap) (n0 : Nat) (Z0 : n0 ≤ h0.size) (hx1 : F3 q2 (q1 &&& (9223372036854775807 : Int64)) (p4 &&& (7 : Int32)) = x1) (hx2 : F3 q3 ((q1 &&& (9223372036854775807 : Int64)) - (0 : Int64)) (((p4.toUInt32 >>> ((3 : Int32) &&& 31).toUInt32).toInt32) &&& (7 : Int32)) = x2) (h1 : (0 : Int32) < (lcmpW x1 (q1 &&& (9223372036854775807 : Int64)))) (h2 : ¬ ((0 : Int32) < (lcmpW x2 ((q1 &&& (9223372036854775807 : Int64)) - (0 : Int64))))) (hc155 : ¬ ((1 : Int32) = (0 : Int32))) :
    MetFree l x (head1 (Jvm.Cond.code x code maxLocals ret :: ws) room_1) (fun a U => a = #[(.long q1), (.long q2), (.long q3), (.int p4)] ∧ Z.Warmed39 U.vm ∧ U.heap = h0) (fun _ _ _ _ _ => True) (fun _ U o U' => ∃ v L, o = .returned v ∧ Q0 Z q1 q2 q3 p4 h0 n0 v U'.heap L ∧ FrameEnd U o U' L room_1.cells room_1.slots) := by
  refine MetFree.of_bodySF (plainFor_of_name pn_0) hisR ?_
  intro p e s m args below meth c s₁ Bd hml0 hP hK
  obtain ⟨rfl, hZ, hh⟩ := hP
  have hx := Bd.exec
  have hby := Bd.bytes
  have hml : c.maxLocals = 24 := hml0
  have hown : s.vm.findClass "com/example/exact_anchor/exactanchor/search/BudgetSpendPinLaw" = some m.cls := findClass_of_methodNamed Bd.named
  have hnm := (name_of_methodNamed Bd.named Bd.method).1
  have X0 : Stand p l e room_1 s m #[(.long q1), (.long q2), (.long q3), (.int p4)] below meth c s₁ [] 0 0 := Stand.of_body Bd
  have e0 : s₁.heap = h0 := by rw [← hh, Bd.state]; rfl
  have N0 := Fr.nil n0
  have pre0 : ∀ t, Steps p.tables e below (s₁.setTop (mkF m 0 #[.val (.long q1), .second, .val (.long q2), .second, .val (.long q3), .second, .val (.int p4), .unset, .unset, .unset, .unset, .unset, .unset, .unset, .unset, .unset, .unset, .unset, .unset, .unset, .unset, .unset, .unset, .unset] [])) t → Steps p.tables e below (s₁.setTop (entryFrame m #[(.long q1), (.long q2), (.long q3), (.int p4)] maxLocals)) t := fun t k => castTop (ef_0 m q1 q2 q3 p4) k
  -- 3. LAWS
  obtain ⟨T5, h5, X5, e5, E5, A5, D5, -, st5⟩ := newO X0 hx hZ hown (hw _ (List.mem_of_getElem? (i := 1) rfl)) (hw _ (List.mem_of_getElem? (i := 2) rfl)) (hw _ (List.mem_of_getElem? (i := 3) rfl)) e0 (g := (mkF m 7 #[.val (.long q1), .second, .val (.long q2), .second, .val (.long q3), .second, .val (.int p4), .val (.long (q1 &&& (9223372036854775807 : Int64))), .second, .unset, .unset, .unset, .unset, .unset, .unset, .unset, .unset, .unset, .unset, .unset, .unset, .unset, .unset, .unset] [])) rfl (hb hby at_7) (by decide) (by decide)
  obtain ⟨b5, g5⟩ : ∃ z, z = h0.size := ⟨_, rfl⟩      -- the fresh object's address
  rw [← g5] at A5 D5 st5      -- A5 : Exa Z h5 b5 "com/example/exact_anchor/exactanchor/search/Budget"; E5 : Ext h0 h5 (carries every older fact: .ext E5)
  have F_limit_b5 : Fld Z h5 b5 "com/example/exact_anchor/exactanchor/search/Budget" "limit" "J" (.long (0 : Int64)) := D5 (Or.inr (hw _ (List.mem_of_getElem? (i := 11) rfl))) (ty := .long) (by decide)
  have F_spent_b5 : Fld Z h5 b5 "com/example/exact_anchor/exactanchor/search/Budget" "spent" "J" (.long (0 : Int64)) := D5 (Or.inl (hw _ (List.mem_of_getElem? (i := 22) rfl))) (ty := .long) (by decide)
  have F_refused_b5 : Fld Z h5 b5 "com/example/exact_anchor/exactanchor/search/Budget" "refused" "Z" (.int (0 : Int32)) := D5 (Or.inl (hw _ (List.mem_of_getElem? (i := 34) rfl))) (ty := .boolean) (by decide)
  have E_b5 := A5
  have g_b5 : n0 ≤ b5 := Nat.le_trans Z0 (Nat.le_of_eq g5.symm)
  have sz_b5 : h0.size ≤ b5 := (Nat.le_trans (Keep.refl h0 []).1 (Nat.le_of_eq g5.symm))
  have K5 : Keep h0 h5 [] := (Keep.refl h0 []).ext E5
  have H5 : n0 ≤ h5.size := Nat.le_trans Z0 K5.1
  -- pc 13: the constructor of com/example/exact_anchor/exactanchor/search/Budget by its contract rm1
  obtain ⟨_, _, ⟨T6, L6, k6, n6⟩, -, X6, ⟨Lc6, hQ6, l6, y6, z6⟩, st6⟩ := X5.specialBack hx (y := (⟨"com/example/exact_anchor/exactanchor/search/Budget", "<init>", "(J)V"⟩ : MethodName)) rfl hown (mvT hZ (hw _ (List.mem_of_getElem? (i := 4) rfl))) (mvT hZ (hw _ (List.mem_of_getElem? (i := 5) rfl))) (mvT hZ (hw _ (List.mem_of_getElem? (i := 6) rfl))) (by decide) (backOf (W := 1) (rm1 l Z a0 hw [] b5 (q1 &&& (9223372036854775807 : Int64)) _ h5 n0 H5 E_b5 F_limit_b5 F_spent_b5 F_refused_b5 g_b5) hZ (hw _ (List.mem_of_getElem? (i := 6) rfl)) (hw _ (List.mem_of_getElem? (i := 3) rfl)) (by decide) (by decide)) (g := (mkF m 13 #[.val (.long q1), .second, .val (.long q2), .second, .val (.long q3), .second, .val (.int p4), .val (.long (q1 &&& (9223372036854775807 : Int64))), .second, .unset, .unset, .unset, .unset, .unset, .unset, .unset, .unset, .unset, .unset, .unset, .unset, .unset, .unset, .unset] [(.long (q1 &&& (9223372036854775807 : Int64))), (.ref b5), (.ref b5)])) rfl (by rw [hml]; rfl) (Steps.refl _) (a := b5) (argsL := [(.long (q1 &&& (9223372036854775807 : Int64)))]) (rest := [(.ref b5)]) (lenOf pd_0_0 rfl) rfl (by show 2 * 0 + _ ≤ _; exact Nat.le_of_eq rfl) (hb hby at_13) (fun _ _ => ⟨rfl, e5, (by decide : 1 + 0 ≤ _), (by decide : 3 + 0 ≤ _)⟩)
  dsimp only [Pt.U, Pt.locs, Pt.cells, Pt.slots] at X6 l6 y6 z6 st6 hQ6
  subst l6 y6 z6
  obtain ⟨rfl, N6q, K6, E6', FL6, FS6, FR6⟩ := hQ6      -- what it returned, that it wrote nothing old, and the rest of your Q1
  have N6 := Fr.app N0 N6q
  have H6 : n0 ≤ T6.heap.size := Nat.le_trans H5 K6.1
  -- pc 26: com/example/exact_anchor/exactanchor/search/BudgetSpendPinLaw.pick by its contract rm3
  obtain ⟨_, _, ⟨T7, L7, k7, n7⟩, -, X7, ⟨Lc7, hQ7, l7, y7, z7⟩, st7⟩ := Jvm.LawKit.callS X6 hx (y := (⟨"com/example/exact_anchor/exactanchor/search/BudgetSpendPinLaw", "pick", "(JJI)J"⟩ : MethodName)) hown (mvT hZ (hw _ (List.mem_of_getElem? (i := 12) rfl))) (mvT hZ (hw _ (List.mem_of_getElem? (i := 13) rfl))) (mvT hZ (hw _ (List.mem_of_getElem? (i := 14) rfl))) (mvT hZ (hw _ (List.mem_of_getElem? (i := 15) rfl))) (by decide) (backOf (W := 0) (rm3x l Z a0 hw [] q2 (q1 &&& (9223372036854775807 : Int64)) (p4 &&& (7 : Int32)) x1 T6.heap n0 H6 hx1) hZ (hw _ (List.mem_of_getElem? (i := 15) rfl)) (hw _ (List.mem_of_getElem? (i := 14) rfl)) (by decide) (by decide)) (g := (mkF m 26 #[.val (.long q1), .second, .val (.long q2), .second, .val (.long q3), .second, .val (.int p4), .val (.long (q1 &&& (9223372036854775807 : Int64))), .second, .val (.ref b5), .unset, .unset, .unset, .unset, .unset, .unset, .unset, .unset, .unset, .unset, .unset, .unset, .unset, .unset] [(.int (p4 &&& (7 : Int32))), (.long (q1 &&& (9223372036854775807 : Int64))), (.long q2)])) rfl (by rw [hml]; rfl) (argsL := [(.long q2), (.long (q1 &&& (9223372036854775807 : Int64))), (.int (p4 &&& (7 : Int32)))]) (rest := []) (lenOf pd_0_2 rfl) rfl (by show 2 * 0 + _ ≤ _; exact Nat.le_of_eq rfl) (hb hby at_26) (fun _ _ => ⟨rfl, rfl, (by decide : 1 + 0 ≤ _), (by decide : 3 + 0 ≤ _)⟩)
  dsimp only [Pt.U, Pt.locs, Pt.cells, Pt.slots] at X7 l7 y7 z7 st7 hQ7
  subst l7 y7 z7
  obtain ⟨rfl, N7q, q7⟩ := hQ7      -- what it returned, that it wrote nothing old, and the rest of your Q3
  have N7 := Fr.app N6 N7q
  have H7 : n0 ≤ T7.heap.size := by rw [q7]; exact H6
  have E7' : Exa Z T7.heap b5 "com/example/exact_anchor/exactanchor/search/Budget" := by rw [q7]; exact E6'
  have FL7 : Fld Z T7.heap b5 "com/example/exact_anchor/exactanchor/search/Budget" "limit" "J" (.long (q1 &&& (9223372036854775807 : Int64))) := by rw [q7]; exact FL6
  have FS7 : Fld Z T7.heap b5 "com/example/exact_anchor/exactanchor/search/Budget" "spent" "J" (.long (0 : Int64)) := by rw [q7]; exact FS6
  have FR7 : Fld Z T7.heap b5 "com/example/exact_anchor/exactanchor/search/Budget" "refused" "Z" (.int (0 : Int32)) := by rw [q7]; exact FR6
  -- pc 35: com/example/exact_anchor/exactanchor/search/Budget.spend by the contract of the body that the receiver's class selects, rm4
  obtain ⟨cq8, kq8, q8a, q8b, q8c⟩ := isOf hZ rfl E7'
  obtain ⟨_, _, ⟨T8, L8, k8, n8⟩, -, X8, ⟨Lc8, hQ8, l8, y8, z8⟩, st8⟩ := X7.virtualBack hx (y := (⟨"com/example/exact_anchor/exactanchor/search/Budget", "spend", "(J)Z"⟩ : MethodName)) (z := (⟨"com/example/exact_anchor/exactanchor/search/Budget", "spend", "(J)Z"⟩ : MethodName)) hown (mvT hZ (hw _ (List.mem_of_getElem? (i := 16) rfl))) (mvT hZ (hw _ (List.mem_of_getElem? (i := 17) rfl))) (notFace_of_selects (args := #[]) (mvT hZ (hw _ (List.mem_of_getElem? (i := 19) rfl)))) (mvT hZ (hw _ (List.mem_of_getElem? (i := 19) rfl))) (mvT hZ (hw _ (List.mem_of_getElem? (i := 18) rfl))) (by decide) (backOf (W := 0) (rm4_f l Z a0 hw [] b5 x1 (q1 &&& (9223372036854775807 : Int64)) (0 : Int64) (0 : Int32) T7.heap n0 H7 FL7 FS7 E7' FR7 g_b5 (by rw [Int64.sub_zero]; exact h1)) hZ (hw _ (List.mem_of_getElem? (i := 20) rfl)) (hw _ (List.mem_of_getElem? (i := 3) rfl)) (by decide) (by decide)) q8a q8c (g := (mkF m 35 #[.val (.long q1), .second, .val (.long q2), .second, .val (.long q3), .second, .val (.int p4), .val (.long (q1 &&& (9223372036854775807 : Int64))), .second, .val (.ref b5), .val (.long x1), .second, .unset, .unset, .unset, .unset, .unset, .unset, .unset, .unset, .unset, .unset, .unset, .unset] [(.long x1), (.ref b5)])) rfl (by rw [hml]; rfl) (Steps.refl _) (argsL := [(.long x1)]) (rest := []) (lenOf pd_0_3 rfl) rfl (by show 2 * 0 + _ ≤ _; exact Nat.le_of_eq rfl) (hb hby at_35) (fun _ _ => ⟨rfl, rfl, (by decide : 1 + 0 ≤ _), (by decide : 3 + 0 ≤ _)⟩)
  dsimp only [Pt.U, Pt.locs, Pt.cells, Pt.slots] at X8 l8 y8 z8 st8 hQ8
  subst l8 y8 z8
  obtain ⟨rfl, N8q, K8, E8', FL8, FS8, FR8⟩ := hQ8      -- what it returned, that it wrote nothing old, and the rest of your Q4
  have N8 := Fr.app N7 N8q
  have H8 : n0 ≤ T8.heap.size := Nat.le_trans H7 K8.1
  -- pc 77: com/example/exact_anchor/exactanchor/search/Budget.spent by the contract of the body that the receiver's class selects, rm5
  obtain ⟨cq9, kq9, q9a, q9b, q9c⟩ := isOf hZ rfl E8'
  obtain ⟨_, _, ⟨T9, L9, k9, n9⟩, -, X9, ⟨Lc9, hQ9, l9, y9, z9⟩, st9⟩ := X8.virtualBack hx (y := (⟨"com/example/exact_anchor/exactanchor/search/Budget", "spent", "()J"⟩ : MethodName)) (z := (⟨"com/example/exact_anchor/exactanchor/search/Budget", "spent", "()J"⟩ : MethodName)) hown (mvT hZ (hw _ (List.mem_of_getElem? (i := 23) rfl))) (mvT hZ (hw _ (List.mem_of_getElem? (i := 24) rfl))) (notFace_of_selects (args := #[]) (mvT hZ (hw _ (List.mem_of_getElem? (i := 26) rfl)))) (mvT hZ (hw _ (List.mem_of_getElem? (i := 26) rfl))) (mvT hZ (hw _ (List.mem_of_getElem? (i := 25) rfl))) (by decide) (backOf (W := 0) (rm5 l Z a0 hw [] b5 (0 : Int64) T8.heap n0 H8 FS8) hZ (hw _ (List.mem_of_getElem? (i := 27) rfl)) (hw _ (List.mem_of_getElem? (i := 3) rfl)) (by decide) (by decide)) q9a q9c (g := (mkF m 77 #[.val (.long q1), .second, .val (.long q2), .second, .val (.long q3), .second, .val (.int p4), .val (.long (q1 &&& (9223372036854775807 : Int64))), .second, .val (.ref b5), .val (.long x1), .second, .val (.int (0 : Int32)), .val (.int (0 : Int32)), .val (.long (0 : Int64)), .second, .unset, .unset, .unset, .unset, .unset, .unset, .unset, .unset] [(.ref b5)])) rfl (by rw [hml]; rfl) (Steps.refl _) (argsL := []) (rest := []) (lenOf pd_0_4 rfl) rfl (by show 2 * 0 + _ ≤ _; exact Nat.le_of_eq rfl) (hb hby at_77) (fun _ _ => ⟨rfl, rfl, (by decide : 1 + 0 ≤ _), (by decide : 3 + 0 ≤ _)⟩)
  dsimp only [Pt.U, Pt.locs, Pt.cells, Pt.slots] at X9 l9 y9 z9 st9 hQ9
  subst l9 y9 z9
  obtain ⟨rfl, N9q, q9⟩ := hQ9      -- what it returned, that it wrote nothing old, and the rest of your Q5
  have N9 := Fr.app N8 N9q
  have H9 : n0 ≤ T9.heap.size := by rw [q9]; exact H8
  have E9' : Exa Z T9.heap b5 "com/example/exact_anchor/exactanchor/search/Budget" := by rw [q9]; exact E8'
  have FL9 : Fld Z T9.heap b5 "com/example/exact_anchor/exactanchor/search/Budget" "limit" "J" (.long (q1 &&& (9223372036854775807 : Int64))) := by rw [q9]; exact FL8
  have FS9 : Fld Z T9.heap b5 "com/example/exact_anchor/exactanchor/search/Budget" "spent" "J" (.long (0 : Int64)) := by rw [q9]; exact FS8
  have FR9 : Fld Z T9.heap b5 "com/example/exact_anchor/exactanchor/search/Budget" "refused" "Z" (.int (1 : Int32)) := by rw [q9]; exact FR8
  -- pc 88: com/example/exact_anchor/exactanchor/search/Budget.exhausted by the contract of the body that the receiver's class selects, rm6
  obtain ⟨cq10, kq10, q10a, q10b, q10c⟩ := isOf hZ rfl E9'
  obtain ⟨_, _, ⟨T10, L10, k10, n10⟩, -, X10, ⟨Lc10, hQ10, l10, y10, z10⟩, st10⟩ := X9.virtualBack hx (y := (⟨"com/example/exact_anchor/exactanchor/search/Budget", "exhausted", "()Z"⟩ : MethodName)) (z := (⟨"com/example/exact_anchor/exactanchor/search/Budget", "exhausted", "()Z"⟩ : MethodName)) hown (mvT hZ (hw _ (List.mem_of_getElem? (i := 28) rfl))) (mvT hZ (hw _ (List.mem_of_getElem? (i := 29) rfl))) (notFace_of_selects (args := #[]) (mvT hZ (hw _ (List.mem_of_getElem? (i := 31) rfl)))) (mvT hZ (hw _ (List.mem_of_getElem? (i := 31) rfl))) (mvT hZ (hw _ (List.mem_of_getElem? (i := 30) rfl))) (by decide) (backOf (W := 0) (rm6 l Z a0 hw [] b5 (1 : Int32) T9.heap n0 H9 FR9 rfl) hZ (hw _ (List.mem_of_getElem? (i := 32) rfl)) (hw _ (List.mem_of_getElem? (i := 3) rfl)) (by decide) (by decide)) q10a q10c (g := (mkF m 88 #[.val (.long q1), .second, .val (.long q2), .second, .val (.long q3), .second, .val (.int p4), .val (.long (q1 &&& (9223372036854775807 : Int64))), .second, .val (.ref b5), .val (.long x1), .second, .val (.int (0 : Int32)), .val (.int (0 : Int32)), .val (.long (0 : Int64)), .second, .unset, .unset, .unset, .unset, .unset, .unset, .unset, .unset] [(.ref b5)])) rfl (by rw [hml]; rfl) (Steps.refl _) (argsL := []) (rest := []) (lenOf pd_0_5 rfl) rfl (by show 2 * 0 + _ ≤ _; exact Nat.le_of_eq rfl) (hb hby at_88) (fun _ _ => ⟨rfl, rfl, (by decide : 1 + 0 ≤ _), (by decide : 3 + 0 ≤ _)⟩)
  dsimp only [Pt.U, Pt.locs, Pt.cells, Pt.slots] at X10 l10 y10 z10 st10 hQ10
  subst l10 y10 z10
  obtain ⟨rfl, N10q, q10⟩ := hQ10      -- what it returned, that it wrote nothing old, and the rest of your Q6
  have N10 := Fr.app N9 N10q
  have H10 : n0 ≤ T10.heap.size := by rw [q10]; exact H9
  have E10' : Exa Z T10.heap b5 "com/example/exact_anchor/exactanchor/search/Budget" := by rw [q10]; exact E9'
  have FL10 : Fld Z T10.heap b5 "com/example/exact_anchor/exactanchor/search/Budget" "limit" "J" (.long (q1 &&& (9223372036854775807 : Int64))) := by rw [q10]; exact FL9
  have FS10 : Fld Z T10.heap b5 "com/example/exact_anchor/exactanchor/search/Budget" "spent" "J" (.long (0 : Int64)) := by rw [q10]; exact FS9
  have FR10 : Fld Z T10.heap b5 "com/example/exact_anchor/exactanchor/search/Budget" "refused" "Z" (.int (1 : Int32)) := by rw [q10]; exact FR9
  -- pc 124: com/example/exact_anchor/exactanchor/search/BudgetSpendPinLaw.pick by its contract rm3
  obtain ⟨_, _, ⟨T11, L11, k11, n11⟩, -, X11, ⟨Lc11, hQ11, l11, y11, z11⟩, st11⟩ := Jvm.LawKit.callS X10 hx (y := (⟨"com/example/exact_anchor/exactanchor/search/BudgetSpendPinLaw", "pick", "(JJI)J"⟩ : MethodName)) hown (mvT hZ (hw _ (List.mem_of_getElem? (i := 12) rfl))) (mvT hZ (hw _ (List.mem_of_getElem? (i := 13) rfl))) (mvT hZ (hw _ (List.mem_of_getElem? (i := 14) rfl))) (mvT hZ (hw _ (List.mem_of_getElem? (i := 15) rfl))) (by decide) (backOf (W := 0) (rm3x l Z a0 hw [] q3 ((q1 &&& (9223372036854775807 : Int64)) - (0 : Int64)) (((p4.toUInt32 >>> ((3 : Int32) &&& 31).toUInt32).toInt32) &&& (7 : Int32)) x2 T10.heap n0 H10 hx2) hZ (hw _ (List.mem_of_getElem? (i := 15) rfl)) (hw _ (List.mem_of_getElem? (i := 14) rfl)) (by decide) (by decide)) (g := (mkF m 124 #[.val (.long q1), .second, .val (.long q2), .second, .val (.long q3), .second, .val (.int p4), .val (.long (q1 &&& (9223372036854775807 : Int64))), .second, .val (.ref b5), .val (.long x1), .second, .val (.int (0 : Int32)), .val (.int (0 : Int32)), .val (.long (0 : Int64)), .second, .val (.long ((q1 &&& (9223372036854775807 : Int64)) - (0 : Int64))), .second, .unset, .unset, .unset, .unset, .unset, .unset] [(.int (((p4.toUInt32 >>> ((3 : Int32) &&& 31).toUInt32).toInt32) &&& (7 : Int32))), (.long ((q1 &&& (9223372036854775807 : Int64)) - (0 : Int64))), (.long q3)])) rfl (by rw [hml]; rfl) (argsL := [(.long q3), (.long ((q1 &&& (9223372036854775807 : Int64)) - (0 : Int64))), (.int (((p4.toUInt32 >>> ((3 : Int32) &&& 31).toUInt32).toInt32) &&& (7 : Int32)))]) (rest := []) (lenOf pd_0_2 rfl) rfl (by show 2 * 0 + _ ≤ _; exact Nat.le_of_eq rfl) (hb hby at_124) (fun _ _ => ⟨rfl, rfl, (by decide : 1 + 0 ≤ _), (by decide : 3 + 0 ≤ _)⟩)
  dsimp only [Pt.U, Pt.locs, Pt.cells, Pt.slots] at X11 l11 y11 z11 st11 hQ11
  subst l11 y11 z11
  obtain ⟨rfl, N11q, q11⟩ := hQ11      -- what it returned, that it wrote nothing old, and the rest of your Q3
  have N11 := Fr.app N10 N11q
  have H11 : n0 ≤ T11.heap.size := by rw [q11]; exact H10
  have E11' : Exa Z T11.heap b5 "com/example/exact_anchor/exactanchor/search/Budget" := by rw [q11]; exact E10'
  have FL11 : Fld Z T11.heap b5 "com/example/exact_anchor/exactanchor/search/Budget" "limit" "J" (.long (q1 &&& (9223372036854775807 : Int64))) := by rw [q11]; exact FL10
  have FS11 : Fld Z T11.heap b5 "com/example/exact_anchor/exactanchor/search/Budget" "spent" "J" (.long (0 : Int64)) := by rw [q11]; exact FS10
  have FR11 : Fld Z T11.heap b5 "com/example/exact_anchor/exactanchor/search/Budget" "refused" "Z" (.int (1 : Int32)) := by rw [q11]; exact FR10
  -- pc 133: com/example/exact_anchor/exactanchor/search/Budget.spend by the contract of the body that the receiver's class selects, rm4
  obtain ⟨cq12, kq12, q12a, q12b, q12c⟩ := isOf hZ rfl E11'
  obtain ⟨_, _, ⟨T12, L12, k12, n12⟩, -, X12, ⟨Lc12, hQ12, l12, y12, z12⟩, st12⟩ := X11.virtualBack hx (y := (⟨"com/example/exact_anchor/exactanchor/search/Budget", "spend", "(J)Z"⟩ : MethodName)) (z := (⟨"com/example/exact_anchor/exactanchor/search/Budget", "spend", "(J)Z"⟩ : MethodName)) hown (mvT hZ (hw _ (List.mem_of_getElem? (i := 16) rfl))) (mvT hZ (hw _ (List.mem_of_getElem? (i := 17) rfl))) (notFace_of_selects (args := #[]) (mvT hZ (hw _ (List.mem_of_getElem? (i := 19) rfl)))) (mvT hZ (hw _ (List.mem_of_getElem? (i := 19) rfl))) (mvT hZ (hw _ (List.mem_of_getElem? (i := 18) rfl))) (by decide) (backOf (W := 0) (rm4_t l Z a0 hw [] b5 x2 (q1 &&& (9223372036854775807 : Int64)) (0 : Int64) (1 : Int32) T11.heap n0 H11 FL11 FS11 E11' FR11 g_b5 h2) hZ (hw _ (List.mem_of_getElem? (i := 20) rfl)) (hw _ (List.mem_of_getElem? (i := 3) rfl)) (by decide) (by decide)) q12a q12c (g := (mkF m 133 #[.val (.long q1), .second, .val (.long q2), .second, .val (.long q3), .second, .val (.int p4), .val (.long (q1 &&& (9223372036854775807 : Int64))), .second, .val (.ref b5), .val (.long x1), .second, .val (.int (0 : Int32)), .val (.int (0 : Int32)), .val (.long (0 : Int64)), .second, .val (.long ((q1 &&& (9223372036854775807 : Int64)) - (0 : Int64))), .second, .val (.long x2), .second, .unset, .unset, .unset, .unset] [(.long x2), (.ref b5)])) rfl (by rw [hml]; rfl) (Steps.refl _) (argsL := [(.long x2)]) (rest := []) (lenOf pd_0_3 rfl) rfl (by show 2 * 0 + _ ≤ _; exact Nat.le_of_eq rfl) (hb hby at_133) (fun _ _ => ⟨rfl, rfl, (by decide : 1 + 0 ≤ _), (by decide : 3 + 0 ≤ _)⟩)
  dsimp only [Pt.U, Pt.locs, Pt.cells, Pt.slots] at X12 l12 y12 z12 st12 hQ12
  subst l12 y12 z12
  obtain ⟨rfl, N12q, K12, E12', FL12, FS12, FR12⟩ := hQ12      -- what it returned, that it wrote nothing old, and the rest of your Q4
  have N12 := Fr.app N11 N12q
  have H12 : n0 ≤ T12.heap.size := Nat.le_trans H11 K12.1
  -- pc 179: com/example/exact_anchor/exactanchor/search/Budget.spent by the contract of the body that the receiver's class selects, rm5
  obtain ⟨cq13, kq13, q13a, q13b, q13c⟩ := isOf hZ rfl E12'
  obtain ⟨_, _, ⟨T13, L13, k13, n13⟩, -, X13, ⟨Lc13, hQ13, l13, y13, z13⟩, st13⟩ := X12.virtualBack hx (y := (⟨"com/example/exact_anchor/exactanchor/search/Budget", "spent", "()J"⟩ : MethodName)) (z := (⟨"com/example/exact_anchor/exactanchor/search/Budget", "spent", "()J"⟩ : MethodName)) hown (mvT hZ (hw _ (List.mem_of_getElem? (i := 23) rfl))) (mvT hZ (hw _ (List.mem_of_getElem? (i := 24) rfl))) (notFace_of_selects (args := #[]) (mvT hZ (hw _ (List.mem_of_getElem? (i := 26) rfl)))) (mvT hZ (hw _ (List.mem_of_getElem? (i := 26) rfl))) (mvT hZ (hw _ (List.mem_of_getElem? (i := 25) rfl))) (by decide) (backOf (W := 0) (rm5 l Z a0 hw [] b5 ((0 : Int64) + x2) T12.heap n0 H12 FS12) hZ (hw _ (List.mem_of_getElem? (i := 27) rfl)) (hw _ (List.mem_of_getElem? (i := 3) rfl)) (by decide) (by decide)) q13a q13c (g := (mkF m 179 #[.val (.long q1), .second, .val (.long q2), .second, .val (.long q3), .second, .val (.int p4), .val (.long (q1 &&& (9223372036854775807 : Int64))), .second, .val (.ref b5), .val (.long x1), .second, .val (.int (0 : Int32)), .val (.int (0 : Int32)), .val (.long (0 : Int64)), .second, .val (.long ((q1 &&& (9223372036854775807 : Int64)) - (0 : Int64))), .second, .val (.long x2), .second, .val (.int (1 : Int32)), .val (.int (1 : Int32)), .val (.long ((0 : Int64) + x2)), .second] [(.ref b5)])) rfl (by rw [hml]; rfl) (Steps.refl _) (argsL := []) (rest := []) (lenOf pd_0_4 rfl) rfl (by show 2 * 0 + _ ≤ _; exact Nat.le_of_eq rfl) (hb hby at_179) (fun _ _ => ⟨rfl, rfl, (by decide : 1 + 0 ≤ _), (by decide : 3 + 0 ≤ _)⟩)
  dsimp only [Pt.U, Pt.locs, Pt.cells, Pt.slots] at X13 l13 y13 z13 st13 hQ13
  subst l13 y13 z13
  obtain ⟨rfl, N13q, q13⟩ := hQ13      -- what it returned, that it wrote nothing old, and the rest of your Q5
  have N13 := Fr.app N12 N13q
  have H13 : n0 ≤ T13.heap.size := by rw [q13]; exact H12
  have E13' : Exa Z T13.heap b5 "com/example/exact_anchor/exactanchor/search/Budget" := by rw [q13]; exact E12'
  have FL13 : Fld Z T13.heap b5 "com/example/exact_anchor/exactanchor/search/Budget" "limit" "J" (.long (q1 &&& (9223372036854775807 : Int64))) := by rw [q13]; exact FL12
  have FS13 : Fld Z T13.heap b5 "com/example/exact_anchor/exactanchor/search/Budget" "spent" "J" (.long ((0 : Int64) + x2)) := by rw [q13]; exact FS12
  have FR13 : Fld Z T13.heap b5 "com/example/exact_anchor/exactanchor/search/Budget" "refused" "Z" (.int (1 : Int32)) := by rw [q13]; exact FR12
  -- pc 190: com/example/exact_anchor/exactanchor/search/Budget.exhausted by the contract of the body that the receiver's class selects, rm6
  obtain ⟨cq14, kq14, q14a, q14b, q14c⟩ := isOf hZ rfl E13'
  obtain ⟨_, _, ⟨T14, L14, k14, n14⟩, -, X14, ⟨Lc14, hQ14, l14, y14, z14⟩, st14⟩ := X13.virtualBack hx (y := (⟨"com/example/exact_anchor/exactanchor/search/Budget", "exhausted", "()Z"⟩ : MethodName)) (z := (⟨"com/example/exact_anchor/exactanchor/search/Budget", "exhausted", "()Z"⟩ : MethodName)) hown (mvT hZ (hw _ (List.mem_of_getElem? (i := 28) rfl))) (mvT hZ (hw _ (List.mem_of_getElem? (i := 29) rfl))) (notFace_of_selects (args := #[]) (mvT hZ (hw _ (List.mem_of_getElem? (i := 31) rfl)))) (mvT hZ (hw _ (List.mem_of_getElem? (i := 31) rfl))) (mvT hZ (hw _ (List.mem_of_getElem? (i := 30) rfl))) (by decide) (backOf (W := 0) (rm6 l Z a0 hw [] b5 (1 : Int32) T13.heap n0 H13 FR13 rfl) hZ (hw _ (List.mem_of_getElem? (i := 32) rfl)) (hw _ (List.mem_of_getElem? (i := 3) rfl)) (by decide) (by decide)) q14a q14c (g := (mkF m 190 #[.val (.long q1), .second, .val (.long q2), .second, .val (.long q3), .second, .val (.int p4), .val (.long (q1 &&& (9223372036854775807 : Int64))), .second, .val (.ref b5), .val (.long x1), .second, .val (.int (0 : Int32)), .val (.int (0 : Int32)), .val (.long (0 : Int64)), .second, .val (.long ((q1 &&& (9223372036854775807 : Int64)) - (0 : Int64))), .second, .val (.long x2), .second, .val (.int (1 : Int32)), .val (.int (1 : Int32)), .val (.long ((0 : Int64) + x2)), .second] [(.ref b5)])) rfl (by rw [hml]; rfl) (Steps.refl _) (argsL := []) (rest := []) (lenOf pd_0_5 rfl) rfl (by show 2 * 0 + _ ≤ _; exact Nat.le_of_eq rfl) (hb hby at_190) (fun _ _ => ⟨rfl, rfl, (by decide : 1 + 0 ≤ _), (by decide : 3 + 0 ≤ _)⟩)
  dsimp only [Pt.U, Pt.locs, Pt.cells, Pt.slots] at X14 l14 y14 z14 st14 hQ14
  subst l14 y14 z14
  obtain ⟨rfl, N14q, q14⟩ := hQ14      -- what it returned, that it wrote nothing old, and the rest of your Q6
  have N14 := Fr.app N13 N14q
  have H14 : n0 ≤ T14.heap.size := by rw [q14]; exact H13
  have E14' : Exa Z T14.heap b5 "com/example/exact_anchor/exactanchor/search/Budget" := by rw [q14]; exact E13'
  have FL14 : Fld Z T14.heap b5 "com/example/exact_anchor/exactanchor/search/Budget" "limit" "J" (.long (q1 &&& (9223372036854775807 : Int64))) := by rw [q14]; exact FL13
  have FS14 : Fld Z T14.heap b5 "com/example/exact_anchor/exactanchor/search/Budget" "spent" "J" (.long ((0 : Int64) + x2)) := by rw [q14]; exact FS13
  have FR14 : Fld Z T14.heap b5 "com/example/exact_anchor/exactanchor/search/Budget" "refused" "Z" (.int (1 : Int32)) := by rw [q14]; exact FR13
  obtain ⟨fs, hr, hrun, hended, hW, hsame⟩ := X14.leave (v := some (.int (1 : Int32))) (fun h => by rw [Bd.returns] at h; cases h)
  refine ⟨_, _, pre0 _ ?_, hrun, hended, _, _, rfl, ?_, ⟨_, rfl⟩, hW, hsame.mono (by decide) (by decide)⟩
  -- 4. STEPS
  · show Steps p.tables e below (s₁.setTop (mkF m 0 #[.val (.long q1), .second, .val (.long q2), .second, .val (.long q3), .second, .val (.int p4), .unset, .unset, .unset, .unset, .unset, .unset, .unset, .unset, .unset, .unset, .unset, .unset, .unset, .unset, .unset, .unset, .unset] [])) _
    refine XS.lloadN X0.here hx rfl (hb hby at_0) rfl ?_
    show Steps p.tables e below (s₁.setTop (mkF m 1 #[.val (.long q1), .second, .val (.long q2), .second, .val (.long q3), .second, .val (.int p4), .unset, .unset, .unset, .unset, .unset, .unset, .unset, .unset, .unset, .unset, .unset, .unset, .unset, .unset, .unset, .unset, .unset] [(.long q1)])) _
    refine X0.ldc2Long hx hown (mvT hZ (hw _ (List.mem_of_getElem? (i := 0) rfl))) (g := (mkF m 1 #[.val (.long q1), .second, .val (.long q2), .second, .val (.long q3), .second, .val (.int p4), .unset, .unset, .unset, .unset, .unset, .unset, .unset, .unset, .unset, .unset, .unset, .unset, .unset, .unset, .unset, .unset, .unset] [(.long q1)])) rfl (hb hby at_1) _ ?_
    show Steps p.tables e below (s₁.setTop (mkF m 4 #[.val (.long q1), .second, .val (.long q2), .second, .val (.long q3), .second, .val (.int p4), .unset, .unset, .unset, .unset, .unset, .unset, .unset, .unset, .unset, .unset, .unset, .unset, .unset, .unset, .unset, .unset, .unset] [(.long (9223372036854775807 : Int64)), (.long q1)])) _
    refine XS.land X0.here hx rfl (hb hby at_4) rfl ?_
    show Steps p.tables e below (s₁.setTop (mkF m 5 #[.val (.long q1), .second, .val (.long q2), .second, .val (.long q3), .second, .val (.int p4), .unset, .unset, .unset, .unset, .unset, .unset, .unset, .unset, .unset, .unset, .unset, .unset, .unset, .unset, .unset, .unset, .unset] [(.long (q1 &&& (9223372036854775807 : Int64)))])) _
    refine XS.lstore X0.here hx rfl (hb hby at_5) rfl (l' := #[.val (.long q1), .second, .val (.long q2), .second, .val (.long q3), .second, .val (.int p4), .val (.long (q1 &&& (9223372036854775807 : Int64))), .second, .unset, .unset, .unset, .unset, .unset, .unset, .unset, .unset, .unset, .unset, .unset, .unset, .unset, .unset, .unset]) rfl ?_
    show Steps p.tables e below (s₁.setTop (mkF m 7 #[.val (.long q1), .second, .val (.long q2), .second, .val (.long q3), .second, .val (.int p4), .val (.long (q1 &&& (9223372036854775807 : Int64))), .second, .unset, .unset, .unset, .unset, .unset, .unset, .unset, .unset, .unset, .unset, .unset, .unset, .unset, .unset, .unset] [])) _
    refine st5 _ ?_
    show Steps p.tables e below (T5.setTop (mkF m 10 #[.val (.long q1), .second, .val (.long q2), .second, .val (.long q3), .second, .val (.int p4), .val (.long (q1 &&& (9223372036854775807 : Int64))), .second, .unset, .unset, .unset, .unset, .unset, .unset, .unset, .unset, .unset, .unset, .unset, .unset, .unset, .unset, .unset] [(.ref b5)])) _
    refine XS.dup X5.here hx rfl (hb hby at_10) rfl rfl ?_
    show Steps p.tables e below (T5.setTop (mkF m 11 #[.val (.long q1), .second, .val (.long q2), .second, .val (.long q3), .second, .val (.int p4), .val (.long (q1 &&& (9223372036854775807 : Int64))), .second, .unset, .unset, .unset, .unset, .unset, .unset, .unset, .unset, .unset, .unset, .unset, .unset, .unset, .unset, .unset] [(.ref b5), (.ref b5)])) _
    refine XS.lload X5.here hx rfl (hb hby at_11) rfl ?_
    show Steps p.tables e below (T5.setTop (mkF m 13 #[.val (.long q1), .second, .val (.long q2), .second, .val (.long q3), .second, .val (.int p4), .val (.long (q1 &&& (9223372036854775807 : Int64))), .second, .unset, .unset, .unset, .unset, .unset, .unset, .unset, .unset, .unset, .unset, .unset, .unset, .unset, .unset, .unset] [(.long (q1 &&& (9223372036854775807 : Int64))), (.ref b5), (.ref b5)])) _
    refine st6.trans ?_
    show Steps p.tables e below (T6.setTop (mkF m 16 #[.val (.long q1), .second, .val (.long q2), .second, .val (.long q3), .second, .val (.int p4), .val (.long (q1 &&& (9223372036854775807 : Int64))), .second, .unset, .unset, .unset, .unset, .unset, .unset, .unset, .unset, .unset, .unset, .unset, .unset, .unset, .unset, .unset] [(.ref b5)])) _
    refine XS.astore X6.here hx rfl (hb hby at_16) rfl rfl (l' := #[.val (.long q1), .second, .val (.long q2), .second, .val (.long q3), .second, .val (.int p4), .val (.long (q1 &&& (9223372036854775807 : Int64))), .second, .val (.ref b5), .unset, .unset, .unset, .unset, .unset, .unset, .unset, .unset, .unset, .unset, .unset, .unset, .unset, .unset]) rfl ?_
    show Steps p.tables e below (T6.setTop (mkF m 18 #[.val (.long q1), .second, .val (.long q2), .second, .val (.long q3), .second, .val (.int p4), .val (.long (q1 &&& (9223372036854775807 : Int64))), .second, .val (.ref b5), .unset, .unset, .unset, .unset, .unset, .unset, .unset, .unset, .unset, .unset, .unset, .unset, .unset, .unset] [])) _
    refine XS.lloadN X6.here hx rfl (hb hby at_18) rfl ?_
    show Steps p.tables e below (T6.setTop (mkF m 19 #[.val (.long q1), .second, .val (.long q2), .second, .val (.long q3), .second, .val (.int p4), .val (.long (q1 &&& (9223372036854775807 : Int64))), .second, .val (.ref b5), .unset, .unset, .unset, .unset, .unset, .unset, .unset, .unset, .unset, .unset, .unset, .unset, .unset, .unset] [(.long q2)])) _
    refine XS.lload X6.here hx rfl (hb hby at_19) rfl ?_
    show Steps p.tables e below (T6.setTop (mkF m 21 #[.val (.long q1), .second, .val (.long q2), .second, .val (.long q3), .second, .val (.int p4), .val (.long (q1 &&& (9223372036854775807 : Int64))), .second, .val (.ref b5), .unset, .unset, .unset, .unset, .unset, .unset, .unset, .unset, .unset, .unset, .unset, .unset, .unset, .unset] [(.long (q1 &&& (9223372036854775807 : Int64))), (.long q2)])) _
    refine XS.iload X6.here hx rfl (hb hby at_21) rfl ?_
    show Steps p.tables e below (T6.setTop (mkF m 23 #[.val (.long q1), .second, .val (.long q2), .second, .val (.long q3), .second, .val (.int p4), .val (.long (q1 &&& (9223372036854775807 : Int64))), .second, .val (.ref b5), .unset, .unset, .unset, .unset, .unset, .unset, .unset, .unset, .unset, .unset, .unset, .unset, .unset, .unset] [(.int p4), (.long (q1 &&& (9223372036854775807 : Int64))), (.long q2)])) _
    refine XS.bipush X6.here hx rfl (hb hby at_23) ?_
    show Steps p.tables e below (T6.setTop (mkF m 25 #[.val (.long q1), .second, .val (.long q2), .second, .val (.long q3), .second, .val (.int p4), .val (.long (q1 &&& (9223372036854775807 : Int64))), .second, .val (.ref b5), .unset, .unset, .unset, .unset, .unset, .unset, .unset, .unset, .unset, .unset, .unset, .unset, .unset, .unset] [(.int (7 : Int32)), (.int p4), (.long (q1 &&& (9223372036854775807 : Int64))), (.long q2)])) _
    refine XS.iand X6.here hx rfl (hb hby at_25) rfl ?_
    show Steps p.tables e below (T6.setTop (mkF m 26 #[.val (.long q1), .second, .val (.long q2), .second, .val (.long q3), .second, .val (.int p4), .val (.long (q1 &&& (9223372036854775807 : Int64))), .second, .val (.ref b5), .unset, .unset, .unset, .unset, .unset, .unset, .unset, .unset, .unset, .unset, .unset, .unset, .unset, .unset] [(.int (p4 &&& (7 : Int32))), (.long (q1 &&& (9223372036854775807 : Int64))), (.long q2)])) _
    refine st7 _ ?_
    show Steps p.tables e below (T7.setTop (mkF m 29 #[.val (.long q1), .second, .val (.long q2), .second, .val (.long q3), .second, .val (.int p4), .val (.long (q1 &&& (9223372036854775807 : Int64))), .second, .val (.ref b5), .unset, .unset, .unset, .unset, .unset, .unset, .unset, .unset, .unset, .unset, .unset, .unset, .unset, .unset] [(.long x1)])) _
    refine XS.lstore X7.here hx rfl (hb hby at_29) rfl (l' := #[.val (.long q1), .second, .val (.long q2), .second, .val (.long q3), .second, .val (.int p4), .val (.long (q1 &&& (9223372036854775807 : Int64))), .second, .val (.ref b5), .val (.long x1), .second, .unset, .unset, .unset, .unset, .unset, .unset, .unset, .unset, .unset, .unset, .unset, .unset]) rfl ?_
    show Steps p.tables e below (T7.setTop (mkF m 31 #[.val (.long q1), .second, .val (.long q2), .second, .val (.long q3), .second, .val (.int p4), .val (.long (q1 &&& (9223372036854775807 : Int64))), .second, .val (.ref b5), .val (.long x1), .second, .unset, .unset, .unset, .unset, .unset, .unset, .unset, .unset, .unset, .unset, .unset, .unset] [])) _
    refine XS.aload X7.here hx rfl (hb hby at_31) rfl rfl ?_
    show Steps p.tables e below (T7.setTop (mkF m 33 #[.val (.long q1), .second, .val (.long q2), .second, .val (.long q3), .second, .val (.int p4), .val (.long (q1 &&& (9223372036854775807 : Int64))), .second, .val (.ref b5), .val (.long x1), .second, .unset, .unset, .unset, .unset, .unset, .unset, .unset, .unset, .unset, .unset, .unset, .unset] [(.ref b5)])) _
    refine XS.lload X7.here hx rfl (hb hby at_33) rfl ?_
    show Steps p.tables e below (T7.setTop (mkF m 35 #[.val (.long q1), .second, .val (.long q2), .second, .val (.long q3), .second, .val (.int p4), .val (.long (q1 &&& (9223372036854775807 : Int64))), .second, .val (.ref b5), .val (.long x1), .second, .unset, .unset, .unset, .unset, .unset, .unset, .unset, .unset, .unset, .unset, .unset, .unset] [(.long x1), (.ref b5)])) _
    refine st8.trans ?_
    show Steps p.tables e below (T8.setTop (mkF m 38 #[.val (.long q1), .second, .val (.long q2), .second, .val (.long q3), .second, .val (.int p4), .val (.long (q1 &&& (9223372036854775807 : Int64))), .second, .val (.ref b5), .val (.long x1), .second, .unset, .unset, .unset, .unset, .unset, .unset, .unset, .unset, .unset, .unset, .unset, .unset] [(.int (0 : Int32))])) _
    refine XS.istore X8.here hx rfl (hb hby at_38) rfl (l' := #[.val (.long q1), .second, .val (.long q2), .second, .val (.long q3), .second, .val (.int p4), .val (.long (q1 &&& (9223372036854775807 : Int64))), .second, .val (.ref b5), .val (.long x1), .second, .val (.int (0 : Int32)), .unset, .unset, .unset, .unset, .unset, .unset, .unset, .unset, .unset, .unset, .unset]) rfl ?_
    show Steps p.tables e below (T8.setTop (mkF m 40 #[.val (.long q1), .second, .val (.long q2), .second, .val (.long q3), .second, .val (.int p4), .val (.long (q1 &&& (9223372036854775807 : Int64))), .second, .val (.ref b5), .val (.long x1), .second, .val (.int (0 : Int32)), .unset, .unset, .unset, .unset, .unset, .unset, .unset, .unset, .unset, .unset, .unset] [])) _
    refine XS.lload X8.here hx rfl (hb hby at_40) rfl ?_
    show Steps p.tables e below (T8.setTop (mkF m 42 #[.val (.long q1), .second, .val (.long q2), .second, .val (.long q3), .second, .val (.int p4), .val (.long (q1 &&& (9223372036854775807 : Int64))), .second, .val (.ref b5), .val (.long x1), .second, .val (.int (0 : Int32)), .unset, .unset, .unset, .unset, .unset, .unset, .unset, .unset, .unset, .unset, .unset] [(.long x1)])) _
    refine XS.lload X8.here hx rfl (hb hby at_42) rfl ?_
    show Steps p.tables e below (T8.setTop (mkF m 44 #[.val (.long q1), .second, .val (.long q2), .second, .val (.long q3), .second, .val (.int p4), .val (.long (q1 &&& (9223372036854775807 : Int64))), .second, .val (.ref b5), .val (.long x1), .second, .val (.int (0 : Int32)), .unset, .unset, .unset, .unset, .unset, .unset, .unset, .unset, .unset, .unset, .unset] [(.long (q1 &&& (9223372036854775807 : Int64))), (.long x1)])) _
    refine XS.lcmp X8.here hx rfl (hb hby at_44) rfl ?_
    show Steps p.tables e below (T8.setTop (mkF m 45 #[.val (.long q1), .second, .val (.long q2), .second, .val (.long q3), .second, .val (.int p4), .val (.long (q1 &&& (9223372036854775807 : Int64))), .second, .val (.ref b5), .val (.long x1), .second, .val (.int (0 : Int32)), .unset, .unset, .unset, .unset, .unset, .unset, .unset, .unset, .unset, .unset, .unset] [(.int (lcmpW x1 (q1 &&& (9223372036854775807 : Int64))))])) _
    refine XS.ifYes X8.here hx rfl (pc0 := 45) (pc' := 52) rfl (hb hby at_45) rfl ((if0 _ _).trans (tlt (h1 : (0 : Int32) < (lcmpW x1 (q1 &&& (9223372036854775807 : Int64))))).2.2.1) (by decide) (by decide) ?_
    show Steps p.tables e below (T8.setTop (mkF m 52 #[.val (.long q1), .second, .val (.long q2), .second, .val (.long q3), .second, .val (.int p4), .val (.long (q1 &&& (9223372036854775807 : Int64))), .second, .val (.ref b5), .val (.long x1), .second, .val (.int (0 : Int32)), .unset, .unset, .unset, .unset, .unset, .unset, .unset, .unset, .unset, .unset, .unset] [])) _
    refine XS.iconst X8.here hx rfl (hb hby at_52) ?_
    show Steps p.tables e below (T8.setTop (mkF m 53 #[.val (.long q1), .second, .val (.long q2), .second, .val (.long q3), .second, .val (.int p4), .val (.long (q1 &&& (9223372036854775807 : Int64))), .second, .val (.ref b5), .val (.long x1), .second, .val (.int (0 : Int32)), .unset, .unset, .unset, .unset, .unset, .unset, .unset, .unset, .unset, .unset, .unset] [(.int (0 : Int32))])) _
    refine XS.istore X8.here hx rfl (hb hby at_53) rfl (l' := #[.val (.long q1), .second, .val (.long q2), .second, .val (.long q3), .second, .val (.int p4), .val (.long (q1 &&& (9223372036854775807 : Int64))), .second, .val (.ref b5), .val (.long x1), .second, .val (.int (0 : Int32)), .val (.int (0 : Int32)), .unset, .unset, .unset, .unset, .unset, .unset, .unset, .unset, .unset, .unset]) rfl ?_
    show Steps p.tables e below (T8.setTop (mkF m 55 #[.val (.long q1), .second, .val (.long q2), .second, .val (.long q3), .second, .val (.int p4), .val (.long (q1 &&& (9223372036854775807 : Int64))), .second, .val (.ref b5), .val (.long x1), .second, .val (.int (0 : Int32)), .val (.int (0 : Int32)), .unset, .unset, .unset, .unset, .unset, .unset, .unset, .unset, .unset, .unset] [])) _
    refine XS.iload X8.here hx rfl (hb hby at_55) rfl ?_
    show Steps p.tables e below (T8.setTop (mkF m 57 #[.val (.long q1), .second, .val (.long q2), .second, .val (.long q3), .second, .val (.int p4), .val (.long (q1 &&& (9223372036854775807 : Int64))), .second, .val (.ref b5), .val (.long x1), .second, .val (.int (0 : Int32)), .val (.int (0 : Int32)), .unset, .unset, .unset, .unset, .unset, .unset, .unset, .unset, .unset, .unset] [(.int (0 : Int32))])) _
    refine XS.ifYes X8.here hx rfl (pc0 := 57) (pc' := 65) rfl (hb hby at_57) rfl ((if0 _ _).trans (teq (rfl : (0 : Int32) = (0 : Int32))).1) (by decide) (by decide) ?_
    show Steps p.tables e below (T8.setTop (mkF m 65 #[.val (.long q1), .second, .val (.long q2), .second, .val (.long q3), .second, .val (.int p4), .val (.long (q1 &&& (9223372036854775807 : Int64))), .second, .val (.ref b5), .val (.long x1), .second, .val (.int (0 : Int32)), .val (.int (0 : Int32)), .unset, .unset, .unset, .unset, .unset, .unset, .unset, .unset, .unset, .unset] [])) _
    refine XS.lconst X8.here hx rfl (hb hby at_65) ?_
    show Steps p.tables e below (T8.setTop (mkF m 66 #[.val (.long q1), .second, .val (.long q2), .second, .val (.long q3), .second, .val (.int p4), .val (.long (q1 &&& (9223372036854775807 : Int64))), .second, .val (.ref b5), .val (.long x1), .second, .val (.int (0 : Int32)), .val (.int (0 : Int32)), .unset, .unset, .unset, .unset, .unset, .unset, .unset, .unset, .unset, .unset] [(.long (0 : Int64))])) _
    refine XS.lstore X8.here hx rfl (hb hby at_66) rfl (l' := #[.val (.long q1), .second, .val (.long q2), .second, .val (.long q3), .second, .val (.int p4), .val (.long (q1 &&& (9223372036854775807 : Int64))), .second, .val (.ref b5), .val (.long x1), .second, .val (.int (0 : Int32)), .val (.int (0 : Int32)), .val (.long (0 : Int64)), .second, .unset, .unset, .unset, .unset, .unset, .unset, .unset, .unset]) rfl ?_
    show Steps p.tables e below (T8.setTop (mkF m 68 #[.val (.long q1), .second, .val (.long q2), .second, .val (.long q3), .second, .val (.int p4), .val (.long (q1 &&& (9223372036854775807 : Int64))), .second, .val (.ref b5), .val (.long x1), .second, .val (.int (0 : Int32)), .val (.int (0 : Int32)), .val (.long (0 : Int64)), .second, .unset, .unset, .unset, .unset, .unset, .unset, .unset, .unset] [])) _
    refine XS.iload X8.here hx rfl (hb hby at_68) rfl ?_
    show Steps p.tables e below (T8.setTop (mkF m 70 #[.val (.long q1), .second, .val (.long q2), .second, .val (.long q3), .second, .val (.int p4), .val (.long (q1 &&& (9223372036854775807 : Int64))), .second, .val (.ref b5), .val (.long x1), .second, .val (.int (0 : Int32)), .val (.int (0 : Int32)), .val (.long (0 : Int64)), .second, .unset, .unset, .unset, .unset, .unset, .unset, .unset, .unset] [(.int (0 : Int32))])) _
    refine XS.iload X8.here hx rfl (hb hby at_70) rfl ?_
    show Steps p.tables e below (T8.setTop (mkF m 72 #[.val (.long q1), .second, .val (.long q2), .second, .val (.long q3), .second, .val (.int p4), .val (.long (q1 &&& (9223372036854775807 : Int64))), .second, .val (.ref b5), .val (.long x1), .second, .val (.int (0 : Int32)), .val (.int (0 : Int32)), .val (.long (0 : Int64)), .second, .unset, .unset, .unset, .unset, .unset, .unset, .unset, .unset] [(.int (0 : Int32)), (.int (0 : Int32))])) _
    refine XS.icmpNo X8.here hx rfl (hb hby at_72) rfl (teq (rfl : (0 : Int32) = (0 : Int32))).2 ?_
    show Steps p.tables e below (T8.setTop (mkF m 75 #[.val (.long q1), .second, .val (.long q2), .second, .val (.long q3), .second, .val (.int p4), .val (.long (q1 &&& (9223372036854775807 : Int64))), .second, .val (.ref b5), .val (.long x1), .second, .val (.int (0 : Int32)), .val (.int (0 : Int32)), .val (.long (0 : Int64)), .second, .unset, .unset, .unset, .unset, .unset, .unset, .unset, .unset] [])) _
    refine XS.aload X8.here hx rfl (hb hby at_75) rfl rfl ?_
    show Steps p.tables e below (T8.setTop (mkF m 77 #[.val (.long q1), .second, .val (.long q2), .second, .val (.long q3), .second, .val (.int p4), .val (.long (q1 &&& (9223372036854775807 : Int64))), .second, .val (.ref b5), .val (.long x1), .second, .val (.int (0 : Int32)), .val (.int (0 : Int32)), .val (.long (0 : Int64)), .second, .unset, .unset, .unset, .unset, .unset, .unset, .unset, .unset] [(.ref b5)])) _
    refine st9.trans ?_
    show Steps p.tables e below (T9.setTop (mkF m 80 #[.val (.long q1), .second, .val (.long q2), .second, .val (.long q3), .second, .val (.int p4), .val (.long (q1 &&& (9223372036854775807 : Int64))), .second, .val (.ref b5), .val (.long x1), .second, .val (.int (0 : Int32)), .val (.int (0 : Int32)), .val (.long (0 : Int64)), .second, .unset, .unset, .unset, .unset, .unset, .unset, .unset, .unset] [(.long (0 : Int64))])) _
    refine XS.lload X9.here hx rfl (hb hby at_80) rfl ?_
    show Steps p.tables e below (T9.setTop (mkF m 82 #[.val (.long q1), .second, .val (.long q2), .second, .val (.long q3), .second, .val (.int p4), .val (.long (q1 &&& (9223372036854775807 : Int64))), .second, .val (.ref b5), .val (.long x1), .second, .val (.int (0 : Int32)), .val (.int (0 : Int32)), .val (.long (0 : Int64)), .second, .unset, .unset, .unset, .unset, .unset, .unset, .unset, .unset] [(.long (0 : Int64)), (.long (0 : Int64))])) _
    refine XS.lcmp X9.here hx rfl (hb hby at_82) rfl ?_
    show Steps p.tables e below (T9.setTop (mkF m 83 #[.val (.long q1), .second, .val (.long q2), .second, .val (.long q3), .second, .val (.int p4), .val (.long (q1 &&& (9223372036854775807 : Int64))), .second, .val (.ref b5), .val (.long x1), .second, .val (.int (0 : Int32)), .val (.int (0 : Int32)), .val (.long (0 : Int64)), .second, .unset, .unset, .unset, .unset, .unset, .unset, .unset, .unset] [(.int (lcmpW (0 : Int64) (0 : Int64)))])) _
    refine XS.ifNo X9.here hx rfl (hb hby at_83) rfl ((if0 _ _).trans (teq ((lw_eq _ _).mpr rfl : (lcmpW (0 : Int64) (0 : Int64)) = (0 : Int32))).2) ?_
    show Steps p.tables e below (T9.setTop (mkF m 86 #[.val (.long q1), .second, .val (.long q2), .second, .val (.long q3), .second, .val (.int p4), .val (.long (q1 &&& (9223372036854775807 : Int64))), .second, .val (.ref b5), .val (.long x1), .second, .val (.int (0 : Int32)), .val (.int (0 : Int32)), .val (.long (0 : Int64)), .second, .unset, .unset, .unset, .unset, .unset, .unset, .unset, .unset] [])) _
    refine XS.aload X9.here hx rfl (hb hby at_86) rfl rfl ?_
    show Steps p.tables e below (T9.setTop (mkF m 88 #[.val (.long q1), .second, .val (.long q2), .second, .val (.long q3), .second, .val (.int p4), .val (.long (q1 &&& (9223372036854775807 : Int64))), .second, .val (.ref b5), .val (.long x1), .second, .val (.int (0 : Int32)), .val (.int (0 : Int32)), .val (.long (0 : Int64)), .second, .unset, .unset, .unset, .unset, .unset, .unset, .unset, .unset] [(.ref b5)])) _
    refine st10.trans ?_
    show Steps p.tables e below (T10.setTop (mkF m 91 #[.val (.long q1), .second, .val (.long q2), .second, .val (.long q3), .second, .val (.int p4), .val (.long (q1 &&& (9223372036854775807 : Int64))), .second, .val (.ref b5), .val (.long x1), .second, .val (.int (0 : Int32)), .val (.int (0 : Int32)), .val (.long (0 : Int64)), .second, .unset, .unset, .unset, .unset, .unset, .unset, .unset, .unset] [(.int (1 : Int32))])) _
    refine XS.iload X10.here hx rfl (hb hby at_91) rfl ?_
    show Steps p.tables e below (T10.setTop (mkF m 93 #[.val (.long q1), .second, .val (.long q2), .second, .val (.long q3), .second, .val (.int p4), .val (.long (q1 &&& (9223372036854775807 : Int64))), .second, .val (.ref b5), .val (.long x1), .second, .val (.int (0 : Int32)), .val (.int (0 : Int32)), .val (.long (0 : Int64)), .second, .unset, .unset, .unset, .unset, .unset, .unset, .unset, .unset] [(.int (0 : Int32)), (.int (1 : Int32))])) _
    refine XS.ifNo X10.here hx rfl (hb hby at_93) rfl ((if0 _ _).trans (teq (rfl : (0 : Int32) = (0 : Int32))).2) ?_
    show Steps p.tables e below (T10.setTop (mkF m 96 #[.val (.long q1), .second, .val (.long q2), .second, .val (.long q3), .second, .val (.int p4), .val (.long (q1 &&& (9223372036854775807 : Int64))), .second, .val (.ref b5), .val (.long x1), .second, .val (.int (0 : Int32)), .val (.int (0 : Int32)), .val (.long (0 : Int64)), .second, .unset, .unset, .unset, .unset, .unset, .unset, .unset, .unset] [(.int (1 : Int32))])) _
    refine XS.iconst X10.here hx rfl (hb hby at_96) ?_
    show Steps p.tables e below (T10.setTop (mkF m 97 #[.val (.long q1), .second, .val (.long q2), .second, .val (.long q3), .second, .val (.int p4), .val (.long (q1 &&& (9223372036854775807 : Int64))), .second, .val (.ref b5), .val (.long x1), .second, .val (.int (0 : Int32)), .val (.int (0 : Int32)), .val (.long (0 : Int64)), .second, .unset, .unset, .unset, .unset, .unset, .unset, .unset, .unset] [(.int (1 : Int32)), (.int (1 : Int32))])) _
    refine XS.goto X10.here hx rfl (pc0 := 97) (pc' := 101) rfl (hb hby at_97) (by decide) (by decide) ?_
    show Steps p.tables e below (T10.setTop (mkF m 101 #[.val (.long q1), .second, .val (.long q2), .second, .val (.long q3), .second, .val (.int p4), .val (.long (q1 &&& (9223372036854775807 : Int64))), .second, .val (.ref b5), .val (.long x1), .second, .val (.int (0 : Int32)), .val (.int (0 : Int32)), .val (.long (0 : Int64)), .second, .unset, .unset, .unset, .unset, .unset, .unset, .unset, .unset] [(.int (1 : Int32)), (.int (1 : Int32))])) _
    refine XS.icmpYes X10.here hx rfl (pc0 := 101) (pc' := 106) rfl (hb hby at_101) rfl (teq (rfl : (1 : Int32) = (1 : Int32))).1 (by decide) (by decide) ?_
    show Steps p.tables e below (T10.setTop (mkF m 106 #[.val (.long q1), .second, .val (.long q2), .second, .val (.long q3), .second, .val (.int p4), .val (.long (q1 &&& (9223372036854775807 : Int64))), .second, .val (.ref b5), .val (.long x1), .second, .val (.int (0 : Int32)), .val (.int (0 : Int32)), .val (.long (0 : Int64)), .second, .unset, .unset, .unset, .unset, .unset, .unset, .unset, .unset] [])) _
    refine XS.lload X10.here hx rfl (hb hby at_106) rfl ?_
    show Steps p.tables e below (T10.setTop (mkF m 108 #[.val (.long q1), .second, .val (.long q2), .second, .val (.long q3), .second, .val (.int p4), .val (.long (q1 &&& (9223372036854775807 : Int64))), .second, .val (.ref b5), .val (.long x1), .second, .val (.int (0 : Int32)), .val (.int (0 : Int32)), .val (.long (0 : Int64)), .second, .unset, .unset, .unset, .unset, .unset, .unset, .unset, .unset] [(.long (q1 &&& (9223372036854775807 : Int64)))])) _
    refine XS.lload X10.here hx rfl (hb hby at_108) rfl ?_
    show Steps p.tables e below (T10.setTop (mkF m 110 #[.val (.long q1), .second, .val (.long q2), .second, .val (.long q3), .second, .val (.int p4), .val (.long (q1 &&& (9223372036854775807 : Int64))), .second, .val (.ref b5), .val (.long x1), .second, .val (.int (0 : Int32)), .val (.int (0 : Int32)), .val (.long (0 : Int64)), .second, .unset, .unset, .unset, .unset, .unset, .unset, .unset, .unset] [(.long (0 : Int64)), (.long (q1 &&& (9223372036854775807 : Int64)))])) _
    refine XS.lsub X10.here hx rfl (hb hby at_110) rfl ?_
    show Steps p.tables e below (T10.setTop (mkF m 111 #[.val (.long q1), .second, .val (.long q2), .second, .val (.long q3), .second, .val (.int p4), .val (.long (q1 &&& (9223372036854775807 : Int64))), .second, .val (.ref b5), .val (.long x1), .second, .val (.int (0 : Int32)), .val (.int (0 : Int32)), .val (.long (0 : Int64)), .second, .unset, .unset, .unset, .unset, .unset, .unset, .unset, .unset] [(.long ((q1 &&& (9223372036854775807 : Int64)) - (0 : Int64)))])) _
    refine XS.lstore X10.here hx rfl (hb hby at_111) rfl (l' := #[.val (.long q1), .second, .val (.long q2), .second, .val (.long q3), .second, .val (.int p4), .val (.long (q1 &&& (9223372036854775807 : Int64))), .second, .val (.ref b5), .val (.long x1), .second, .val (.int (0 : Int32)), .val (.int (0 : Int32)), .val (.long (0 : Int64)), .second, .val (.long ((q1 &&& (9223372036854775807 : Int64)) - (0 : Int64))), .second, .unset, .unset, .unset, .unset, .unset, .unset]) rfl ?_
    show Steps p.tables e below (T10.setTop (mkF m 113 #[.val (.long q1), .second, .val (.long q2), .second, .val (.long q3), .second, .val (.int p4), .val (.long (q1 &&& (9223372036854775807 : Int64))), .second, .val (.ref b5), .val (.long x1), .second, .val (.int (0 : Int32)), .val (.int (0 : Int32)), .val (.long (0 : Int64)), .second, .val (.long ((q1 &&& (9223372036854775807 : Int64)) - (0 : Int64))), .second, .unset, .unset, .unset, .unset, .unset, .unset] [])) _
    refine XS.lload X10.here hx rfl (hb hby at_113) rfl ?_
    show Steps p.tables e below (T10.setTop (mkF m 115 #[.val (.long q1), .second, .val (.long q2), .second, .val (.long q3), .second, .val (.int p4), .val (.long (q1 &&& (9223372036854775807 : Int64))), .second, .val (.ref b5), .val (.long x1), .second, .val (.int (0 : Int32)), .val (.int (0 : Int32)), .val (.long (0 : Int64)), .second, .val (.long ((q1 &&& (9223372036854775807 : Int64)) - (0 : Int64))), .second, .unset, .unset, .unset, .unset, .unset, .unset] [(.long q3)])) _
    refine XS.lload X10.here hx rfl (hb hby at_115) rfl ?_
    show Steps p.tables e below (T10.setTop (mkF m 117 #[.val (.long q1), .second, .val (.long q2), .second, .val (.long q3), .second, .val (.int p4), .val (.long (q1 &&& (9223372036854775807 : Int64))), .second, .val (.ref b5), .val (.long x1), .second, .val (.int (0 : Int32)), .val (.int (0 : Int32)), .val (.long (0 : Int64)), .second, .val (.long ((q1 &&& (9223372036854775807 : Int64)) - (0 : Int64))), .second, .unset, .unset, .unset, .unset, .unset, .unset] [(.long ((q1 &&& (9223372036854775807 : Int64)) - (0 : Int64))), (.long q3)])) _
    refine XS.iload X10.here hx rfl (hb hby at_117) rfl ?_
    show Steps p.tables e below (T10.setTop (mkF m 119 #[.val (.long q1), .second, .val (.long q2), .second, .val (.long q3), .second, .val (.int p4), .val (.long (q1 &&& (9223372036854775807 : Int64))), .second, .val (.ref b5), .val (.long x1), .second, .val (.int (0 : Int32)), .val (.int (0 : Int32)), .val (.long (0 : Int64)), .second, .val (.long ((q1 &&& (9223372036854775807 : Int64)) - (0 : Int64))), .second, .unset, .unset, .unset, .unset, .unset, .unset] [(.int p4), (.long ((q1 &&& (9223372036854775807 : Int64)) - (0 : Int64))), (.long q3)])) _
    refine XS.iconst X10.here hx rfl (hb hby at_119) ?_
    show Steps p.tables e below (T10.setTop (mkF m 120 #[.val (.long q1), .second, .val (.long q2), .second, .val (.long q3), .second, .val (.int p4), .val (.long (q1 &&& (9223372036854775807 : Int64))), .second, .val (.ref b5), .val (.long x1), .second, .val (.int (0 : Int32)), .val (.int (0 : Int32)), .val (.long (0 : Int64)), .second, .val (.long ((q1 &&& (9223372036854775807 : Int64)) - (0 : Int64))), .second, .unset, .unset, .unset, .unset, .unset, .unset] [(.int (3 : Int32)), (.int p4), (.long ((q1 &&& (9223372036854775807 : Int64)) - (0 : Int64))), (.long q3)])) _
    refine XS.iushr X10.here hx rfl (hb hby at_120) rfl ?_
    show Steps p.tables e below (T10.setTop (mkF m 121 #[.val (.long q1), .second, .val (.long q2), .second, .val (.long q3), .second, .val (.int p4), .val (.long (q1 &&& (9223372036854775807 : Int64))), .second, .val (.ref b5), .val (.long x1), .second, .val (.int (0 : Int32)), .val (.int (0 : Int32)), .val (.long (0 : Int64)), .second, .val (.long ((q1 &&& (9223372036854775807 : Int64)) - (0 : Int64))), .second, .unset, .unset, .unset, .unset, .unset, .unset] [(.int ((p4.toUInt32 >>> ((3 : Int32) &&& 31).toUInt32).toInt32)), (.long ((q1 &&& (9223372036854775807 : Int64)) - (0 : Int64))), (.long q3)])) _
    refine XS.bipush X10.here hx rfl (hb hby at_121) ?_
    show Steps p.tables e below (T10.setTop (mkF m 123 #[.val (.long q1), .second, .val (.long q2), .second, .val (.long q3), .second, .val (.int p4), .val (.long (q1 &&& (9223372036854775807 : Int64))), .second, .val (.ref b5), .val (.long x1), .second, .val (.int (0 : Int32)), .val (.int (0 : Int32)), .val (.long (0 : Int64)), .second, .val (.long ((q1 &&& (9223372036854775807 : Int64)) - (0 : Int64))), .second, .unset, .unset, .unset, .unset, .unset, .unset] [(.int (7 : Int32)), (.int ((p4.toUInt32 >>> ((3 : Int32) &&& 31).toUInt32).toInt32)), (.long ((q1 &&& (9223372036854775807 : Int64)) - (0 : Int64))), (.long q3)])) _
    refine XS.iand X10.here hx rfl (hb hby at_123) rfl ?_
    show Steps p.tables e below (T10.setTop (mkF m 124 #[.val (.long q1), .second, .val (.long q2), .second, .val (.long q3), .second, .val (.int p4), .val (.long (q1 &&& (9223372036854775807 : Int64))), .second, .val (.ref b5), .val (.long x1), .second, .val (.int (0 : Int32)), .val (.int (0 : Int32)), .val (.long (0 : Int64)), .second, .val (.long ((q1 &&& (9223372036854775807 : Int64)) - (0 : Int64))), .second, .unset, .unset, .unset, .unset, .unset, .unset] [(.int (((p4.toUInt32 >>> ((3 : Int32) &&& 31).toUInt32).toInt32) &&& (7 : Int32))), (.long ((q1 &&& (9223372036854775807 : Int64)) - (0 : Int64))), (.long q3)])) _
    refine st11 _ ?_
    show Steps p.tables e below (T11.setTop (mkF m 127 #[.val (.long q1), .second, .val (.long q2), .second, .val (.long q3), .second, .val (.int p4), .val (.long (q1 &&& (9223372036854775807 : Int64))), .second, .val (.ref b5), .val (.long x1), .second, .val (.int (0 : Int32)), .val (.int (0 : Int32)), .val (.long (0 : Int64)), .second, .val (.long ((q1 &&& (9223372036854775807 : Int64)) - (0 : Int64))), .second, .unset, .unset, .unset, .unset, .unset, .unset] [(.long x2)])) _
    refine XS.lstore X11.here hx rfl (hb hby at_127) rfl (l' := #[.val (.long q1), .second, .val (.long q2), .second, .val (.long q3), .second, .val (.int p4), .val (.long (q1 &&& (9223372036854775807 : Int64))), .second, .val (.ref b5), .val (.long x1), .second, .val (.int (0 : Int32)), .val (.int (0 : Int32)), .val (.long (0 : Int64)), .second, .val (.long ((q1 &&& (9223372036854775807 : Int64)) - (0 : Int64))), .second, .val (.long x2), .second, .unset, .unset, .unset, .unset]) rfl ?_
    show Steps p.tables e below (T11.setTop (mkF m 129 #[.val (.long q1), .second, .val (.long q2), .second, .val (.long q3), .second, .val (.int p4), .val (.long (q1 &&& (9223372036854775807 : Int64))), .second, .val (.ref b5), .val (.long x1), .second, .val (.int (0 : Int32)), .val (.int (0 : Int32)), .val (.long (0 : Int64)), .second, .val (.long ((q1 &&& (9223372036854775807 : Int64)) - (0 : Int64))), .second, .val (.long x2), .second, .unset, .unset, .unset, .unset] [])) _
    refine XS.aload X11.here hx rfl (hb hby at_129) rfl rfl ?_
    show Steps p.tables e below (T11.setTop (mkF m 131 #[.val (.long q1), .second, .val (.long q2), .second, .val (.long q3), .second, .val (.int p4), .val (.long (q1 &&& (9223372036854775807 : Int64))), .second, .val (.ref b5), .val (.long x1), .second, .val (.int (0 : Int32)), .val (.int (0 : Int32)), .val (.long (0 : Int64)), .second, .val (.long ((q1 &&& (9223372036854775807 : Int64)) - (0 : Int64))), .second, .val (.long x2), .second, .unset, .unset, .unset, .unset] [(.ref b5)])) _
    refine XS.lload X11.here hx rfl (hb hby at_131) rfl ?_
    show Steps p.tables e below (T11.setTop (mkF m 133 #[.val (.long q1), .second, .val (.long q2), .second, .val (.long q3), .second, .val (.int p4), .val (.long (q1 &&& (9223372036854775807 : Int64))), .second, .val (.ref b5), .val (.long x1), .second, .val (.int (0 : Int32)), .val (.int (0 : Int32)), .val (.long (0 : Int64)), .second, .val (.long ((q1 &&& (9223372036854775807 : Int64)) - (0 : Int64))), .second, .val (.long x2), .second, .unset, .unset, .unset, .unset] [(.long x2), (.ref b5)])) _
    refine st12.trans ?_
    show Steps p.tables e below (T12.setTop (mkF m 136 #[.val (.long q1), .second, .val (.long q2), .second, .val (.long q3), .second, .val (.int p4), .val (.long (q1 &&& (9223372036854775807 : Int64))), .second, .val (.ref b5), .val (.long x1), .second, .val (.int (0 : Int32)), .val (.int (0 : Int32)), .val (.long (0 : Int64)), .second, .val (.long ((q1 &&& (9223372036854775807 : Int64)) - (0 : Int64))), .second, .val (.long x2), .second, .unset, .unset, .unset, .unset] [(.int (1 : Int32))])) _
    refine XS.istore X12.here hx rfl (hb hby at_136) rfl (l' := #[.val (.long q1), .second, .val (.long q2), .second, .val (.long q3), .second, .val (.int p4), .val (.long (q1 &&& (9223372036854775807 : Int64))), .second, .val (.ref b5), .val (.long x1), .second, .val (.int (0 : Int32)), .val (.int (0 : Int32)), .val (.long (0 : Int64)), .second, .val (.long ((q1 &&& (9223372036854775807 : Int64)) - (0 : Int64))), .second, .val (.long x2), .second, .val (.int (1 : Int32)), .unset, .unset, .unset]) rfl ?_
    show Steps p.tables e below (T12.setTop (mkF m 138 #[.val (.long q1), .second, .val (.long q2), .second, .val (.long q3), .second, .val (.int p4), .val (.long (q1 &&& (9223372036854775807 : Int64))), .second, .val (.ref b5), .val (.long x1), .second, .val (.int (0 : Int32)), .val (.int (0 : Int32)), .val (.long (0 : Int64)), .second, .val (.long ((q1 &&& (9223372036854775807 : Int64)) - (0 : Int64))), .second, .val (.long x2), .second, .val (.int (1 : Int32)), .unset, .unset, .unset] [])) _
    refine XS.lload X12.here hx rfl (hb hby at_138) rfl ?_
    show Steps p.tables e below (T12.setTop (mkF m 140 #[.val (.long q1), .second, .val (.long q2), .second, .val (.long q3), .second, .val (.int p4), .val (.long (q1 &&& (9223372036854775807 : Int64))), .second, .val (.ref b5), .val (.long x1), .second, .val (.int (0 : Int32)), .val (.int (0 : Int32)), .val (.long (0 : Int64)), .second, .val (.long ((q1 &&& (9223372036854775807 : Int64)) - (0 : Int64))), .second, .val (.long x2), .second, .val (.int (1 : Int32)), .unset, .unset, .unset] [(.long x2)])) _
    refine XS.lload X12.here hx rfl (hb hby at_140) rfl ?_
    show Steps p.tables e below (T12.setTop (mkF m 142 #[.val (.long q1), .second, .val (.long q2), .second, .val (.long q3), .second, .val (.int p4), .val (.long (q1 &&& (9223372036854775807 : Int64))), .second, .val (.ref b5), .val (.long x1), .second, .val (.int (0 : Int32)), .val (.int (0 : Int32)), .val (.long (0 : Int64)), .second, .val (.long ((q1 &&& (9223372036854775807 : Int64)) - (0 : Int64))), .second, .val (.long x2), .second, .val (.int (1 : Int32)), .unset, .unset, .unset] [(.long ((q1 &&& (9223372036854775807 : Int64)) - (0 : Int64))), (.long x2)])) _
    refine XS.lcmp X12.here hx rfl (hb hby at_142) rfl ?_
    show Steps p.tables e below (T12.setTop (mkF m 143 #[.val (.long q1), .second, .val (.long q2), .second, .val (.long q3), .second, .val (.int p4), .val (.long (q1 &&& (9223372036854775807 : Int64))), .second, .val (.ref b5), .val (.long x1), .second, .val (.int (0 : Int32)), .val (.int (0 : Int32)), .val (.long (0 : Int64)), .second, .val (.long ((q1 &&& (9223372036854775807 : Int64)) - (0 : Int64))), .second, .val (.long x2), .second, .val (.int (1 : Int32)), .unset, .unset, .unset] [(.int (lcmpW x2 ((q1 &&& (9223372036854775807 : Int64)) - (0 : Int64))))])) _
    refine XS.ifNo X12.here hx rfl (hb hby at_143) rfl ((if0 _ _).trans (flt (h2 : ¬ ((0 : Int32) < (lcmpW x2 ((q1 &&& (9223372036854775807 : Int64)) - (0 : Int64)))))).2.2.1) ?_
    show Steps p.tables e below (T12.setTop (mkF m 146 #[.val (.long q1), .second, .val (.long q2), .second, .val (.long q3), .second, .val (.int p4), .val (.long (q1 &&& (9223372036854775807 : Int64))), .second, .val (.ref b5), .val (.long x1), .second, .val (.int (0 : Int32)), .val (.int (0 : Int32)), .val (.long (0 : Int64)), .second, .val (.long ((q1 &&& (9223372036854775807 : Int64)) - (0 : Int64))), .second, .val (.long x2), .second, .val (.int (1 : Int32)), .unset, .unset, .unset] [])) _
    refine XS.iconst X12.here hx rfl (hb hby at_146) ?_
    show Steps p.tables e below (T12.setTop (mkF m 147 #[.val (.long q1), .second, .val (.long q2), .second, .val (.long q3), .second, .val (.int p4), .val (.long (q1 &&& (9223372036854775807 : Int64))), .second, .val (.ref b5), .val (.long x1), .second, .val (.int (0 : Int32)), .val (.int (0 : Int32)), .val (.long (0 : Int64)), .second, .val (.long ((q1 &&& (9223372036854775807 : Int64)) - (0 : Int64))), .second, .val (.long x2), .second, .val (.int (1 : Int32)), .unset, .unset, .unset] [(.int (1 : Int32))])) _
    refine XS.goto X12.here hx rfl (pc0 := 147) (pc' := 151) rfl (hb hby at_147) (by decide) (by decide) ?_
    show Steps p.tables e below (T12.setTop (mkF m 151 #[.val (.long q1), .second, .val (.long q2), .second, .val (.long q3), .second, .val (.int p4), .val (.long (q1 &&& (9223372036854775807 : Int64))), .second, .val (.ref b5), .val (.long x1), .second, .val (.int (0 : Int32)), .val (.int (0 : Int32)), .val (.long (0 : Int64)), .second, .val (.long ((q1 &&& (9223372036854775807 : Int64)) - (0 : Int64))), .second, .val (.long x2), .second, .val (.int (1 : Int32)), .unset, .unset, .unset] [(.int (1 : Int32))])) _
    refine XS.istore X12.here hx rfl (hb hby at_151) rfl (l' := #[.val (.long q1), .second, .val (.long q2), .second, .val (.long q3), .second, .val (.int p4), .val (.long (q1 &&& (9223372036854775807 : Int64))), .second, .val (.ref b5), .val (.long x1), .second, .val (.int (0 : Int32)), .val (.int (0 : Int32)), .val (.long (0 : Int64)), .second, .val (.long ((q1 &&& (9223372036854775807 : Int64)) - (0 : Int64))), .second, .val (.long x2), .second, .val (.int (1 : Int32)), .val (.int (1 : Int32)), .unset, .unset]) rfl ?_
    show Steps p.tables e below (T12.setTop (mkF m 153 #[.val (.long q1), .second, .val (.long q2), .second, .val (.long q3), .second, .val (.int p4), .val (.long (q1 &&& (9223372036854775807 : Int64))), .second, .val (.ref b5), .val (.long x1), .second, .val (.int (0 : Int32)), .val (.int (0 : Int32)), .val (.long (0 : Int64)), .second, .val (.long ((q1 &&& (9223372036854775807 : Int64)) - (0 : Int64))), .second, .val (.long x2), .second, .val (.int (1 : Int32)), .val (.int (1 : Int32)), .unset, .unset] [])) _
    refine XS.iload X12.here hx rfl (hb hby at_153) rfl ?_
    show Steps p.tables e below (T12.setTop (mkF m 155 #[.val (.long q1), .second, .val (.long q2), .second, .val (.long q3), .second, .val (.int p4), .val (.long (q1 &&& (9223372036854775807 : Int64))), .second, .val (.ref b5), .val (.long x1), .second, .val (.int (0 : Int32)), .val (.int (0 : Int32)), .val (.long (0 : Int64)), .second, .val (.long ((q1 &&& (9223372036854775807 : Int64)) - (0 : Int64))), .second, .val (.long x2), .second, .val (.int (1 : Int32)), .val (.int (1 : Int32)), .unset, .unset] [(.int (1 : Int32))])) _
    refine XS.ifNo X12.here hx rfl (hb hby at_155) rfl ((if0 _ _).trans (feq hc155).1) ?_
    show Steps p.tables e below (T12.setTop (mkF m 158 #[.val (.long q1), .second, .val (.long q2), .second, .val (.long q3), .second, .val (.int p4), .val (.long (q1 &&& (9223372036854775807 : Int64))), .second, .val (.ref b5), .val (.long x1), .second, .val (.int (0 : Int32)), .val (.int (0 : Int32)), .val (.long (0 : Int64)), .second, .val (.long ((q1 &&& (9223372036854775807 : Int64)) - (0 : Int64))), .second, .val (.long x2), .second, .val (.int (1 : Int32)), .val (.int (1 : Int32)), .unset, .unset] [])) _
    refine XS.lload X12.here hx rfl (hb hby at_158) rfl ?_
    show Steps p.tables e below (T12.setTop (mkF m 160 #[.val (.long q1), .second, .val (.long q2), .second, .val (.long q3), .second, .val (.int p4), .val (.long (q1 &&& (9223372036854775807 : Int64))), .second, .val (.ref b5), .val (.long x1), .second, .val (.int (0 : Int32)), .val (.int (0 : Int32)), .val (.long (0 : Int64)), .second, .val (.long ((q1 &&& (9223372036854775807 : Int64)) - (0 : Int64))), .second, .val (.long x2), .second, .val (.int (1 : Int32)), .val (.int (1 : Int32)), .unset, .unset] [(.long (0 : Int64))])) _
    refine XS.lload X12.here hx rfl (hb hby at_160) rfl ?_
    show Steps p.tables e below (T12.setTop (mkF m 162 #[.val (.long q1), .second, .val (.long q2), .second, .val (.long q3), .second, .val (.int p4), .val (.long (q1 &&& (9223372036854775807 : Int64))), .second, .val (.ref b5), .val (.long x1), .second, .val (.int (0 : Int32)), .val (.int (0 : Int32)), .val (.long (0 : Int64)), .second, .val (.long ((q1 &&& (9223372036854775807 : Int64)) - (0 : Int64))), .second, .val (.long x2), .second, .val (.int (1 : Int32)), .val (.int (1 : Int32)), .unset, .unset] [(.long x2), (.long (0 : Int64))])) _
    refine XS.ladd X12.here hx rfl (hb hby at_162) rfl ?_
    show Steps p.tables e below (T12.setTop (mkF m 163 #[.val (.long q1), .second, .val (.long q2), .second, .val (.long q3), .second, .val (.int p4), .val (.long (q1 &&& (9223372036854775807 : Int64))), .second, .val (.ref b5), .val (.long x1), .second, .val (.int (0 : Int32)), .val (.int (0 : Int32)), .val (.long (0 : Int64)), .second, .val (.long ((q1 &&& (9223372036854775807 : Int64)) - (0 : Int64))), .second, .val (.long x2), .second, .val (.int (1 : Int32)), .val (.int (1 : Int32)), .unset, .unset] [(.long ((0 : Int64) + x2))])) _
    refine XS.goto X12.here hx rfl (pc0 := 163) (pc' := 168) rfl (hb hby at_163) (by decide) (by decide) ?_
    show Steps p.tables e below (T12.setTop (mkF m 168 #[.val (.long q1), .second, .val (.long q2), .second, .val (.long q3), .second, .val (.int p4), .val (.long (q1 &&& (9223372036854775807 : Int64))), .second, .val (.ref b5), .val (.long x1), .second, .val (.int (0 : Int32)), .val (.int (0 : Int32)), .val (.long (0 : Int64)), .second, .val (.long ((q1 &&& (9223372036854775807 : Int64)) - (0 : Int64))), .second, .val (.long x2), .second, .val (.int (1 : Int32)), .val (.int (1 : Int32)), .unset, .unset] [(.long ((0 : Int64) + x2))])) _
    refine XS.lstore X12.here hx rfl (hb hby at_168) rfl (l' := #[.val (.long q1), .second, .val (.long q2), .second, .val (.long q3), .second, .val (.int p4), .val (.long (q1 &&& (9223372036854775807 : Int64))), .second, .val (.ref b5), .val (.long x1), .second, .val (.int (0 : Int32)), .val (.int (0 : Int32)), .val (.long (0 : Int64)), .second, .val (.long ((q1 &&& (9223372036854775807 : Int64)) - (0 : Int64))), .second, .val (.long x2), .second, .val (.int (1 : Int32)), .val (.int (1 : Int32)), .val (.long ((0 : Int64) + x2)), .second]) rfl ?_
    show Steps p.tables e below (T12.setTop (mkF m 170 #[.val (.long q1), .second, .val (.long q2), .second, .val (.long q3), .second, .val (.int p4), .val (.long (q1 &&& (9223372036854775807 : Int64))), .second, .val (.ref b5), .val (.long x1), .second, .val (.int (0 : Int32)), .val (.int (0 : Int32)), .val (.long (0 : Int64)), .second, .val (.long ((q1 &&& (9223372036854775807 : Int64)) - (0 : Int64))), .second, .val (.long x2), .second, .val (.int (1 : Int32)), .val (.int (1 : Int32)), .val (.long ((0 : Int64) + x2)), .second] [])) _
    refine XS.iload X12.here hx rfl (hb hby at_170) rfl ?_
    show Steps p.tables e below (T12.setTop (mkF m 172 #[.val (.long q1), .second, .val (.long q2), .second, .val (.long q3), .second, .val (.int p4), .val (.long (q1 &&& (9223372036854775807 : Int64))), .second, .val (.ref b5), .val (.long x1), .second, .val (.int (0 : Int32)), .val (.int (0 : Int32)), .val (.long (0 : Int64)), .second, .val (.long ((q1 &&& (9223372036854775807 : Int64)) - (0 : Int64))), .second, .val (.long x2), .second, .val (.int (1 : Int32)), .val (.int (1 : Int32)), .val (.long ((0 : Int64) + x2)), .second] [(.int (1 : Int32))])) _
    refine XS.iload X12.here hx rfl (hb hby at_172) rfl ?_
    show Steps p.tables e below (T12.setTop (mkF m 174 #[.val (.long q1), .second, .val (.long q2), .second, .val (.long q3), .second, .val (.int p4), .val (.long (q1 &&& (9223372036854775807 : Int64))), .second, .val (.ref b5), .val (.long x1), .second, .val (.int (0 : Int32)), .val (.int (0 : Int32)), .val (.long (0 : Int64)), .second, .val (.long ((q1 &&& (9223372036854775807 : Int64)) - (0 : Int64))), .second, .val (.long x2), .second, .val (.int (1 : Int32)), .val (.int (1 : Int32)), .val (.long ((0 : Int64) + x2)), .second] [(.int (1 : Int32)), (.int (1 : Int32))])) _
    refine XS.icmpNo X12.here hx rfl (hb hby at_174) rfl (teq (rfl : (1 : Int32) = (1 : Int32))).2 ?_
    show Steps p.tables e below (T12.setTop (mkF m 177 #[.val (.long q1), .second, .val (.long q2), .second, .val (.long q3), .second, .val (.int p4), .val (.long (q1 &&& (9223372036854775807 : Int64))), .second, .val (.ref b5), .val (.long x1), .second, .val (.int (0 : Int32)), .val (.int (0 : Int32)), .val (.long (0 : Int64)), .second, .val (.long ((q1 &&& (9223372036854775807 : Int64)) - (0 : Int64))), .second, .val (.long x2), .second, .val (.int (1 : Int32)), .val (.int (1 : Int32)), .val (.long ((0 : Int64) + x2)), .second] [])) _
    refine XS.aload X12.here hx rfl (hb hby at_177) rfl rfl ?_
    show Steps p.tables e below (T12.setTop (mkF m 179 #[.val (.long q1), .second, .val (.long q2), .second, .val (.long q3), .second, .val (.int p4), .val (.long (q1 &&& (9223372036854775807 : Int64))), .second, .val (.ref b5), .val (.long x1), .second, .val (.int (0 : Int32)), .val (.int (0 : Int32)), .val (.long (0 : Int64)), .second, .val (.long ((q1 &&& (9223372036854775807 : Int64)) - (0 : Int64))), .second, .val (.long x2), .second, .val (.int (1 : Int32)), .val (.int (1 : Int32)), .val (.long ((0 : Int64) + x2)), .second] [(.ref b5)])) _
    refine st13.trans ?_
    show Steps p.tables e below (T13.setTop (mkF m 182 #[.val (.long q1), .second, .val (.long q2), .second, .val (.long q3), .second, .val (.int p4), .val (.long (q1 &&& (9223372036854775807 : Int64))), .second, .val (.ref b5), .val (.long x1), .second, .val (.int (0 : Int32)), .val (.int (0 : Int32)), .val (.long (0 : Int64)), .second, .val (.long ((q1 &&& (9223372036854775807 : Int64)) - (0 : Int64))), .second, .val (.long x2), .second, .val (.int (1 : Int32)), .val (.int (1 : Int32)), .val (.long ((0 : Int64) + x2)), .second] [(.long ((0 : Int64) + x2))])) _
    refine XS.lload X13.here hx rfl (hb hby at_182) rfl ?_
    show Steps p.tables e below (T13.setTop (mkF m 184 #[.val (.long q1), .second, .val (.long q2), .second, .val (.long q3), .second, .val (.int p4), .val (.long (q1 &&& (9223372036854775807 : Int64))), .second, .val (.ref b5), .val (.long x1), .second, .val (.int (0 : Int32)), .val (.int (0 : Int32)), .val (.long (0 : Int64)), .second, .val (.long ((q1 &&& (9223372036854775807 : Int64)) - (0 : Int64))), .second, .val (.long x2), .second, .val (.int (1 : Int32)), .val (.int (1 : Int32)), .val (.long ((0 : Int64) + x2)), .second] [(.long ((0 : Int64) + x2)), (.long ((0 : Int64) + x2))])) _
    refine XS.lcmp X13.here hx rfl (hb hby at_184) rfl ?_
    show Steps p.tables e below (T13.setTop (mkF m 185 #[.val (.long q1), .second, .val (.long q2), .second, .val (.long q3), .second, .val (.int p4), .val (.long (q1 &&& (9223372036854775807 : Int64))), .second, .val (.ref b5), .val (.long x1), .second, .val (.int (0 : Int32)), .val (.int (0 : Int32)), .val (.long (0 : Int64)), .second, .val (.long ((q1 &&& (9223372036854775807 : Int64)) - (0 : Int64))), .second, .val (.long x2), .second, .val (.int (1 : Int32)), .val (.int (1 : Int32)), .val (.long ((0 : Int64) + x2)), .second] [(.int (lcmpW ((0 : Int64) + x2) ((0 : Int64) + x2)))])) _
    refine XS.ifNo X13.here hx rfl (hb hby at_185) rfl ((if0 _ _).trans (teq ((lw_eq _ _).mpr rfl : (lcmpW ((0 : Int64) + x2) ((0 : Int64) + x2)) = (0 : Int32))).2) ?_
    show Steps p.tables e below (T13.setTop (mkF m 188 #[.val (.long q1), .second, .val (.long q2), .second, .val (.long q3), .second, .val (.int p4), .val (.long (q1 &&& (9223372036854775807 : Int64))), .second, .val (.ref b5), .val (.long x1), .second, .val (.int (0 : Int32)), .val (.int (0 : Int32)), .val (.long (0 : Int64)), .second, .val (.long ((q1 &&& (9223372036854775807 : Int64)) - (0 : Int64))), .second, .val (.long x2), .second, .val (.int (1 : Int32)), .val (.int (1 : Int32)), .val (.long ((0 : Int64) + x2)), .second] [])) _
    refine XS.aload X13.here hx rfl (hb hby at_188) rfl rfl ?_
    show Steps p.tables e below (T13.setTop (mkF m 190 #[.val (.long q1), .second, .val (.long q2), .second, .val (.long q3), .second, .val (.int p4), .val (.long (q1 &&& (9223372036854775807 : Int64))), .second, .val (.ref b5), .val (.long x1), .second, .val (.int (0 : Int32)), .val (.int (0 : Int32)), .val (.long (0 : Int64)), .second, .val (.long ((q1 &&& (9223372036854775807 : Int64)) - (0 : Int64))), .second, .val (.long x2), .second, .val (.int (1 : Int32)), .val (.int (1 : Int32)), .val (.long ((0 : Int64) + x2)), .second] [(.ref b5)])) _
    refine st14.trans ?_
    show Steps p.tables e below (T14.setTop (mkF m 193 #[.val (.long q1), .second, .val (.long q2), .second, .val (.long q3), .second, .val (.int p4), .val (.long (q1 &&& (9223372036854775807 : Int64))), .second, .val (.ref b5), .val (.long x1), .second, .val (.int (0 : Int32)), .val (.int (0 : Int32)), .val (.long (0 : Int64)), .second, .val (.long ((q1 &&& (9223372036854775807 : Int64)) - (0 : Int64))), .second, .val (.long x2), .second, .val (.int (1 : Int32)), .val (.int (1 : Int32)), .val (.long ((0 : Int64) + x2)), .second] [(.int (1 : Int32))])) _
    refine XS.iload X14.here hx rfl (hb hby at_193) rfl ?_
    show Steps p.tables e below (T14.setTop (mkF m 195 #[.val (.long q1), .second, .val (.long q2), .second, .val (.long q3), .second, .val (.int p4), .val (.long (q1 &&& (9223372036854775807 : Int64))), .second, .val (.ref b5), .val (.long x1), .second, .val (.int (0 : Int32)), .val (.int (0 : Int32)), .val (.long (0 : Int64)), .second, .val (.long ((q1 &&& (9223372036854775807 : Int64)) - (0 : Int64))), .second, .val (.long x2), .second, .val (.int (1 : Int32)), .val (.int (1 : Int32)), .val (.long ((0 : Int64) + x2)), .second] [(.int (0 : Int32)), (.int (1 : Int32))])) _
    refine XS.ifYes X14.here hx rfl (pc0 := 195) (pc' := 203) rfl (hb hby at_195) rfl ((if0 _ _).trans (teq (rfl : (0 : Int32) = (0 : Int32))).1) (by decide) (by decide) ?_
    show Steps p.tables e below (T14.setTop (mkF m 203 #[.val (.long q1), .second, .val (.long q2), .second, .val (.long q3), .second, .val (.int p4), .val (.long (q1 &&& (9223372036854775807 : Int64))), .second, .val (.ref b5), .val (.long x1), .second, .val (.int (0 : Int32)), .val (.int (0 : Int32)), .val (.long (0 : Int64)), .second, .val (.long ((q1 &&& (9223372036854775807 : Int64)) - (0 : Int64))), .second, .val (.long x2), .second, .val (.int (1 : Int32)), .val (.int (1 : Int32)), .val (.long ((0 : Int64) + x2)), .second] [(.int (1 : Int32))])) _
    refine XS.iconst X14.here hx rfl (hb hby at_203) ?_
    show Steps p.tables e below (T14.setTop (mkF m 204 #[.val (.long q1), .second, .val (.long q2), .second, .val (.long q3), .second, .val (.int p4), .val (.long (q1 &&& (9223372036854775807 : Int64))), .second, .val (.ref b5), .val (.long x1), .second, .val (.int (0 : Int32)), .val (.int (0 : Int32)), .val (.long (0 : Int64)), .second, .val (.long ((q1 &&& (9223372036854775807 : Int64)) - (0 : Int64))), .second, .val (.long x2), .second, .val (.int (1 : Int32)), .val (.int (1 : Int32)), .val (.long ((0 : Int64) + x2)), .second] [(.int (1 : Int32)), (.int (1 : Int32))])) _
    refine XS.goto X14.here hx rfl (pc0 := 204) (pc' := 208) rfl (hb hby at_204) (by decide) (by decide) ?_
    show Steps p.tables e below (T14.setTop (mkF m 208 #[.val (.long q1), .second, .val (.long q2), .second, .val (.long q3), .second, .val (.int p4), .val (.long (q1 &&& (9223372036854775807 : Int64))), .second, .val (.ref b5), .val (.long x1), .second, .val (.int (0 : Int32)), .val (.int (0 : Int32)), .val (.long (0 : Int64)), .second, .val (.long ((q1 &&& (9223372036854775807 : Int64)) - (0 : Int64))), .second, .val (.long x2), .second, .val (.int (1 : Int32)), .val (.int (1 : Int32)), .val (.long ((0 : Int64) + x2)), .second] [(.int (1 : Int32)), (.int (1 : Int32))])) _
    refine XS.icmpNo X14.here hx rfl (hb hby at_208) rfl (teq (rfl : (1 : Int32) = (1 : Int32))).2 ?_
    show Steps p.tables e below (T14.setTop (mkF m 211 #[.val (.long q1), .second, .val (.long q2), .second, .val (.long q3), .second, .val (.int p4), .val (.long (q1 &&& (9223372036854775807 : Int64))), .second, .val (.ref b5), .val (.long x1), .second, .val (.int (0 : Int32)), .val (.int (0 : Int32)), .val (.long (0 : Int64)), .second, .val (.long ((q1 &&& (9223372036854775807 : Int64)) - (0 : Int64))), .second, .val (.long x2), .second, .val (.int (1 : Int32)), .val (.int (1 : Int32)), .val (.long ((0 : Int64) + x2)), .second] [])) _
    refine XS.iconst X14.here hx rfl (hb hby at_211) ?_
    show Steps p.tables e below (T14.setTop (mkF m 212 #[.val (.long q1), .second, .val (.long q2), .second, .val (.long q3), .second, .val (.int p4), .val (.long (q1 &&& (9223372036854775807 : Int64))), .second, .val (.ref b5), .val (.long x1), .second, .val (.int (0 : Int32)), .val (.int (0 : Int32)), .val (.long (0 : Int64)), .second, .val (.long ((q1 &&& (9223372036854775807 : Int64)) - (0 : Int64))), .second, .val (.long x2), .second, .val (.int (1 : Int32)), .val (.int (1 : Int32)), .val (.long ((0 : Int64) + x2)), .second] [(.int (1 : Int32))])) _
    refine XS.goto X14.here hx rfl (pc0 := 212) (pc' := 216) rfl (hb hby at_212) (by decide) (by decide) ?_
    show Steps p.tables e below (T14.setTop (mkF m 216 #[.val (.long q1), .second, .val (.long q2), .second, .val (.long q3), .second, .val (.int p4), .val (.long (q1 &&& (9223372036854775807 : Int64))), .second, .val (.ref b5), .val (.long x1), .second, .val (.int (0 : Int32)), .val (.int (0 : Int32)), .val (.long (0 : Int64)), .second, .val (.long ((q1 &&& (9223372036854775807 : Int64)) - (0 : Int64))), .second, .val (.long x2), .second, .val (.int (1 : Int32)), .val (.int (1 : Int32)), .val (.long ((0 : Int64) + x2)), .second] [(.int (1 : Int32))])) _
    exact retN X14 hx (t := .boolean) Bd.returns (by simp) (hb hby at_216) hr
  · show Q0 Z q1 q2 q3 p4 h0 n0 _ T14.heap _
    exact ⟨rfl, N14⟩
set_option maxRecDepth 65536 in
set_option maxHeartbeats 40000000 in
theorem rm0_ttffftttfftf (l : Launch) (Z : State) (a0 : Array Value) (hw : ∀ d ∈ tables_1, d.before a0 Z = true) (ws : List Jvm.Cond) (q1 : Int64) (q2 : Int64) (q3 : Int64) (p4 : Int32) (x1 x2 : Int64) (h0 : Heap) (n0 : Nat) (Z0 : n0 ≤ h0.size) (hx1 : F3 q2 (q1 &&& (9223372036854775807 : Int64)) (p4 &&& (7 : Int32)) = x1) (hx2 : F3 q3 ((q1 &&& (9223372036854775807 : Int64)) - (0 : Int64)) (((p4.toUInt32 >>> ((3 : Int32) &&& 31).toUInt32).toInt32) &&& (7 : Int32)) = x2) (h1 : (0 : Int32) < (lcmpW x1 (q1 &&& (9223372036854775807 : Int64)))) (h2 : (0 : Int32) < (lcmpW x2 ((q1 &&& (9223372036854775807 : Int64)) - (0 : Int64))))  :
    MetFree l x (head1 (Jvm.Cond.code x code maxLocals ret :: ws) room_1) (fun a U => a = #[(.long q1), (.long q2), (.long q3), (.int p4)] ∧ Z.Warmed39 U.vm ∧ U.heap = h0) (fun _ _ _ _ _ => True) (fun _ U o U' => ∃ v L, o = .returned v ∧ Q0 Z q1 q2 q3 p4 h0 n0 v U'.heap L ∧ FrameEnd U o U' L room_1.cells room_1.slots) := by
  refine MetFree.of_bodySF (plainFor_of_name pn_0) hisR ?_
  intro p e s m args below meth c s₁ Bd hml0 hP hK
  obtain ⟨rfl, hZ, hh⟩ := hP
  have hx := Bd.exec
  have hby := Bd.bytes
  have hml : c.maxLocals = 24 := hml0
  have hown : s.vm.findClass "com/example/exact_anchor/exactanchor/search/BudgetSpendPinLaw" = some m.cls := findClass_of_methodNamed Bd.named
  have hnm := (name_of_methodNamed Bd.named Bd.method).1
  have X0 : Stand p l e room_1 s m #[(.long q1), (.long q2), (.long q3), (.int p4)] below meth c s₁ [] 0 0 := Stand.of_body Bd
  have e0 : s₁.heap = h0 := by rw [← hh, Bd.state]; rfl
  have N0 := Fr.nil n0
  have pre0 : ∀ t, Steps p.tables e below (s₁.setTop (mkF m 0 #[.val (.long q1), .second, .val (.long q2), .second, .val (.long q3), .second, .val (.int p4), .unset, .unset, .unset, .unset, .unset, .unset, .unset, .unset, .unset, .unset, .unset, .unset, .unset, .unset, .unset, .unset, .unset] [])) t → Steps p.tables e below (s₁.setTop (entryFrame m #[(.long q1), (.long q2), (.long q3), (.int p4)] maxLocals)) t := fun t k => castTop (ef_0 m q1 q2 q3 p4) k
  -- 3. LAWS
  obtain ⟨T5, h5, X5, e5, E5, A5, D5, -, st5⟩ := newO X0 hx hZ hown (hw _ (List.mem_of_getElem? (i := 1) rfl)) (hw _ (List.mem_of_getElem? (i := 2) rfl)) (hw _ (List.mem_of_getElem? (i := 3) rfl)) e0 (g := (mkF m 7 #[.val (.long q1), .second, .val (.long q2), .second, .val (.long q3), .second, .val (.int p4), .val (.long (q1 &&& (9223372036854775807 : Int64))), .second, .unset, .unset, .unset, .unset, .unset, .unset, .unset, .unset, .unset, .unset, .unset, .unset, .unset, .unset, .unset] [])) rfl (hb hby at_7) (by decide) (by decide)
  obtain ⟨b5, g5⟩ : ∃ z, z = h0.size := ⟨_, rfl⟩      -- the fresh object's address
  rw [← g5] at A5 D5 st5      -- A5 : Exa Z h5 b5 "com/example/exact_anchor/exactanchor/search/Budget"; E5 : Ext h0 h5 (carries every older fact: .ext E5)
  have F_limit_b5 : Fld Z h5 b5 "com/example/exact_anchor/exactanchor/search/Budget" "limit" "J" (.long (0 : Int64)) := D5 (Or.inr (hw _ (List.mem_of_getElem? (i := 11) rfl))) (ty := .long) (by decide)
  have F_spent_b5 : Fld Z h5 b5 "com/example/exact_anchor/exactanchor/search/Budget" "spent" "J" (.long (0 : Int64)) := D5 (Or.inl (hw _ (List.mem_of_getElem? (i := 22) rfl))) (ty := .long) (by decide)
  have F_refused_b5 : Fld Z h5 b5 "com/example/exact_anchor/exactanchor/search/Budget" "refused" "Z" (.int (0 : Int32)) := D5 (Or.inl (hw _ (List.mem_of_getElem? (i := 34) rfl))) (ty := .boolean) (by decide)
  have E_b5 := A5
  have g_b5 : n0 ≤ b5 := Nat.le_trans Z0 (Nat.le_of_eq g5.symm)
  have sz_b5 : h0.size ≤ b5 := (Nat.le_trans (Keep.refl h0 []).1 (Nat.le_of_eq g5.symm))
  have K5 : Keep h0 h5 [] := (Keep.refl h0 []).ext E5
  have H5 : n0 ≤ h5.size := Nat.le_trans Z0 K5.1
  -- pc 13: the constructor of com/example/exact_anchor/exactanchor/search/Budget by its contract rm1
  obtain ⟨_, _, ⟨T6, L6, k6, n6⟩, -, X6, ⟨Lc6, hQ6, l6, y6, z6⟩, st6⟩ := X5.specialBack hx (y := (⟨"com/example/exact_anchor/exactanchor/search/Budget", "<init>", "(J)V"⟩ : MethodName)) rfl hown (mvT hZ (hw _ (List.mem_of_getElem? (i := 4) rfl))) (mvT hZ (hw _ (List.mem_of_getElem? (i := 5) rfl))) (mvT hZ (hw _ (List.mem_of_getElem? (i := 6) rfl))) (by decide) (backOf (W := 1) (rm1 l Z a0 hw [] b5 (q1 &&& (9223372036854775807 : Int64)) _ h5 n0 H5 E_b5 F_limit_b5 F_spent_b5 F_refused_b5 g_b5) hZ (hw _ (List.mem_of_getElem? (i := 6) rfl)) (hw _ (List.mem_of_getElem? (i := 3) rfl)) (by decide) (by decide)) (g := (mkF m 13 #[.val (.long q1), .second, .val (.long q2), .second, .val (.long q3), .second, .val (.int p4), .val (.long (q1 &&& (9223372036854775807 : Int64))), .second, .unset, .unset, .unset, .unset, .unset, .unset, .unset, .unset, .unset, .unset, .unset, .unset, .unset, .unset, .unset] [(.long (q1 &&& (9223372036854775807 : Int64))), (.ref b5), (.ref b5)])) rfl (by rw [hml]; rfl) (Steps.refl _) (a := b5) (argsL := [(.long (q1 &&& (9223372036854775807 : Int64)))]) (rest := [(.ref b5)]) (lenOf pd_0_0 rfl) rfl (by show 2 * 0 + _ ≤ _; exact Nat.le_of_eq rfl) (hb hby at_13) (fun _ _ => ⟨rfl, e5, (by decide : 1 + 0 ≤ _), (by decide : 3 + 0 ≤ _)⟩)
  dsimp only [Pt.U, Pt.locs, Pt.cells, Pt.slots] at X6 l6 y6 z6 st6 hQ6
  subst l6 y6 z6
  obtain ⟨rfl, N6q, K6, E6', FL6, FS6, FR6⟩ := hQ6      -- what it returned, that it wrote nothing old, and the rest of your Q1
  have N6 := Fr.app N0 N6q
  have H6 : n0 ≤ T6.heap.size := Nat.le_trans H5 K6.1
  -- pc 26: com/example/exact_anchor/exactanchor/search/BudgetSpendPinLaw.pick by its contract rm3
  obtain ⟨_, _, ⟨T7, L7, k7, n7⟩, -, X7, ⟨Lc7, hQ7, l7, y7, z7⟩, st7⟩ := Jvm.LawKit.callS X6 hx (y := (⟨"com/example/exact_anchor/exactanchor/search/BudgetSpendPinLaw", "pick", "(JJI)J"⟩ : MethodName)) hown (mvT hZ (hw _ (List.mem_of_getElem? (i := 12) rfl))) (mvT hZ (hw _ (List.mem_of_getElem? (i := 13) rfl))) (mvT hZ (hw _ (List.mem_of_getElem? (i := 14) rfl))) (mvT hZ (hw _ (List.mem_of_getElem? (i := 15) rfl))) (by decide) (backOf (W := 0) (rm3x l Z a0 hw [] q2 (q1 &&& (9223372036854775807 : Int64)) (p4 &&& (7 : Int32)) x1 T6.heap n0 H6 hx1) hZ (hw _ (List.mem_of_getElem? (i := 15) rfl)) (hw _ (List.mem_of_getElem? (i := 14) rfl)) (by decide) (by decide)) (g := (mkF m 26 #[.val (.long q1), .second, .val (.long q2), .second, .val (.long q3), .second, .val (.int p4), .val (.long (q1 &&& (9223372036854775807 : Int64))), .second, .val (.ref b5), .unset, .unset, .unset, .unset, .unset, .unset, .unset, .unset, .unset, .unset, .unset, .unset, .unset, .unset] [(.int (p4 &&& (7 : Int32))), (.long (q1 &&& (9223372036854775807 : Int64))), (.long q2)])) rfl (by rw [hml]; rfl) (argsL := [(.long q2), (.long (q1 &&& (9223372036854775807 : Int64))), (.int (p4 &&& (7 : Int32)))]) (rest := []) (lenOf pd_0_2 rfl) rfl (by show 2 * 0 + _ ≤ _; exact Nat.le_of_eq rfl) (hb hby at_26) (fun _ _ => ⟨rfl, rfl, (by decide : 1 + 0 ≤ _), (by decide : 3 + 0 ≤ _)⟩)
  dsimp only [Pt.U, Pt.locs, Pt.cells, Pt.slots] at X7 l7 y7 z7 st7 hQ7
  subst l7 y7 z7
  obtain ⟨rfl, N7q, q7⟩ := hQ7      -- what it returned, that it wrote nothing old, and the rest of your Q3
  have N7 := Fr.app N6 N7q
  have H7 : n0 ≤ T7.heap.size := by rw [q7]; exact H6
  have E7' : Exa Z T7.heap b5 "com/example/exact_anchor/exactanchor/search/Budget" := by rw [q7]; exact E6'
  have FL7 : Fld Z T7.heap b5 "com/example/exact_anchor/exactanchor/search/Budget" "limit" "J" (.long (q1 &&& (9223372036854775807 : Int64))) := by rw [q7]; exact FL6
  have FS7 : Fld Z T7.heap b5 "com/example/exact_anchor/exactanchor/search/Budget" "spent" "J" (.long (0 : Int64)) := by rw [q7]; exact FS6
  have FR7 : Fld Z T7.heap b5 "com/example/exact_anchor/exactanchor/search/Budget" "refused" "Z" (.int (0 : Int32)) := by rw [q7]; exact FR6
  -- pc 35: com/example/exact_anchor/exactanchor/search/Budget.spend by the contract of the body that the receiver's class selects, rm4
  obtain ⟨cq8, kq8, q8a, q8b, q8c⟩ := isOf hZ rfl E7'
  obtain ⟨_, _, ⟨T8, L8, k8, n8⟩, -, X8, ⟨Lc8, hQ8, l8, y8, z8⟩, st8⟩ := X7.virtualBack hx (y := (⟨"com/example/exact_anchor/exactanchor/search/Budget", "spend", "(J)Z"⟩ : MethodName)) (z := (⟨"com/example/exact_anchor/exactanchor/search/Budget", "spend", "(J)Z"⟩ : MethodName)) hown (mvT hZ (hw _ (List.mem_of_getElem? (i := 16) rfl))) (mvT hZ (hw _ (List.mem_of_getElem? (i := 17) rfl))) (notFace_of_selects (args := #[]) (mvT hZ (hw _ (List.mem_of_getElem? (i := 19) rfl)))) (mvT hZ (hw _ (List.mem_of_getElem? (i := 19) rfl))) (mvT hZ (hw _ (List.mem_of_getElem? (i := 18) rfl))) (by decide) (backOf (W := 0) (rm4_f l Z a0 hw [] b5 x1 (q1 &&& (9223372036854775807 : Int64)) (0 : Int64) (0 : Int32) T7.heap n0 H7 FL7 FS7 E7' FR7 g_b5 (by rw [Int64.sub_zero]; exact h1)) hZ (hw _ (List.mem_of_getElem? (i := 20) rfl)) (hw _ (List.mem_of_getElem? (i := 3) rfl)) (by decide) (by decide)) q8a q8c (g := (mkF m 35 #[.val (.long q1), .second, .val (.long q2), .second, .val (.long q3), .second, .val (.int p4), .val (.long (q1 &&& (9223372036854775807 : Int64))), .second, .val (.ref b5), .val (.long x1), .second, .unset, .unset, .unset, .unset, .unset, .unset, .unset, .unset, .unset, .unset, .unset, .unset] [(.long x1), (.ref b5)])) rfl (by rw [hml]; rfl) (Steps.refl _) (argsL := [(.long x1)]) (rest := []) (lenOf pd_0_3 rfl) rfl (by show 2 * 0 + _ ≤ _; exact Nat.le_of_eq rfl) (hb hby at_35) (fun _ _ => ⟨rfl, rfl, (by decide : 1 + 0 ≤ _), (by decide : 3 + 0 ≤ _)⟩)
  dsimp only [Pt.U, Pt.locs, Pt.cells, Pt.slots] at X8 l8 y8 z8 st8 hQ8
  subst l8 y8 z8
  obtain ⟨rfl, N8q, K8, E8', FL8, FS8, FR8⟩ := hQ8      -- what it returned, that it wrote nothing old, and the rest of your Q4
  have N8 := Fr.app N7 N8q
  have H8 : n0 ≤ T8.heap.size := Nat.le_trans H7 K8.1
  -- pc 77: com/example/exact_anchor/exactanchor/search/Budget.spent by the contract of the body that the receiver's class selects, rm5
  obtain ⟨cq9, kq9, q9a, q9b, q9c⟩ := isOf hZ rfl E8'
  obtain ⟨_, _, ⟨T9, L9, k9, n9⟩, -, X9, ⟨Lc9, hQ9, l9, y9, z9⟩, st9⟩ := X8.virtualBack hx (y := (⟨"com/example/exact_anchor/exactanchor/search/Budget", "spent", "()J"⟩ : MethodName)) (z := (⟨"com/example/exact_anchor/exactanchor/search/Budget", "spent", "()J"⟩ : MethodName)) hown (mvT hZ (hw _ (List.mem_of_getElem? (i := 23) rfl))) (mvT hZ (hw _ (List.mem_of_getElem? (i := 24) rfl))) (notFace_of_selects (args := #[]) (mvT hZ (hw _ (List.mem_of_getElem? (i := 26) rfl)))) (mvT hZ (hw _ (List.mem_of_getElem? (i := 26) rfl))) (mvT hZ (hw _ (List.mem_of_getElem? (i := 25) rfl))) (by decide) (backOf (W := 0) (rm5 l Z a0 hw [] b5 (0 : Int64) T8.heap n0 H8 FS8) hZ (hw _ (List.mem_of_getElem? (i := 27) rfl)) (hw _ (List.mem_of_getElem? (i := 3) rfl)) (by decide) (by decide)) q9a q9c (g := (mkF m 77 #[.val (.long q1), .second, .val (.long q2), .second, .val (.long q3), .second, .val (.int p4), .val (.long (q1 &&& (9223372036854775807 : Int64))), .second, .val (.ref b5), .val (.long x1), .second, .val (.int (0 : Int32)), .val (.int (0 : Int32)), .val (.long (0 : Int64)), .second, .unset, .unset, .unset, .unset, .unset, .unset, .unset, .unset] [(.ref b5)])) rfl (by rw [hml]; rfl) (Steps.refl _) (argsL := []) (rest := []) (lenOf pd_0_4 rfl) rfl (by show 2 * 0 + _ ≤ _; exact Nat.le_of_eq rfl) (hb hby at_77) (fun _ _ => ⟨rfl, rfl, (by decide : 1 + 0 ≤ _), (by decide : 3 + 0 ≤ _)⟩)
  dsimp only [Pt.U, Pt.locs, Pt.cells, Pt.slots] at X9 l9 y9 z9 st9 hQ9
  subst l9 y9 z9
  obtain ⟨rfl, N9q, q9⟩ := hQ9      -- what it returned, that it wrote nothing old, and the rest of your Q5
  have N9 := Fr.app N8 N9q
  have H9 : n0 ≤ T9.heap.size := by rw [q9]; exact H8
  have E9' : Exa Z T9.heap b5 "com/example/exact_anchor/exactanchor/search/Budget" := by rw [q9]; exact E8'
  have FL9 : Fld Z T9.heap b5 "com/example/exact_anchor/exactanchor/search/Budget" "limit" "J" (.long (q1 &&& (9223372036854775807 : Int64))) := by rw [q9]; exact FL8
  have FS9 : Fld Z T9.heap b5 "com/example/exact_anchor/exactanchor/search/Budget" "spent" "J" (.long (0 : Int64)) := by rw [q9]; exact FS8
  have FR9 : Fld Z T9.heap b5 "com/example/exact_anchor/exactanchor/search/Budget" "refused" "Z" (.int (1 : Int32)) := by rw [q9]; exact FR8
  -- pc 88: com/example/exact_anchor/exactanchor/search/Budget.exhausted by the contract of the body that the receiver's class selects, rm6
  obtain ⟨cq10, kq10, q10a, q10b, q10c⟩ := isOf hZ rfl E9'
  obtain ⟨_, _, ⟨T10, L10, k10, n10⟩, -, X10, ⟨Lc10, hQ10, l10, y10, z10⟩, st10⟩ := X9.virtualBack hx (y := (⟨"com/example/exact_anchor/exactanchor/search/Budget", "exhausted", "()Z"⟩ : MethodName)) (z := (⟨"com/example/exact_anchor/exactanchor/search/Budget", "exhausted", "()Z"⟩ : MethodName)) hown (mvT hZ (hw _ (List.mem_of_getElem? (i := 28) rfl))) (mvT hZ (hw _ (List.mem_of_getElem? (i := 29) rfl))) (notFace_of_selects (args := #[]) (mvT hZ (hw _ (List.mem_of_getElem? (i := 31) rfl)))) (mvT hZ (hw _ (List.mem_of_getElem? (i := 31) rfl))) (mvT hZ (hw _ (List.mem_of_getElem? (i := 30) rfl))) (by decide) (backOf (W := 0) (rm6 l Z a0 hw [] b5 (1 : Int32) T9.heap n0 H9 FR9 rfl) hZ (hw _ (List.mem_of_getElem? (i := 32) rfl)) (hw _ (List.mem_of_getElem? (i := 3) rfl)) (by decide) (by decide)) q10a q10c (g := (mkF m 88 #[.val (.long q1), .second, .val (.long q2), .second, .val (.long q3), .second, .val (.int p4), .val (.long (q1 &&& (9223372036854775807 : Int64))), .second, .val (.ref b5), .val (.long x1), .second, .val (.int (0 : Int32)), .val (.int (0 : Int32)), .val (.long (0 : Int64)), .second, .unset, .unset, .unset, .unset, .unset, .unset, .unset, .unset] [(.ref b5)])) rfl (by rw [hml]; rfl) (Steps.refl _) (argsL := []) (rest := []) (lenOf pd_0_5 rfl) rfl (by show 2 * 0 + _ ≤ _; exact Nat.le_of_eq rfl) (hb hby at_88) (fun _ _ => ⟨rfl, rfl, (by decide : 1 + 0 ≤ _), (by decide : 3 + 0 ≤ _)⟩)
  dsimp only [Pt.U, Pt.locs, Pt.cells, Pt.slots] at X10 l10 y10 z10 st10 hQ10
  subst l10 y10 z10
  obtain ⟨rfl, N10q, q10⟩ := hQ10      -- what it returned, that it wrote nothing old, and the rest of your Q6
  have N10 := Fr.app N9 N10q
  have H10 : n0 ≤ T10.heap.size := by rw [q10]; exact H9
  have E10' : Exa Z T10.heap b5 "com/example/exact_anchor/exactanchor/search/Budget" := by rw [q10]; exact E9'
  have FL10 : Fld Z T10.heap b5 "com/example/exact_anchor/exactanchor/search/Budget" "limit" "J" (.long (q1 &&& (9223372036854775807 : Int64))) := by rw [q10]; exact FL9
  have FS10 : Fld Z T10.heap b5 "com/example/exact_anchor/exactanchor/search/Budget" "spent" "J" (.long (0 : Int64)) := by rw [q10]; exact FS9
  have FR10 : Fld Z T10.heap b5 "com/example/exact_anchor/exactanchor/search/Budget" "refused" "Z" (.int (1 : Int32)) := by rw [q10]; exact FR9
  -- pc 124: com/example/exact_anchor/exactanchor/search/BudgetSpendPinLaw.pick by its contract rm3
  obtain ⟨_, _, ⟨T11, L11, k11, n11⟩, -, X11, ⟨Lc11, hQ11, l11, y11, z11⟩, st11⟩ := Jvm.LawKit.callS X10 hx (y := (⟨"com/example/exact_anchor/exactanchor/search/BudgetSpendPinLaw", "pick", "(JJI)J"⟩ : MethodName)) hown (mvT hZ (hw _ (List.mem_of_getElem? (i := 12) rfl))) (mvT hZ (hw _ (List.mem_of_getElem? (i := 13) rfl))) (mvT hZ (hw _ (List.mem_of_getElem? (i := 14) rfl))) (mvT hZ (hw _ (List.mem_of_getElem? (i := 15) rfl))) (by decide) (backOf (W := 0) (rm3x l Z a0 hw [] q3 ((q1 &&& (9223372036854775807 : Int64)) - (0 : Int64)) (((p4.toUInt32 >>> ((3 : Int32) &&& 31).toUInt32).toInt32) &&& (7 : Int32)) x2 T10.heap n0 H10 hx2) hZ (hw _ (List.mem_of_getElem? (i := 15) rfl)) (hw _ (List.mem_of_getElem? (i := 14) rfl)) (by decide) (by decide)) (g := (mkF m 124 #[.val (.long q1), .second, .val (.long q2), .second, .val (.long q3), .second, .val (.int p4), .val (.long (q1 &&& (9223372036854775807 : Int64))), .second, .val (.ref b5), .val (.long x1), .second, .val (.int (0 : Int32)), .val (.int (0 : Int32)), .val (.long (0 : Int64)), .second, .val (.long ((q1 &&& (9223372036854775807 : Int64)) - (0 : Int64))), .second, .unset, .unset, .unset, .unset, .unset, .unset] [(.int (((p4.toUInt32 >>> ((3 : Int32) &&& 31).toUInt32).toInt32) &&& (7 : Int32))), (.long ((q1 &&& (9223372036854775807 : Int64)) - (0 : Int64))), (.long q3)])) rfl (by rw [hml]; rfl) (argsL := [(.long q3), (.long ((q1 &&& (9223372036854775807 : Int64)) - (0 : Int64))), (.int (((p4.toUInt32 >>> ((3 : Int32) &&& 31).toUInt32).toInt32) &&& (7 : Int32)))]) (rest := []) (lenOf pd_0_2 rfl) rfl (by show 2 * 0 + _ ≤ _; exact Nat.le_of_eq rfl) (hb hby at_124) (fun _ _ => ⟨rfl, rfl, (by decide : 1 + 0 ≤ _), (by decide : 3 + 0 ≤ _)⟩)
  dsimp only [Pt.U, Pt.locs, Pt.cells, Pt.slots] at X11 l11 y11 z11 st11 hQ11
  subst l11 y11 z11
  obtain ⟨rfl, N11q, q11⟩ := hQ11      -- what it returned, that it wrote nothing old, and the rest of your Q3
  have N11 := Fr.app N10 N11q
  have H11 : n0 ≤ T11.heap.size := by rw [q11]; exact H10
  have E11' : Exa Z T11.heap b5 "com/example/exact_anchor/exactanchor/search/Budget" := by rw [q11]; exact E10'
  have FL11 : Fld Z T11.heap b5 "com/example/exact_anchor/exactanchor/search/Budget" "limit" "J" (.long (q1 &&& (9223372036854775807 : Int64))) := by rw [q11]; exact FL10
  have FS11 : Fld Z T11.heap b5 "com/example/exact_anchor/exactanchor/search/Budget" "spent" "J" (.long (0 : Int64)) := by rw [q11]; exact FS10
  have FR11 : Fld Z T11.heap b5 "com/example/exact_anchor/exactanchor/search/Budget" "refused" "Z" (.int (1 : Int32)) := by rw [q11]; exact FR10
  -- pc 133: com/example/exact_anchor/exactanchor/search/Budget.spend by the contract of the body that the receiver's class selects, rm4
  obtain ⟨cq12, kq12, q12a, q12b, q12c⟩ := isOf hZ rfl E11'
  obtain ⟨_, _, ⟨T12, L12, k12, n12⟩, -, X12, ⟨Lc12, hQ12, l12, y12, z12⟩, st12⟩ := X11.virtualBack hx (y := (⟨"com/example/exact_anchor/exactanchor/search/Budget", "spend", "(J)Z"⟩ : MethodName)) (z := (⟨"com/example/exact_anchor/exactanchor/search/Budget", "spend", "(J)Z"⟩ : MethodName)) hown (mvT hZ (hw _ (List.mem_of_getElem? (i := 16) rfl))) (mvT hZ (hw _ (List.mem_of_getElem? (i := 17) rfl))) (notFace_of_selects (args := #[]) (mvT hZ (hw _ (List.mem_of_getElem? (i := 19) rfl)))) (mvT hZ (hw _ (List.mem_of_getElem? (i := 19) rfl))) (mvT hZ (hw _ (List.mem_of_getElem? (i := 18) rfl))) (by decide) (backOf (W := 0) (rm4_f l Z a0 hw [] b5 x2 (q1 &&& (9223372036854775807 : Int64)) (0 : Int64) (1 : Int32) T11.heap n0 H11 FL11 FS11 E11' FR11 g_b5 h2) hZ (hw _ (List.mem_of_getElem? (i := 20) rfl)) (hw _ (List.mem_of_getElem? (i := 3) rfl)) (by decide) (by decide)) q12a q12c (g := (mkF m 133 #[.val (.long q1), .second, .val (.long q2), .second, .val (.long q3), .second, .val (.int p4), .val (.long (q1 &&& (9223372036854775807 : Int64))), .second, .val (.ref b5), .val (.long x1), .second, .val (.int (0 : Int32)), .val (.int (0 : Int32)), .val (.long (0 : Int64)), .second, .val (.long ((q1 &&& (9223372036854775807 : Int64)) - (0 : Int64))), .second, .val (.long x2), .second, .unset, .unset, .unset, .unset] [(.long x2), (.ref b5)])) rfl (by rw [hml]; rfl) (Steps.refl _) (argsL := [(.long x2)]) (rest := []) (lenOf pd_0_3 rfl) rfl (by show 2 * 0 + _ ≤ _; exact Nat.le_of_eq rfl) (hb hby at_133) (fun _ _ => ⟨rfl, rfl, (by decide : 1 + 0 ≤ _), (by decide : 3 + 0 ≤ _)⟩)
  dsimp only [Pt.U, Pt.locs, Pt.cells, Pt.slots] at X12 l12 y12 z12 st12 hQ12
  subst l12 y12 z12
  obtain ⟨rfl, N12q, K12, E12', FL12, FS12, FR12⟩ := hQ12      -- what it returned, that it wrote nothing old, and the rest of your Q4
  have N12 := Fr.app N11 N12q
  have H12 : n0 ≤ T12.heap.size := Nat.le_trans H11 K12.1
  -- pc 179: com/example/exact_anchor/exactanchor/search/Budget.spent by the contract of the body that the receiver's class selects, rm5
  obtain ⟨cq13, kq13, q13a, q13b, q13c⟩ := isOf hZ rfl E12'
  obtain ⟨_, _, ⟨T13, L13, k13, n13⟩, -, X13, ⟨Lc13, hQ13, l13, y13, z13⟩, st13⟩ := X12.virtualBack hx (y := (⟨"com/example/exact_anchor/exactanchor/search/Budget", "spent", "()J"⟩ : MethodName)) (z := (⟨"com/example/exact_anchor/exactanchor/search/Budget", "spent", "()J"⟩ : MethodName)) hown (mvT hZ (hw _ (List.mem_of_getElem? (i := 23) rfl))) (mvT hZ (hw _ (List.mem_of_getElem? (i := 24) rfl))) (notFace_of_selects (args := #[]) (mvT hZ (hw _ (List.mem_of_getElem? (i := 26) rfl)))) (mvT hZ (hw _ (List.mem_of_getElem? (i := 26) rfl))) (mvT hZ (hw _ (List.mem_of_getElem? (i := 25) rfl))) (by decide) (backOf (W := 0) (rm5 l Z a0 hw [] b5 (0 : Int64) T12.heap n0 H12 FS12) hZ (hw _ (List.mem_of_getElem? (i := 27) rfl)) (hw _ (List.mem_of_getElem? (i := 3) rfl)) (by decide) (by decide)) q13a q13c (g := (mkF m 179 #[.val (.long q1), .second, .val (.long q2), .second, .val (.long q3), .second, .val (.int p4), .val (.long (q1 &&& (9223372036854775807 : Int64))), .second, .val (.ref b5), .val (.long x1), .second, .val (.int (0 : Int32)), .val (.int (0 : Int32)), .val (.long (0 : Int64)), .second, .val (.long ((q1 &&& (9223372036854775807 : Int64)) - (0 : Int64))), .second, .val (.long x2), .second, .val (.int (0 : Int32)), .val (.int (0 : Int32)), .val (.long (0 : Int64)), .second] [(.ref b5)])) rfl (by rw [hml]; rfl) (Steps.refl _) (argsL := []) (rest := []) (lenOf pd_0_4 rfl) rfl (by show 2 * 0 + _ ≤ _; exact Nat.le_of_eq rfl) (hb hby at_179) (fun _ _ => ⟨rfl, rfl, (by decide : 1 + 0 ≤ _), (by decide : 3 + 0 ≤ _)⟩)
  dsimp only [Pt.U, Pt.locs, Pt.cells, Pt.slots] at X13 l13 y13 z13 st13 hQ13
  subst l13 y13 z13
  obtain ⟨rfl, N13q, q13⟩ := hQ13      -- what it returned, that it wrote nothing old, and the rest of your Q5
  have N13 := Fr.app N12 N13q
  have H13 : n0 ≤ T13.heap.size := by rw [q13]; exact H12
  have E13' : Exa Z T13.heap b5 "com/example/exact_anchor/exactanchor/search/Budget" := by rw [q13]; exact E12'
  have FL13 : Fld Z T13.heap b5 "com/example/exact_anchor/exactanchor/search/Budget" "limit" "J" (.long (q1 &&& (9223372036854775807 : Int64))) := by rw [q13]; exact FL12
  have FS13 : Fld Z T13.heap b5 "com/example/exact_anchor/exactanchor/search/Budget" "spent" "J" (.long (0 : Int64)) := by rw [q13]; exact FS12
  have FR13 : Fld Z T13.heap b5 "com/example/exact_anchor/exactanchor/search/Budget" "refused" "Z" (.int (1 : Int32)) := by rw [q13]; exact FR12
  -- pc 190: com/example/exact_anchor/exactanchor/search/Budget.exhausted by the contract of the body that the receiver's class selects, rm6
  obtain ⟨cq14, kq14, q14a, q14b, q14c⟩ := isOf hZ rfl E13'
  obtain ⟨_, _, ⟨T14, L14, k14, n14⟩, -, X14, ⟨Lc14, hQ14, l14, y14, z14⟩, st14⟩ := X13.virtualBack hx (y := (⟨"com/example/exact_anchor/exactanchor/search/Budget", "exhausted", "()Z"⟩ : MethodName)) (z := (⟨"com/example/exact_anchor/exactanchor/search/Budget", "exhausted", "()Z"⟩ : MethodName)) hown (mvT hZ (hw _ (List.mem_of_getElem? (i := 28) rfl))) (mvT hZ (hw _ (List.mem_of_getElem? (i := 29) rfl))) (notFace_of_selects (args := #[]) (mvT hZ (hw _ (List.mem_of_getElem? (i := 31) rfl)))) (mvT hZ (hw _ (List.mem_of_getElem? (i := 31) rfl))) (mvT hZ (hw _ (List.mem_of_getElem? (i := 30) rfl))) (by decide) (backOf (W := 0) (rm6 l Z a0 hw [] b5 (1 : Int32) T13.heap n0 H13 FR13 rfl) hZ (hw _ (List.mem_of_getElem? (i := 32) rfl)) (hw _ (List.mem_of_getElem? (i := 3) rfl)) (by decide) (by decide)) q14a q14c (g := (mkF m 190 #[.val (.long q1), .second, .val (.long q2), .second, .val (.long q3), .second, .val (.int p4), .val (.long (q1 &&& (9223372036854775807 : Int64))), .second, .val (.ref b5), .val (.long x1), .second, .val (.int (0 : Int32)), .val (.int (0 : Int32)), .val (.long (0 : Int64)), .second, .val (.long ((q1 &&& (9223372036854775807 : Int64)) - (0 : Int64))), .second, .val (.long x2), .second, .val (.int (0 : Int32)), .val (.int (0 : Int32)), .val (.long (0 : Int64)), .second] [(.ref b5)])) rfl (by rw [hml]; rfl) (Steps.refl _) (argsL := []) (rest := []) (lenOf pd_0_5 rfl) rfl (by show 2 * 0 + _ ≤ _; exact Nat.le_of_eq rfl) (hb hby at_190) (fun _ _ => ⟨rfl, rfl, (by decide : 1 + 0 ≤ _), (by decide : 3 + 0 ≤ _)⟩)
  dsimp only [Pt.U, Pt.locs, Pt.cells, Pt.slots] at X14 l14 y14 z14 st14 hQ14
  subst l14 y14 z14
  obtain ⟨rfl, N14q, q14⟩ := hQ14      -- what it returned, that it wrote nothing old, and the rest of your Q6
  have N14 := Fr.app N13 N14q
  have H14 : n0 ≤ T14.heap.size := by rw [q14]; exact H13
  have E14' : Exa Z T14.heap b5 "com/example/exact_anchor/exactanchor/search/Budget" := by rw [q14]; exact E13'
  have FL14 : Fld Z T14.heap b5 "com/example/exact_anchor/exactanchor/search/Budget" "limit" "J" (.long (q1 &&& (9223372036854775807 : Int64))) := by rw [q14]; exact FL13
  have FS14 : Fld Z T14.heap b5 "com/example/exact_anchor/exactanchor/search/Budget" "spent" "J" (.long (0 : Int64)) := by rw [q14]; exact FS13
  have FR14 : Fld Z T14.heap b5 "com/example/exact_anchor/exactanchor/search/Budget" "refused" "Z" (.int (1 : Int32)) := by rw [q14]; exact FR13
  obtain ⟨fs, hr, hrun, hended, hW, hsame⟩ := X14.leave (v := some (.int (1 : Int32))) (fun h => by rw [Bd.returns] at h; cases h)
  refine ⟨_, _, pre0 _ ?_, hrun, hended, _, _, rfl, ?_, ⟨_, rfl⟩, hW, hsame.mono (by decide) (by decide)⟩
  -- 4. STEPS
  · show Steps p.tables e below (s₁.setTop (mkF m 0 #[.val (.long q1), .second, .val (.long q2), .second, .val (.long q3), .second, .val (.int p4), .unset, .unset, .unset, .unset, .unset, .unset, .unset, .unset, .unset, .unset, .unset, .unset, .unset, .unset, .unset, .unset, .unset] [])) _
    refine XS.lloadN X0.here hx rfl (hb hby at_0) rfl ?_
    show Steps p.tables e below (s₁.setTop (mkF m 1 #[.val (.long q1), .second, .val (.long q2), .second, .val (.long q3), .second, .val (.int p4), .unset, .unset, .unset, .unset, .unset, .unset, .unset, .unset, .unset, .unset, .unset, .unset, .unset, .unset, .unset, .unset, .unset] [(.long q1)])) _
    refine X0.ldc2Long hx hown (mvT hZ (hw _ (List.mem_of_getElem? (i := 0) rfl))) (g := (mkF m 1 #[.val (.long q1), .second, .val (.long q2), .second, .val (.long q3), .second, .val (.int p4), .unset, .unset, .unset, .unset, .unset, .unset, .unset, .unset, .unset, .unset, .unset, .unset, .unset, .unset, .unset, .unset, .unset] [(.long q1)])) rfl (hb hby at_1) _ ?_
    show Steps p.tables e below (s₁.setTop (mkF m 4 #[.val (.long q1), .second, .val (.long q2), .second, .val (.long q3), .second, .val (.int p4), .unset, .unset, .unset, .unset, .unset, .unset, .unset, .unset, .unset, .unset, .unset, .unset, .unset, .unset, .unset, .unset, .unset] [(.long (9223372036854775807 : Int64)), (.long q1)])) _
    refine XS.land X0.here hx rfl (hb hby at_4) rfl ?_
    show Steps p.tables e below (s₁.setTop (mkF m 5 #[.val (.long q1), .second, .val (.long q2), .second, .val (.long q3), .second, .val (.int p4), .unset, .unset, .unset, .unset, .unset, .unset, .unset, .unset, .unset, .unset, .unset, .unset, .unset, .unset, .unset, .unset, .unset] [(.long (q1 &&& (9223372036854775807 : Int64)))])) _
    refine XS.lstore X0.here hx rfl (hb hby at_5) rfl (l' := #[.val (.long q1), .second, .val (.long q2), .second, .val (.long q3), .second, .val (.int p4), .val (.long (q1 &&& (9223372036854775807 : Int64))), .second, .unset, .unset, .unset, .unset, .unset, .unset, .unset, .unset, .unset, .unset, .unset, .unset, .unset, .unset, .unset]) rfl ?_
    show Steps p.tables e below (s₁.setTop (mkF m 7 #[.val (.long q1), .second, .val (.long q2), .second, .val (.long q3), .second, .val (.int p4), .val (.long (q1 &&& (9223372036854775807 : Int64))), .second, .unset, .unset, .unset, .unset, .unset, .unset, .unset, .unset, .unset, .unset, .unset, .unset, .unset, .unset, .unset] [])) _
    refine st5 _ ?_
    show Steps p.tables e below (T5.setTop (mkF m 10 #[.val (.long q1), .second, .val (.long q2), .second, .val (.long q3), .second, .val (.int p4), .val (.long (q1 &&& (9223372036854775807 : Int64))), .second, .unset, .unset, .unset, .unset, .unset, .unset, .unset, .unset, .unset, .unset, .unset, .unset, .unset, .unset, .unset] [(.ref b5)])) _
    refine XS.dup X5.here hx rfl (hb hby at_10) rfl rfl ?_
    show Steps p.tables e below (T5.setTop (mkF m 11 #[.val (.long q1), .second, .val (.long q2), .second, .val (.long q3), .second, .val (.int p4), .val (.long (q1 &&& (9223372036854775807 : Int64))), .second, .unset, .unset, .unset, .unset, .unset, .unset, .unset, .unset, .unset, .unset, .unset, .unset, .unset, .unset, .unset] [(.ref b5), (.ref b5)])) _
    refine XS.lload X5.here hx rfl (hb hby at_11) rfl ?_
    show Steps p.tables e below (T5.setTop (mkF m 13 #[.val (.long q1), .second, .val (.long q2), .second, .val (.long q3), .second, .val (.int p4), .val (.long (q1 &&& (9223372036854775807 : Int64))), .second, .unset, .unset, .unset, .unset, .unset, .unset, .unset, .unset, .unset, .unset, .unset, .unset, .unset, .unset, .unset] [(.long (q1 &&& (9223372036854775807 : Int64))), (.ref b5), (.ref b5)])) _
    refine st6.trans ?_
    show Steps p.tables e below (T6.setTop (mkF m 16 #[.val (.long q1), .second, .val (.long q2), .second, .val (.long q3), .second, .val (.int p4), .val (.long (q1 &&& (9223372036854775807 : Int64))), .second, .unset, .unset, .unset, .unset, .unset, .unset, .unset, .unset, .unset, .unset, .unset, .unset, .unset, .unset, .unset] [(.ref b5)])) _
    refine XS.astore X6.here hx rfl (hb hby at_16) rfl rfl (l' := #[.val (.long q1), .second, .val (.long q2), .second, .val (.long q3), .second, .val (.int p4), .val (.long (q1 &&& (9223372036854775807 : Int64))), .second, .val (.ref b5), .unset, .unset, .unset, .unset, .unset, .unset, .unset, .unset, .unset, .unset, .unset, .unset, .unset, .unset]) rfl ?_
    show Steps p.tables e below (T6.setTop (mkF m 18 #[.val (.long q1), .second, .val (.long q2), .second, .val (.long q3), .second, .val (.int p4), .val (.long (q1 &&& (9223372036854775807 : Int64))), .second, .val (.ref b5), .unset, .unset, .unset, .unset, .unset, .unset, .unset, .unset, .unset, .unset, .unset, .unset, .unset, .unset] [])) _
    refine XS.lloadN X6.here hx rfl (hb hby at_18) rfl ?_
    show Steps p.tables e below (T6.setTop (mkF m 19 #[.val (.long q1), .second, .val (.long q2), .second, .val (.long q3), .second, .val (.int p4), .val (.long (q1 &&& (9223372036854775807 : Int64))), .second, .val (.ref b5), .unset, .unset, .unset, .unset, .unset, .unset, .unset, .unset, .unset, .unset, .unset, .unset, .unset, .unset] [(.long q2)])) _
    refine XS.lload X6.here hx rfl (hb hby at_19) rfl ?_
    show Steps p.tables e below (T6.setTop (mkF m 21 #[.val (.long q1), .second, .val (.long q2), .second, .val (.long q3), .second, .val (.int p4), .val (.long (q1 &&& (9223372036854775807 : Int64))), .second, .val (.ref b5), .unset, .unset, .unset, .unset, .unset, .unset, .unset, .unset, .unset, .unset, .unset, .unset, .unset, .unset] [(.long (q1 &&& (9223372036854775807 : Int64))), (.long q2)])) _
    refine XS.iload X6.here hx rfl (hb hby at_21) rfl ?_
    show Steps p.tables e below (T6.setTop (mkF m 23 #[.val (.long q1), .second, .val (.long q2), .second, .val (.long q3), .second, .val (.int p4), .val (.long (q1 &&& (9223372036854775807 : Int64))), .second, .val (.ref b5), .unset, .unset, .unset, .unset, .unset, .unset, .unset, .unset, .unset, .unset, .unset, .unset, .unset, .unset] [(.int p4), (.long (q1 &&& (9223372036854775807 : Int64))), (.long q2)])) _
    refine XS.bipush X6.here hx rfl (hb hby at_23) ?_
    show Steps p.tables e below (T6.setTop (mkF m 25 #[.val (.long q1), .second, .val (.long q2), .second, .val (.long q3), .second, .val (.int p4), .val (.long (q1 &&& (9223372036854775807 : Int64))), .second, .val (.ref b5), .unset, .unset, .unset, .unset, .unset, .unset, .unset, .unset, .unset, .unset, .unset, .unset, .unset, .unset] [(.int (7 : Int32)), (.int p4), (.long (q1 &&& (9223372036854775807 : Int64))), (.long q2)])) _
    refine XS.iand X6.here hx rfl (hb hby at_25) rfl ?_
    show Steps p.tables e below (T6.setTop (mkF m 26 #[.val (.long q1), .second, .val (.long q2), .second, .val (.long q3), .second, .val (.int p4), .val (.long (q1 &&& (9223372036854775807 : Int64))), .second, .val (.ref b5), .unset, .unset, .unset, .unset, .unset, .unset, .unset, .unset, .unset, .unset, .unset, .unset, .unset, .unset] [(.int (p4 &&& (7 : Int32))), (.long (q1 &&& (9223372036854775807 : Int64))), (.long q2)])) _
    refine st7 _ ?_
    show Steps p.tables e below (T7.setTop (mkF m 29 #[.val (.long q1), .second, .val (.long q2), .second, .val (.long q3), .second, .val (.int p4), .val (.long (q1 &&& (9223372036854775807 : Int64))), .second, .val (.ref b5), .unset, .unset, .unset, .unset, .unset, .unset, .unset, .unset, .unset, .unset, .unset, .unset, .unset, .unset] [(.long x1)])) _
    refine XS.lstore X7.here hx rfl (hb hby at_29) rfl (l' := #[.val (.long q1), .second, .val (.long q2), .second, .val (.long q3), .second, .val (.int p4), .val (.long (q1 &&& (9223372036854775807 : Int64))), .second, .val (.ref b5), .val (.long x1), .second, .unset, .unset, .unset, .unset, .unset, .unset, .unset, .unset, .unset, .unset, .unset, .unset]) rfl ?_
    show Steps p.tables e below (T7.setTop (mkF m 31 #[.val (.long q1), .second, .val (.long q2), .second, .val (.long q3), .second, .val (.int p4), .val (.long (q1 &&& (9223372036854775807 : Int64))), .second, .val (.ref b5), .val (.long x1), .second, .unset, .unset, .unset, .unset, .unset, .unset, .unset, .unset, .unset, .unset, .unset, .unset] [])) _
    refine XS.aload X7.here hx rfl (hb hby at_31) rfl rfl ?_
    show Steps p.tables e below (T7.setTop (mkF m 33 #[.val (.long q1), .second, .val (.long q2), .second, .val (.long q3), .second, .val (.int p4), .val (.long (q1 &&& (9223372036854775807 : Int64))), .second, .val (.ref b5), .val (.long x1), .second, .unset, .unset, .unset, .unset, .unset, .unset, .unset, .unset, .unset, .unset, .unset, .unset] [(.ref b5)])) _
    refine XS.lload X7.here hx rfl (hb hby at_33) rfl ?_
    show Steps p.tables e below (T7.setTop (mkF m 35 #[.val (.long q1), .second, .val (.long q2), .second, .val (.long q3), .second, .val (.int p4), .val (.long (q1 &&& (9223372036854775807 : Int64))), .second, .val (.ref b5), .val (.long x1), .second, .unset, .unset, .unset, .unset, .unset, .unset, .unset, .unset, .unset, .unset, .unset, .unset] [(.long x1), (.ref b5)])) _
    refine st8.trans ?_
    show Steps p.tables e below (T8.setTop (mkF m 38 #[.val (.long q1), .second, .val (.long q2), .second, .val (.long q3), .second, .val (.int p4), .val (.long (q1 &&& (9223372036854775807 : Int64))), .second, .val (.ref b5), .val (.long x1), .second, .unset, .unset, .unset, .unset, .unset, .unset, .unset, .unset, .unset, .unset, .unset, .unset] [(.int (0 : Int32))])) _
    refine XS.istore X8.here hx rfl (hb hby at_38) rfl (l' := #[.val (.long q1), .second, .val (.long q2), .second, .val (.long q3), .second, .val (.int p4), .val (.long (q1 &&& (9223372036854775807 : Int64))), .second, .val (.ref b5), .val (.long x1), .second, .val (.int (0 : Int32)), .unset, .unset, .unset, .unset, .unset, .unset, .unset, .unset, .unset, .unset, .unset]) rfl ?_
    show Steps p.tables e below (T8.setTop (mkF m 40 #[.val (.long q1), .second, .val (.long q2), .second, .val (.long q3), .second, .val (.int p4), .val (.long (q1 &&& (9223372036854775807 : Int64))), .second, .val (.ref b5), .val (.long x1), .second, .val (.int (0 : Int32)), .unset, .unset, .unset, .unset, .unset, .unset, .unset, .unset, .unset, .unset, .unset] [])) _
    refine XS.lload X8.here hx rfl (hb hby at_40) rfl ?_
    show Steps p.tables e below (T8.setTop (mkF m 42 #[.val (.long q1), .second, .val (.long q2), .second, .val (.long q3), .second, .val (.int p4), .val (.long (q1 &&& (9223372036854775807 : Int64))), .second, .val (.ref b5), .val (.long x1), .second, .val (.int (0 : Int32)), .unset, .unset, .unset, .unset, .unset, .unset, .unset, .unset, .unset, .unset, .unset] [(.long x1)])) _
    refine XS.lload X8.here hx rfl (hb hby at_42) rfl ?_
    show Steps p.tables e below (T8.setTop (mkF m 44 #[.val (.long q1), .second, .val (.long q2), .second, .val (.long q3), .second, .val (.int p4), .val (.long (q1 &&& (9223372036854775807 : Int64))), .second, .val (.ref b5), .val (.long x1), .second, .val (.int (0 : Int32)), .unset, .unset, .unset, .unset, .unset, .unset, .unset, .unset, .unset, .unset, .unset] [(.long (q1 &&& (9223372036854775807 : Int64))), (.long x1)])) _
    refine XS.lcmp X8.here hx rfl (hb hby at_44) rfl ?_
    show Steps p.tables e below (T8.setTop (mkF m 45 #[.val (.long q1), .second, .val (.long q2), .second, .val (.long q3), .second, .val (.int p4), .val (.long (q1 &&& (9223372036854775807 : Int64))), .second, .val (.ref b5), .val (.long x1), .second, .val (.int (0 : Int32)), .unset, .unset, .unset, .unset, .unset, .unset, .unset, .unset, .unset, .unset, .unset] [(.int (lcmpW x1 (q1 &&& (9223372036854775807 : Int64))))])) _
    refine XS.ifYes X8.here hx rfl (pc0 := 45) (pc' := 52) rfl (hb hby at_45) rfl ((if0 _ _).trans (tlt (h1 : (0 : Int32) < (lcmpW x1 (q1 &&& (9223372036854775807 : Int64))))).2.2.1) (by decide) (by decide) ?_
    show Steps p.tables e below (T8.setTop (mkF m 52 #[.val (.long q1), .second, .val (.long q2), .second, .val (.long q3), .second, .val (.int p4), .val (.long (q1 &&& (9223372036854775807 : Int64))), .second, .val (.ref b5), .val (.long x1), .second, .val (.int (0 : Int32)), .unset, .unset, .unset, .unset, .unset, .unset, .unset, .unset, .unset, .unset, .unset] [])) _
    refine XS.iconst X8.here hx rfl (hb hby at_52) ?_
    show Steps p.tables e below (T8.setTop (mkF m 53 #[.val (.long q1), .second, .val (.long q2), .second, .val (.long q3), .second, .val (.int p4), .val (.long (q1 &&& (9223372036854775807 : Int64))), .second, .val (.ref b5), .val (.long x1), .second, .val (.int (0 : Int32)), .unset, .unset, .unset, .unset, .unset, .unset, .unset, .unset, .unset, .unset, .unset] [(.int (0 : Int32))])) _
    refine XS.istore X8.here hx rfl (hb hby at_53) rfl (l' := #[.val (.long q1), .second, .val (.long q2), .second, .val (.long q3), .second, .val (.int p4), .val (.long (q1 &&& (9223372036854775807 : Int64))), .second, .val (.ref b5), .val (.long x1), .second, .val (.int (0 : Int32)), .val (.int (0 : Int32)), .unset, .unset, .unset, .unset, .unset, .unset, .unset, .unset, .unset, .unset]) rfl ?_
    show Steps p.tables e below (T8.setTop (mkF m 55 #[.val (.long q1), .second, .val (.long q2), .second, .val (.long q3), .second, .val (.int p4), .val (.long (q1 &&& (9223372036854775807 : Int64))), .second, .val (.ref b5), .val (.long x1), .second, .val (.int (0 : Int32)), .val (.int (0 : Int32)), .unset, .unset, .unset, .unset, .unset, .unset, .unset, .unset, .unset, .unset] [])) _
    refine XS.iload X8.here hx rfl (hb hby at_55) rfl ?_
    show Steps p.tables e below (T8.setTop (mkF m 57 #[.val (.long q1), .second, .val (.long q2), .second, .val (.long q3), .second, .val (.int p4), .val (.long (q1 &&& (9223372036854775807 : Int64))), .second, .val (.ref b5), .val (.long x1), .second, .val (.int (0 : Int32)), .val (.int (0 : Int32)), .unset, .unset, .unset, .unset, .unset, .unset, .unset, .unset, .unset, .unset] [(.int (0 : Int32))])) _
    refine XS.ifYes X8.here hx rfl (pc0 := 57) (pc' := 65) rfl (hb hby at_57) rfl ((if0 _ _).trans (teq (rfl : (0 : Int32) = (0 : Int32))).1) (by decide) (by decide) ?_
    show Steps p.tables e below (T8.setTop (mkF m 65 #[.val (.long q1), .second, .val (.long q2), .second, .val (.long q3), .second, .val (.int p4), .val (.long (q1 &&& (9223372036854775807 : Int64))), .second, .val (.ref b5), .val (.long x1), .second, .val (.int (0 : Int32)), .val (.int (0 : Int32)), .unset, .unset, .unset, .unset, .unset, .unset, .unset, .unset, .unset, .unset] [])) _
    refine XS.lconst X8.here hx rfl (hb hby at_65) ?_
    show Steps p.tables e below (T8.setTop (mkF m 66 #[.val (.long q1), .second, .val (.long q2), .second, .val (.long q3), .second, .val (.int p4), .val (.long (q1 &&& (9223372036854775807 : Int64))), .second, .val (.ref b5), .val (.long x1), .second, .val (.int (0 : Int32)), .val (.int (0 : Int32)), .unset, .unset, .unset, .unset, .unset, .unset, .unset, .unset, .unset, .unset] [(.long (0 : Int64))])) _
    refine XS.lstore X8.here hx rfl (hb hby at_66) rfl (l' := #[.val (.long q1), .second, .val (.long q2), .second, .val (.long q3), .second, .val (.int p4), .val (.long (q1 &&& (9223372036854775807 : Int64))), .second, .val (.ref b5), .val (.long x1), .second, .val (.int (0 : Int32)), .val (.int (0 : Int32)), .val (.long (0 : Int64)), .second, .unset, .unset, .unset, .unset, .unset, .unset, .unset, .unset]) rfl ?_
    show Steps p.tables e below (T8.setTop (mkF m 68 #[.val (.long q1), .second, .val (.long q2), .second, .val (.long q3), .second, .val (.int p4), .val (.long (q1 &&& (9223372036854775807 : Int64))), .second, .val (.ref b5), .val (.long x1), .second, .val (.int (0 : Int32)), .val (.int (0 : Int32)), .val (.long (0 : Int64)), .second, .unset, .unset, .unset, .unset, .unset, .unset, .unset, .unset] [])) _
    refine XS.iload X8.here hx rfl (hb hby at_68) rfl ?_
    show Steps p.tables e below (T8.setTop (mkF m 70 #[.val (.long q1), .second, .val (.long q2), .second, .val (.long q3), .second, .val (.int p4), .val (.long (q1 &&& (9223372036854775807 : Int64))), .second, .val (.ref b5), .val (.long x1), .second, .val (.int (0 : Int32)), .val (.int (0 : Int32)), .val (.long (0 : Int64)), .second, .unset, .unset, .unset, .unset, .unset, .unset, .unset, .unset] [(.int (0 : Int32))])) _
    refine XS.iload X8.here hx rfl (hb hby at_70) rfl ?_
    show Steps p.tables e below (T8.setTop (mkF m 72 #[.val (.long q1), .second, .val (.long q2), .second, .val (.long q3), .second, .val (.int p4), .val (.long (q1 &&& (9223372036854775807 : Int64))), .second, .val (.ref b5), .val (.long x1), .second, .val (.int (0 : Int32)), .val (.int (0 : Int32)), .val (.long (0 : Int64)), .second, .unset, .unset, .unset, .unset, .unset, .unset, .unset, .unset] [(.int (0 : Int32)), (.int (0 : Int32))])) _
    refine XS.icmpNo X8.here hx rfl (hb hby at_72) rfl (teq (rfl : (0 : Int32) = (0 : Int32))).2 ?_
    show Steps p.tables e below (T8.setTop (mkF m 75 #[.val (.long q1), .second, .val (.long q2), .second, .val (.long q3), .second, .val (.int p4), .val (.long (q1 &&& (9223372036854775807 : Int64))), .second, .val (.ref b5), .val (.long x1), .second, .val (.int (0 : Int32)), .val (.int (0 : Int32)), .val (.long (0 : Int64)), .second, .unset, .unset, .unset, .unset, .unset, .unset, .unset, .unset] [])) _
    refine XS.aload X8.here hx rfl (hb hby at_75) rfl rfl ?_
    show Steps p.tables e below (T8.setTop (mkF m 77 #[.val (.long q1), .second, .val (.long q2), .second, .val (.long q3), .second, .val (.int p4), .val (.long (q1 &&& (9223372036854775807 : Int64))), .second, .val (.ref b5), .val (.long x1), .second, .val (.int (0 : Int32)), .val (.int (0 : Int32)), .val (.long (0 : Int64)), .second, .unset, .unset, .unset, .unset, .unset, .unset, .unset, .unset] [(.ref b5)])) _
    refine st9.trans ?_
    show Steps p.tables e below (T9.setTop (mkF m 80 #[.val (.long q1), .second, .val (.long q2), .second, .val (.long q3), .second, .val (.int p4), .val (.long (q1 &&& (9223372036854775807 : Int64))), .second, .val (.ref b5), .val (.long x1), .second, .val (.int (0 : Int32)), .val (.int (0 : Int32)), .val (.long (0 : Int64)), .second, .unset, .unset, .unset, .unset, .unset, .unset, .unset, .unset] [(.long (0 : Int64))])) _
    refine XS.lload X9.here hx rfl (hb hby at_80) rfl ?_
    show Steps p.tables e below (T9.setTop (mkF m 82 #[.val (.long q1), .second, .val (.long q2), .second, .val (.long q3), .second, .val (.int p4), .val (.long (q1 &&& (9223372036854775807 : Int64))), .second, .val (.ref b5), .val (.long x1), .second, .val (.int (0 : Int32)), .val (.int (0 : Int32)), .val (.long (0 : Int64)), .second, .unset, .unset, .unset, .unset, .unset, .unset, .unset, .unset] [(.long (0 : Int64)), (.long (0 : Int64))])) _
    refine XS.lcmp X9.here hx rfl (hb hby at_82) rfl ?_
    show Steps p.tables e below (T9.setTop (mkF m 83 #[.val (.long q1), .second, .val (.long q2), .second, .val (.long q3), .second, .val (.int p4), .val (.long (q1 &&& (9223372036854775807 : Int64))), .second, .val (.ref b5), .val (.long x1), .second, .val (.int (0 : Int32)), .val (.int (0 : Int32)), .val (.long (0 : Int64)), .second, .unset, .unset, .unset, .unset, .unset, .unset, .unset, .unset] [(.int (lcmpW (0 : Int64) (0 : Int64)))])) _
    refine XS.ifNo X9.here hx rfl (hb hby at_83) rfl ((if0 _ _).trans (teq ((lw_eq _ _).mpr rfl : (lcmpW (0 : Int64) (0 : Int64)) = (0 : Int32))).2) ?_
    show Steps p.tables e below (T9.setTop (mkF m 86 #[.val (.long q1), .second, .val (.long q2), .second, .val (.long q3), .second, .val (.int p4), .val (.long (q1 &&& (9223372036854775807 : Int64))), .second, .val (.ref b5), .val (.long x1), .second, .val (.int (0 : Int32)), .val (.int (0 : Int32)), .val (.long (0 : Int64)), .second, .unset, .unset, .unset, .unset, .unset, .unset, .unset, .unset] [])) _
    refine XS.aload X9.here hx rfl (hb hby at_86) rfl rfl ?_
    show Steps p.tables e below (T9.setTop (mkF m 88 #[.val (.long q1), .second, .val (.long q2), .second, .val (.long q3), .second, .val (.int p4), .val (.long (q1 &&& (9223372036854775807 : Int64))), .second, .val (.ref b5), .val (.long x1), .second, .val (.int (0 : Int32)), .val (.int (0 : Int32)), .val (.long (0 : Int64)), .second, .unset, .unset, .unset, .unset, .unset, .unset, .unset, .unset] [(.ref b5)])) _
    refine st10.trans ?_
    show Steps p.tables e below (T10.setTop (mkF m 91 #[.val (.long q1), .second, .val (.long q2), .second, .val (.long q3), .second, .val (.int p4), .val (.long (q1 &&& (9223372036854775807 : Int64))), .second, .val (.ref b5), .val (.long x1), .second, .val (.int (0 : Int32)), .val (.int (0 : Int32)), .val (.long (0 : Int64)), .second, .unset, .unset, .unset, .unset, .unset, .unset, .unset, .unset] [(.int (1 : Int32))])) _
    refine XS.iload X10.here hx rfl (hb hby at_91) rfl ?_
    show Steps p.tables e below (T10.setTop (mkF m 93 #[.val (.long q1), .second, .val (.long q2), .second, .val (.long q3), .second, .val (.int p4), .val (.long (q1 &&& (9223372036854775807 : Int64))), .second, .val (.ref b5), .val (.long x1), .second, .val (.int (0 : Int32)), .val (.int (0 : Int32)), .val (.long (0 : Int64)), .second, .unset, .unset, .unset, .unset, .unset, .unset, .unset, .unset] [(.int (0 : Int32)), (.int (1 : Int32))])) _
    refine XS.ifNo X10.here hx rfl (hb hby at_93) rfl ((if0 _ _).trans (teq (rfl : (0 : Int32) = (0 : Int32))).2) ?_
    show Steps p.tables e below (T10.setTop (mkF m 96 #[.val (.long q1), .second, .val (.long q2), .second, .val (.long q3), .second, .val (.int p4), .val (.long (q1 &&& (9223372036854775807 : Int64))), .second, .val (.ref b5), .val (.long x1), .second, .val (.int (0 : Int32)), .val (.int (0 : Int32)), .val (.long (0 : Int64)), .second, .unset, .unset, .unset, .unset, .unset, .unset, .unset, .unset] [(.int (1 : Int32))])) _
    refine XS.iconst X10.here hx rfl (hb hby at_96) ?_
    show Steps p.tables e below (T10.setTop (mkF m 97 #[.val (.long q1), .second, .val (.long q2), .second, .val (.long q3), .second, .val (.int p4), .val (.long (q1 &&& (9223372036854775807 : Int64))), .second, .val (.ref b5), .val (.long x1), .second, .val (.int (0 : Int32)), .val (.int (0 : Int32)), .val (.long (0 : Int64)), .second, .unset, .unset, .unset, .unset, .unset, .unset, .unset, .unset] [(.int (1 : Int32)), (.int (1 : Int32))])) _
    refine XS.goto X10.here hx rfl (pc0 := 97) (pc' := 101) rfl (hb hby at_97) (by decide) (by decide) ?_
    show Steps p.tables e below (T10.setTop (mkF m 101 #[.val (.long q1), .second, .val (.long q2), .second, .val (.long q3), .second, .val (.int p4), .val (.long (q1 &&& (9223372036854775807 : Int64))), .second, .val (.ref b5), .val (.long x1), .second, .val (.int (0 : Int32)), .val (.int (0 : Int32)), .val (.long (0 : Int64)), .second, .unset, .unset, .unset, .unset, .unset, .unset, .unset, .unset] [(.int (1 : Int32)), (.int (1 : Int32))])) _
    refine XS.icmpYes X10.here hx rfl (pc0 := 101) (pc' := 106) rfl (hb hby at_101) rfl (teq (rfl : (1 : Int32) = (1 : Int32))).1 (by decide) (by decide) ?_
    show Steps p.tables e below (T10.setTop (mkF m 106 #[.val (.long q1), .second, .val (.long q2), .second, .val (.long q3), .second, .val (.int p4), .val (.long (q1 &&& (9223372036854775807 : Int64))), .second, .val (.ref b5), .val (.long x1), .second, .val (.int (0 : Int32)), .val (.int (0 : Int32)), .val (.long (0 : Int64)), .second, .unset, .unset, .unset, .unset, .unset, .unset, .unset, .unset] [])) _
    refine XS.lload X10.here hx rfl (hb hby at_106) rfl ?_
    show Steps p.tables e below (T10.setTop (mkF m 108 #[.val (.long q1), .second, .val (.long q2), .second, .val (.long q3), .second, .val (.int p4), .val (.long (q1 &&& (9223372036854775807 : Int64))), .second, .val (.ref b5), .val (.long x1), .second, .val (.int (0 : Int32)), .val (.int (0 : Int32)), .val (.long (0 : Int64)), .second, .unset, .unset, .unset, .unset, .unset, .unset, .unset, .unset] [(.long (q1 &&& (9223372036854775807 : Int64)))])) _
    refine XS.lload X10.here hx rfl (hb hby at_108) rfl ?_
    show Steps p.tables e below (T10.setTop (mkF m 110 #[.val (.long q1), .second, .val (.long q2), .second, .val (.long q3), .second, .val (.int p4), .val (.long (q1 &&& (9223372036854775807 : Int64))), .second, .val (.ref b5), .val (.long x1), .second, .val (.int (0 : Int32)), .val (.int (0 : Int32)), .val (.long (0 : Int64)), .second, .unset, .unset, .unset, .unset, .unset, .unset, .unset, .unset] [(.long (0 : Int64)), (.long (q1 &&& (9223372036854775807 : Int64)))])) _
    refine XS.lsub X10.here hx rfl (hb hby at_110) rfl ?_
    show Steps p.tables e below (T10.setTop (mkF m 111 #[.val (.long q1), .second, .val (.long q2), .second, .val (.long q3), .second, .val (.int p4), .val (.long (q1 &&& (9223372036854775807 : Int64))), .second, .val (.ref b5), .val (.long x1), .second, .val (.int (0 : Int32)), .val (.int (0 : Int32)), .val (.long (0 : Int64)), .second, .unset, .unset, .unset, .unset, .unset, .unset, .unset, .unset] [(.long ((q1 &&& (9223372036854775807 : Int64)) - (0 : Int64)))])) _
    refine XS.lstore X10.here hx rfl (hb hby at_111) rfl (l' := #[.val (.long q1), .second, .val (.long q2), .second, .val (.long q3), .second, .val (.int p4), .val (.long (q1 &&& (9223372036854775807 : Int64))), .second, .val (.ref b5), .val (.long x1), .second, .val (.int (0 : Int32)), .val (.int (0 : Int32)), .val (.long (0 : Int64)), .second, .val (.long ((q1 &&& (9223372036854775807 : Int64)) - (0 : Int64))), .second, .unset, .unset, .unset, .unset, .unset, .unset]) rfl ?_
    show Steps p.tables e below (T10.setTop (mkF m 113 #[.val (.long q1), .second, .val (.long q2), .second, .val (.long q3), .second, .val (.int p4), .val (.long (q1 &&& (9223372036854775807 : Int64))), .second, .val (.ref b5), .val (.long x1), .second, .val (.int (0 : Int32)), .val (.int (0 : Int32)), .val (.long (0 : Int64)), .second, .val (.long ((q1 &&& (9223372036854775807 : Int64)) - (0 : Int64))), .second, .unset, .unset, .unset, .unset, .unset, .unset] [])) _
    refine XS.lload X10.here hx rfl (hb hby at_113) rfl ?_
    show Steps p.tables e below (T10.setTop (mkF m 115 #[.val (.long q1), .second, .val (.long q2), .second, .val (.long q3), .second, .val (.int p4), .val (.long (q1 &&& (9223372036854775807 : Int64))), .second, .val (.ref b5), .val (.long x1), .second, .val (.int (0 : Int32)), .val (.int (0 : Int32)), .val (.long (0 : Int64)), .second, .val (.long ((q1 &&& (9223372036854775807 : Int64)) - (0 : Int64))), .second, .unset, .unset, .unset, .unset, .unset, .unset] [(.long q3)])) _
    refine XS.lload X10.here hx rfl (hb hby at_115) rfl ?_
    show Steps p.tables e below (T10.setTop (mkF m 117 #[.val (.long q1), .second, .val (.long q2), .second, .val (.long q3), .second, .val (.int p4), .val (.long (q1 &&& (9223372036854775807 : Int64))), .second, .val (.ref b5), .val (.long x1), .second, .val (.int (0 : Int32)), .val (.int (0 : Int32)), .val (.long (0 : Int64)), .second, .val (.long ((q1 &&& (9223372036854775807 : Int64)) - (0 : Int64))), .second, .unset, .unset, .unset, .unset, .unset, .unset] [(.long ((q1 &&& (9223372036854775807 : Int64)) - (0 : Int64))), (.long q3)])) _
    refine XS.iload X10.here hx rfl (hb hby at_117) rfl ?_
    show Steps p.tables e below (T10.setTop (mkF m 119 #[.val (.long q1), .second, .val (.long q2), .second, .val (.long q3), .second, .val (.int p4), .val (.long (q1 &&& (9223372036854775807 : Int64))), .second, .val (.ref b5), .val (.long x1), .second, .val (.int (0 : Int32)), .val (.int (0 : Int32)), .val (.long (0 : Int64)), .second, .val (.long ((q1 &&& (9223372036854775807 : Int64)) - (0 : Int64))), .second, .unset, .unset, .unset, .unset, .unset, .unset] [(.int p4), (.long ((q1 &&& (9223372036854775807 : Int64)) - (0 : Int64))), (.long q3)])) _
    refine XS.iconst X10.here hx rfl (hb hby at_119) ?_
    show Steps p.tables e below (T10.setTop (mkF m 120 #[.val (.long q1), .second, .val (.long q2), .second, .val (.long q3), .second, .val (.int p4), .val (.long (q1 &&& (9223372036854775807 : Int64))), .second, .val (.ref b5), .val (.long x1), .second, .val (.int (0 : Int32)), .val (.int (0 : Int32)), .val (.long (0 : Int64)), .second, .val (.long ((q1 &&& (9223372036854775807 : Int64)) - (0 : Int64))), .second, .unset, .unset, .unset, .unset, .unset, .unset] [(.int (3 : Int32)), (.int p4), (.long ((q1 &&& (9223372036854775807 : Int64)) - (0 : Int64))), (.long q3)])) _
    refine XS.iushr X10.here hx rfl (hb hby at_120) rfl ?_
    show Steps p.tables e below (T10.setTop (mkF m 121 #[.val (.long q1), .second, .val (.long q2), .second, .val (.long q3), .second, .val (.int p4), .val (.long (q1 &&& (9223372036854775807 : Int64))), .second, .val (.ref b5), .val (.long x1), .second, .val (.int (0 : Int32)), .val (.int (0 : Int32)), .val (.long (0 : Int64)), .second, .val (.long ((q1 &&& (9223372036854775807 : Int64)) - (0 : Int64))), .second, .unset, .unset, .unset, .unset, .unset, .unset] [(.int ((p4.toUInt32 >>> ((3 : Int32) &&& 31).toUInt32).toInt32)), (.long ((q1 &&& (9223372036854775807 : Int64)) - (0 : Int64))), (.long q3)])) _
    refine XS.bipush X10.here hx rfl (hb hby at_121) ?_
    show Steps p.tables e below (T10.setTop (mkF m 123 #[.val (.long q1), .second, .val (.long q2), .second, .val (.long q3), .second, .val (.int p4), .val (.long (q1 &&& (9223372036854775807 : Int64))), .second, .val (.ref b5), .val (.long x1), .second, .val (.int (0 : Int32)), .val (.int (0 : Int32)), .val (.long (0 : Int64)), .second, .val (.long ((q1 &&& (9223372036854775807 : Int64)) - (0 : Int64))), .second, .unset, .unset, .unset, .unset, .unset, .unset] [(.int (7 : Int32)), (.int ((p4.toUInt32 >>> ((3 : Int32) &&& 31).toUInt32).toInt32)), (.long ((q1 &&& (9223372036854775807 : Int64)) - (0 : Int64))), (.long q3)])) _
    refine XS.iand X10.here hx rfl (hb hby at_123) rfl ?_
    show Steps p.tables e below (T10.setTop (mkF m 124 #[.val (.long q1), .second, .val (.long q2), .second, .val (.long q3), .second, .val (.int p4), .val (.long (q1 &&& (9223372036854775807 : Int64))), .second, .val (.ref b5), .val (.long x1), .second, .val (.int (0 : Int32)), .val (.int (0 : Int32)), .val (.long (0 : Int64)), .second, .val (.long ((q1 &&& (9223372036854775807 : Int64)) - (0 : Int64))), .second, .unset, .unset, .unset, .unset, .unset, .unset] [(.int (((p4.toUInt32 >>> ((3 : Int32) &&& 31).toUInt32).toInt32) &&& (7 : Int32))), (.long ((q1 &&& (9223372036854775807 : Int64)) - (0 : Int64))), (.long q3)])) _
    refine st11 _ ?_
    show Steps p.tables e below (T11.setTop (mkF m 127 #[.val (.long q1), .second, .val (.long q2), .second, .val (.long q3), .second, .val (.int p4), .val (.long (q1 &&& (9223372036854775807 : Int64))), .second, .val (.ref b5), .val (.long x1), .second, .val (.int (0 : Int32)), .val (.int (0 : Int32)), .val (.long (0 : Int64)), .second, .val (.long ((q1 &&& (9223372036854775807 : Int64)) - (0 : Int64))), .second, .unset, .unset, .unset, .unset, .unset, .unset] [(.long x2)])) _
    refine XS.lstore X11.here hx rfl (hb hby at_127) rfl (l' := #[.val (.long q1), .second, .val (.long q2), .second, .val (.long q3), .second, .val (.int p4), .val (.long (q1 &&& (9223372036854775807 : Int64))), .second, .val (.ref b5), .val (.long x1), .second, .val (.int (0 : Int32)), .val (.int (0 : Int32)), .val (.long (0 : Int64)), .second, .val (.long ((q1 &&& (9223372036854775807 : Int64)) - (0 : Int64))), .second, .val (.long x2), .second, .unset, .unset, .unset, .unset]) rfl ?_
    show Steps p.tables e below (T11.setTop (mkF m 129 #[.val (.long q1), .second, .val (.long q2), .second, .val (.long q3), .second, .val (.int p4), .val (.long (q1 &&& (9223372036854775807 : Int64))), .second, .val (.ref b5), .val (.long x1), .second, .val (.int (0 : Int32)), .val (.int (0 : Int32)), .val (.long (0 : Int64)), .second, .val (.long ((q1 &&& (9223372036854775807 : Int64)) - (0 : Int64))), .second, .val (.long x2), .second, .unset, .unset, .unset, .unset] [])) _
    refine XS.aload X11.here hx rfl (hb hby at_129) rfl rfl ?_
    show Steps p.tables e below (T11.setTop (mkF m 131 #[.val (.long q1), .second, .val (.long q2), .second, .val (.long q3), .second, .val (.int p4), .val (.long (q1 &&& (9223372036854775807 : Int64))), .second, .val (.ref b5), .val (.long x1), .second, .val (.int (0 : Int32)), .val (.int (0 : Int32)), .val (.long (0 : Int64)), .second, .val (.long ((q1 &&& (9223372036854775807 : Int64)) - (0 : Int64))), .second, .val (.long x2), .second, .unset, .unset, .unset, .unset] [(.ref b5)])) _
    refine XS.lload X11.here hx rfl (hb hby at_131) rfl ?_
    show Steps p.tables e below (T11.setTop (mkF m 133 #[.val (.long q1), .second, .val (.long q2), .second, .val (.long q3), .second, .val (.int p4), .val (.long (q1 &&& (9223372036854775807 : Int64))), .second, .val (.ref b5), .val (.long x1), .second, .val (.int (0 : Int32)), .val (.int (0 : Int32)), .val (.long (0 : Int64)), .second, .val (.long ((q1 &&& (9223372036854775807 : Int64)) - (0 : Int64))), .second, .val (.long x2), .second, .unset, .unset, .unset, .unset] [(.long x2), (.ref b5)])) _
    refine st12.trans ?_
    show Steps p.tables e below (T12.setTop (mkF m 136 #[.val (.long q1), .second, .val (.long q2), .second, .val (.long q3), .second, .val (.int p4), .val (.long (q1 &&& (9223372036854775807 : Int64))), .second, .val (.ref b5), .val (.long x1), .second, .val (.int (0 : Int32)), .val (.int (0 : Int32)), .val (.long (0 : Int64)), .second, .val (.long ((q1 &&& (9223372036854775807 : Int64)) - (0 : Int64))), .second, .val (.long x2), .second, .unset, .unset, .unset, .unset] [(.int (0 : Int32))])) _
    refine XS.istore X12.here hx rfl (hb hby at_136) rfl (l' := #[.val (.long q1), .second, .val (.long q2), .second, .val (.long q3), .second, .val (.int p4), .val (.long (q1 &&& (9223372036854775807 : Int64))), .second, .val (.ref b5), .val (.long x1), .second, .val (.int (0 : Int32)), .val (.int (0 : Int32)), .val (.long (0 : Int64)), .second, .val (.long ((q1 &&& (9223372036854775807 : Int64)) - (0 : Int64))), .second, .val (.long x2), .second, .val (.int (0 : Int32)), .unset, .unset, .unset]) rfl ?_
    show Steps p.tables e below (T12.setTop (mkF m 138 #[.val (.long q1), .second, .val (.long q2), .second, .val (.long q3), .second, .val (.int p4), .val (.long (q1 &&& (9223372036854775807 : Int64))), .second, .val (.ref b5), .val (.long x1), .second, .val (.int (0 : Int32)), .val (.int (0 : Int32)), .val (.long (0 : Int64)), .second, .val (.long ((q1 &&& (9223372036854775807 : Int64)) - (0 : Int64))), .second, .val (.long x2), .second, .val (.int (0 : Int32)), .unset, .unset, .unset] [])) _
    refine XS.lload X12.here hx rfl (hb hby at_138) rfl ?_
    show Steps p.tables e below (T12.setTop (mkF m 140 #[.val (.long q1), .second, .val (.long q2), .second, .val (.long q3), .second, .val (.int p4), .val (.long (q1 &&& (9223372036854775807 : Int64))), .second, .val (.ref b5), .val (.long x1), .second, .val (.int (0 : Int32)), .val (.int (0 : Int32)), .val (.long (0 : Int64)), .second, .val (.long ((q1 &&& (9223372036854775807 : Int64)) - (0 : Int64))), .second, .val (.long x2), .second, .val (.int (0 : Int32)), .unset, .unset, .unset] [(.long x2)])) _
    refine XS.lload X12.here hx rfl (hb hby at_140) rfl ?_
    show Steps p.tables e below (T12.setTop (mkF m 142 #[.val (.long q1), .second, .val (.long q2), .second, .val (.long q3), .second, .val (.int p4), .val (.long (q1 &&& (9223372036854775807 : Int64))), .second, .val (.ref b5), .val (.long x1), .second, .val (.int (0 : Int32)), .val (.int (0 : Int32)), .val (.long (0 : Int64)), .second, .val (.long ((q1 &&& (9223372036854775807 : Int64)) - (0 : Int64))), .second, .val (.long x2), .second, .val (.int (0 : Int32)), .unset, .unset, .unset] [(.long ((q1 &&& (9223372036854775807 : Int64)) - (0 : Int64))), (.long x2)])) _
    refine XS.lcmp X12.here hx rfl (hb hby at_142) rfl ?_
    show Steps p.tables e below (T12.setTop (mkF m 143 #[.val (.long q1), .second, .val (.long q2), .second, .val (.long q3), .second, .val (.int p4), .val (.long (q1 &&& (9223372036854775807 : Int64))), .second, .val (.ref b5), .val (.long x1), .second, .val (.int (0 : Int32)), .val (.int (0 : Int32)), .val (.long (0 : Int64)), .second, .val (.long ((q1 &&& (9223372036854775807 : Int64)) - (0 : Int64))), .second, .val (.long x2), .second, .val (.int (0 : Int32)), .unset, .unset, .unset] [(.int (lcmpW x2 ((q1 &&& (9223372036854775807 : Int64)) - (0 : Int64))))])) _
    refine XS.ifYes X12.here hx rfl (pc0 := 143) (pc' := 150) rfl (hb hby at_143) rfl ((if0 _ _).trans (tlt (h2 : (0 : Int32) < (lcmpW x2 ((q1 &&& (9223372036854775807 : Int64)) - (0 : Int64))))).2.2.1) (by decide) (by decide) ?_
    show Steps p.tables e below (T12.setTop (mkF m 150 #[.val (.long q1), .second, .val (.long q2), .second, .val (.long q3), .second, .val (.int p4), .val (.long (q1 &&& (9223372036854775807 : Int64))), .second, .val (.ref b5), .val (.long x1), .second, .val (.int (0 : Int32)), .val (.int (0 : Int32)), .val (.long (0 : Int64)), .second, .val (.long ((q1 &&& (9223372036854775807 : Int64)) - (0 : Int64))), .second, .val (.long x2), .second, .val (.int (0 : Int32)), .unset, .unset, .unset] [])) _
    refine XS.iconst X12.here hx rfl (hb hby at_150) ?_
    show Steps p.tables e below (T12.setTop (mkF m 151 #[.val (.long q1), .second, .val (.long q2), .second, .val (.long q3), .second, .val (.int p4), .val (.long (q1 &&& (9223372036854775807 : Int64))), .second, .val (.ref b5), .val (.long x1), .second, .val (.int (0 : Int32)), .val (.int (0 : Int32)), .val (.long (0 : Int64)), .second, .val (.long ((q1 &&& (9223372036854775807 : Int64)) - (0 : Int64))), .second, .val (.long x2), .second, .val (.int (0 : Int32)), .unset, .unset, .unset] [(.int (0 : Int32))])) _
    refine XS.istore X12.here hx rfl (hb hby at_151) rfl (l' := #[.val (.long q1), .second, .val (.long q2), .second, .val (.long q3), .second, .val (.int p4), .val (.long (q1 &&& (9223372036854775807 : Int64))), .second, .val (.ref b5), .val (.long x1), .second, .val (.int (0 : Int32)), .val (.int (0 : Int32)), .val (.long (0 : Int64)), .second, .val (.long ((q1 &&& (9223372036854775807 : Int64)) - (0 : Int64))), .second, .val (.long x2), .second, .val (.int (0 : Int32)), .val (.int (0 : Int32)), .unset, .unset]) rfl ?_
    show Steps p.tables e below (T12.setTop (mkF m 153 #[.val (.long q1), .second, .val (.long q2), .second, .val (.long q3), .second, .val (.int p4), .val (.long (q1 &&& (9223372036854775807 : Int64))), .second, .val (.ref b5), .val (.long x1), .second, .val (.int (0 : Int32)), .val (.int (0 : Int32)), .val (.long (0 : Int64)), .second, .val (.long ((q1 &&& (9223372036854775807 : Int64)) - (0 : Int64))), .second, .val (.long x2), .second, .val (.int (0 : Int32)), .val (.int (0 : Int32)), .unset, .unset] [])) _
    refine XS.iload X12.here hx rfl (hb hby at_153) rfl ?_
    show Steps p.tables e below (T12.setTop (mkF m 155 #[.val (.long q1), .second, .val (.long q2), .second, .val (.long q3), .second, .val (.int p4), .val (.long (q1 &&& (9223372036854775807 : Int64))), .second, .val (.ref b5), .val (.long x1), .second, .val (.int (0 : Int32)), .val (.int (0 : Int32)), .val (.long (0 : Int64)), .second, .val (.long ((q1 &&& (9223372036854775807 : Int64)) - (0 : Int64))), .second, .val (.long x2), .second, .val (.int (0 : Int32)), .val (.int (0 : Int32)), .unset, .unset] [(.int (0 : Int32))])) _
    refine XS.ifYes X12.here hx rfl (pc0 := 155) (pc' := 166) rfl (hb hby at_155) rfl ((if0 _ _).trans (teq (rfl : (0 : Int32) = (0 : Int32))).1) (by decide) (by decide) ?_
    show Steps p.tables e below (T12.setTop (mkF m 166 #[.val (.long q1), .second, .val (.long q2), .second, .val (.long q3), .second, .val (.int p4), .val (.long (q1 &&& (9223372036854775807 : Int64))), .second, .val (.ref b5), .val (.long x1), .second, .val (.int (0 : Int32)), .val (.int (0 : Int32)), .val (.long (0 : Int64)), .second, .val (.long ((q1 &&& (9223372036854775807 : Int64)) - (0 : Int64))), .second, .val (.long x2), .second, .val (.int (0 : Int32)), .val (.int (0 : Int32)), .unset, .unset] [])) _
    refine XS.lload X12.here hx rfl (hb hby at_166) rfl ?_
    show Steps p.tables e below (T12.setTop (mkF m 168 #[.val (.long q1), .second, .val (.long q2), .second, .val (.long q3), .second, .val (.int p4), .val (.long (q1 &&& (9223372036854775807 : Int64))), .second, .val (.ref b5), .val (.long x1), .second, .val (.int (0 : Int32)), .val (.int (0 : Int32)), .val (.long (0 : Int64)), .second, .val (.long ((q1 &&& (9223372036854775807 : Int64)) - (0 : Int64))), .second, .val (.long x2), .second, .val (.int (0 : Int32)), .val (.int (0 : Int32)), .unset, .unset] [(.long (0 : Int64))])) _
    refine XS.lstore X12.here hx rfl (hb hby at_168) rfl (l' := #[.val (.long q1), .second, .val (.long q2), .second, .val (.long q3), .second, .val (.int p4), .val (.long (q1 &&& (9223372036854775807 : Int64))), .second, .val (.ref b5), .val (.long x1), .second, .val (.int (0 : Int32)), .val (.int (0 : Int32)), .val (.long (0 : Int64)), .second, .val (.long ((q1 &&& (9223372036854775807 : Int64)) - (0 : Int64))), .second, .val (.long x2), .second, .val (.int (0 : Int32)), .val (.int (0 : Int32)), .val (.long (0 : Int64)), .second]) rfl ?_
    show Steps p.tables e below (T12.setTop (mkF m 170 #[.val (.long q1), .second, .val (.long q2), .second, .val (.long q3), .second, .val (.int p4), .val (.long (q1 &&& (9223372036854775807 : Int64))), .second, .val (.ref b5), .val (.long x1), .second, .val (.int (0 : Int32)), .val (.int (0 : Int32)), .val (.long (0 : Int64)), .second, .val (.long ((q1 &&& (9223372036854775807 : Int64)) - (0 : Int64))), .second, .val (.long x2), .second, .val (.int (0 : Int32)), .val (.int (0 : Int32)), .val (.long (0 : Int64)), .second] [])) _
    refine XS.iload X12.here hx rfl (hb hby at_170) rfl ?_
    show Steps p.tables e below (T12.setTop (mkF m 172 #[.val (.long q1), .second, .val (.long q2), .second, .val (.long q3), .second, .val (.int p4), .val (.long (q1 &&& (9223372036854775807 : Int64))), .second, .val (.ref b5), .val (.long x1), .second, .val (.int (0 : Int32)), .val (.int (0 : Int32)), .val (.long (0 : Int64)), .second, .val (.long ((q1 &&& (9223372036854775807 : Int64)) - (0 : Int64))), .second, .val (.long x2), .second, .val (.int (0 : Int32)), .val (.int (0 : Int32)), .val (.long (0 : Int64)), .second] [(.int (0 : Int32))])) _
    refine XS.iload X12.here hx rfl (hb hby at_172) rfl ?_
    show Steps p.tables e below (T12.setTop (mkF m 174 #[.val (.long q1), .second, .val (.long q2), .second, .val (.long q3), .second, .val (.int p4), .val (.long (q1 &&& (9223372036854775807 : Int64))), .second, .val (.ref b5), .val (.long x1), .second, .val (.int (0 : Int32)), .val (.int (0 : Int32)), .val (.long (0 : Int64)), .second, .val (.long ((q1 &&& (9223372036854775807 : Int64)) - (0 : Int64))), .second, .val (.long x2), .second, .val (.int (0 : Int32)), .val (.int (0 : Int32)), .val (.long (0 : Int64)), .second] [(.int (0 : Int32)), (.int (0 : Int32))])) _
    refine XS.icmpNo X12.here hx rfl (hb hby at_174) rfl (teq (rfl : (0 : Int32) = (0 : Int32))).2 ?_
    show Steps p.tables e below (T12.setTop (mkF m 177 #[.val (.long q1), .second, .val (.long q2), .second, .val (.long q3), .second, .val (.int p4), .val (.long (q1 &&& (9223372036854775807 : Int64))), .second, .val (.ref b5), .val (.long x1), .second, .val (.int (0 : Int32)), .val (.int (0 : Int32)), .val (.long (0 : Int64)), .second, .val (.long ((q1 &&& (9223372036854775807 : Int64)) - (0 : Int64))), .second, .val (.long x2), .second, .val (.int (0 : Int32)), .val (.int (0 : Int32)), .val (.long (0 : Int64)), .second] [])) _
    refine XS.aload X12.here hx rfl (hb hby at_177) rfl rfl ?_
    show Steps p.tables e below (T12.setTop (mkF m 179 #[.val (.long q1), .second, .val (.long q2), .second, .val (.long q3), .second, .val (.int p4), .val (.long (q1 &&& (9223372036854775807 : Int64))), .second, .val (.ref b5), .val (.long x1), .second, .val (.int (0 : Int32)), .val (.int (0 : Int32)), .val (.long (0 : Int64)), .second, .val (.long ((q1 &&& (9223372036854775807 : Int64)) - (0 : Int64))), .second, .val (.long x2), .second, .val (.int (0 : Int32)), .val (.int (0 : Int32)), .val (.long (0 : Int64)), .second] [(.ref b5)])) _
    refine st13.trans ?_
    show Steps p.tables e below (T13.setTop (mkF m 182 #[.val (.long q1), .second, .val (.long q2), .second, .val (.long q3), .second, .val (.int p4), .val (.long (q1 &&& (9223372036854775807 : Int64))), .second, .val (.ref b5), .val (.long x1), .second, .val (.int (0 : Int32)), .val (.int (0 : Int32)), .val (.long (0 : Int64)), .second, .val (.long ((q1 &&& (9223372036854775807 : Int64)) - (0 : Int64))), .second, .val (.long x2), .second, .val (.int (0 : Int32)), .val (.int (0 : Int32)), .val (.long (0 : Int64)), .second] [(.long (0 : Int64))])) _
    refine XS.lload X13.here hx rfl (hb hby at_182) rfl ?_
    show Steps p.tables e below (T13.setTop (mkF m 184 #[.val (.long q1), .second, .val (.long q2), .second, .val (.long q3), .second, .val (.int p4), .val (.long (q1 &&& (9223372036854775807 : Int64))), .second, .val (.ref b5), .val (.long x1), .second, .val (.int (0 : Int32)), .val (.int (0 : Int32)), .val (.long (0 : Int64)), .second, .val (.long ((q1 &&& (9223372036854775807 : Int64)) - (0 : Int64))), .second, .val (.long x2), .second, .val (.int (0 : Int32)), .val (.int (0 : Int32)), .val (.long (0 : Int64)), .second] [(.long (0 : Int64)), (.long (0 : Int64))])) _
    refine XS.lcmp X13.here hx rfl (hb hby at_184) rfl ?_
    show Steps p.tables e below (T13.setTop (mkF m 185 #[.val (.long q1), .second, .val (.long q2), .second, .val (.long q3), .second, .val (.int p4), .val (.long (q1 &&& (9223372036854775807 : Int64))), .second, .val (.ref b5), .val (.long x1), .second, .val (.int (0 : Int32)), .val (.int (0 : Int32)), .val (.long (0 : Int64)), .second, .val (.long ((q1 &&& (9223372036854775807 : Int64)) - (0 : Int64))), .second, .val (.long x2), .second, .val (.int (0 : Int32)), .val (.int (0 : Int32)), .val (.long (0 : Int64)), .second] [(.int (lcmpW (0 : Int64) (0 : Int64)))])) _
    refine XS.ifNo X13.here hx rfl (hb hby at_185) rfl ((if0 _ _).trans (teq ((lw_eq _ _).mpr rfl : (lcmpW (0 : Int64) (0 : Int64)) = (0 : Int32))).2) ?_
    show Steps p.tables e below (T13.setTop (mkF m 188 #[.val (.long q1), .second, .val (.long q2), .second, .val (.long q3), .second, .val (.int p4), .val (.long (q1 &&& (9223372036854775807 : Int64))), .second, .val (.ref b5), .val (.long x1), .second, .val (.int (0 : Int32)), .val (.int (0 : Int32)), .val (.long (0 : Int64)), .second, .val (.long ((q1 &&& (9223372036854775807 : Int64)) - (0 : Int64))), .second, .val (.long x2), .second, .val (.int (0 : Int32)), .val (.int (0 : Int32)), .val (.long (0 : Int64)), .second] [])) _
    refine XS.aload X13.here hx rfl (hb hby at_188) rfl rfl ?_
    show Steps p.tables e below (T13.setTop (mkF m 190 #[.val (.long q1), .second, .val (.long q2), .second, .val (.long q3), .second, .val (.int p4), .val (.long (q1 &&& (9223372036854775807 : Int64))), .second, .val (.ref b5), .val (.long x1), .second, .val (.int (0 : Int32)), .val (.int (0 : Int32)), .val (.long (0 : Int64)), .second, .val (.long ((q1 &&& (9223372036854775807 : Int64)) - (0 : Int64))), .second, .val (.long x2), .second, .val (.int (0 : Int32)), .val (.int (0 : Int32)), .val (.long (0 : Int64)), .second] [(.ref b5)])) _
    refine st14.trans ?_
    show Steps p.tables e below (T14.setTop (mkF m 193 #[.val (.long q1), .second, .val (.long q2), .second, .val (.long q3), .second, .val (.int p4), .val (.long (q1 &&& (9223372036854775807 : Int64))), .second, .val (.ref b5), .val (.long x1), .second, .val (.int (0 : Int32)), .val (.int (0 : Int32)), .val (.long (0 : Int64)), .second, .val (.long ((q1 &&& (9223372036854775807 : Int64)) - (0 : Int64))), .second, .val (.long x2), .second, .val (.int (0 : Int32)), .val (.int (0 : Int32)), .val (.long (0 : Int64)), .second] [(.int (1 : Int32))])) _
    refine XS.iload X14.here hx rfl (hb hby at_193) rfl ?_
    show Steps p.tables e below (T14.setTop (mkF m 195 #[.val (.long q1), .second, .val (.long q2), .second, .val (.long q3), .second, .val (.int p4), .val (.long (q1 &&& (9223372036854775807 : Int64))), .second, .val (.ref b5), .val (.long x1), .second, .val (.int (0 : Int32)), .val (.int (0 : Int32)), .val (.long (0 : Int64)), .second, .val (.long ((q1 &&& (9223372036854775807 : Int64)) - (0 : Int64))), .second, .val (.long x2), .second, .val (.int (0 : Int32)), .val (.int (0 : Int32)), .val (.long (0 : Int64)), .second] [(.int (0 : Int32)), (.int (1 : Int32))])) _
    refine XS.ifYes X14.here hx rfl (pc0 := 195) (pc' := 203) rfl (hb hby at_195) rfl ((if0 _ _).trans (teq (rfl : (0 : Int32) = (0 : Int32))).1) (by decide) (by decide) ?_
    show Steps p.tables e below (T14.setTop (mkF m 203 #[.val (.long q1), .second, .val (.long q2), .second, .val (.long q3), .second, .val (.int p4), .val (.long (q1 &&& (9223372036854775807 : Int64))), .second, .val (.ref b5), .val (.long x1), .second, .val (.int (0 : Int32)), .val (.int (0 : Int32)), .val (.long (0 : Int64)), .second, .val (.long ((q1 &&& (9223372036854775807 : Int64)) - (0 : Int64))), .second, .val (.long x2), .second, .val (.int (0 : Int32)), .val (.int (0 : Int32)), .val (.long (0 : Int64)), .second] [(.int (1 : Int32))])) _
    refine XS.iconst X14.here hx rfl (hb hby at_203) ?_
    show Steps p.tables e below (T14.setTop (mkF m 204 #[.val (.long q1), .second, .val (.long q2), .second, .val (.long q3), .second, .val (.int p4), .val (.long (q1 &&& (9223372036854775807 : Int64))), .second, .val (.ref b5), .val (.long x1), .second, .val (.int (0 : Int32)), .val (.int (0 : Int32)), .val (.long (0 : Int64)), .second, .val (.long ((q1 &&& (9223372036854775807 : Int64)) - (0 : Int64))), .second, .val (.long x2), .second, .val (.int (0 : Int32)), .val (.int (0 : Int32)), .val (.long (0 : Int64)), .second] [(.int (1 : Int32)), (.int (1 : Int32))])) _
    refine XS.goto X14.here hx rfl (pc0 := 204) (pc' := 208) rfl (hb hby at_204) (by decide) (by decide) ?_
    show Steps p.tables e below (T14.setTop (mkF m 208 #[.val (.long q1), .second, .val (.long q2), .second, .val (.long q3), .second, .val (.int p4), .val (.long (q1 &&& (9223372036854775807 : Int64))), .second, .val (.ref b5), .val (.long x1), .second, .val (.int (0 : Int32)), .val (.int (0 : Int32)), .val (.long (0 : Int64)), .second, .val (.long ((q1 &&& (9223372036854775807 : Int64)) - (0 : Int64))), .second, .val (.long x2), .second, .val (.int (0 : Int32)), .val (.int (0 : Int32)), .val (.long (0 : Int64)), .second] [(.int (1 : Int32)), (.int (1 : Int32))])) _
    refine XS.icmpNo X14.here hx rfl (hb hby at_208) rfl (teq (rfl : (1 : Int32) = (1 : Int32))).2 ?_
    show Steps p.tables e below (T14.setTop (mkF m 211 #[.val (.long q1), .second, .val (.long q2), .second, .val (.long q3), .second, .val (.int p4), .val (.long (q1 &&& (9223372036854775807 : Int64))), .second, .val (.ref b5), .val (.long x1), .second, .val (.int (0 : Int32)), .val (.int (0 : Int32)), .val (.long (0 : Int64)), .second, .val (.long ((q1 &&& (9223372036854775807 : Int64)) - (0 : Int64))), .second, .val (.long x2), .second, .val (.int (0 : Int32)), .val (.int (0 : Int32)), .val (.long (0 : Int64)), .second] [])) _
    refine XS.iconst X14.here hx rfl (hb hby at_211) ?_
    show Steps p.tables e below (T14.setTop (mkF m 212 #[.val (.long q1), .second, .val (.long q2), .second, .val (.long q3), .second, .val (.int p4), .val (.long (q1 &&& (9223372036854775807 : Int64))), .second, .val (.ref b5), .val (.long x1), .second, .val (.int (0 : Int32)), .val (.int (0 : Int32)), .val (.long (0 : Int64)), .second, .val (.long ((q1 &&& (9223372036854775807 : Int64)) - (0 : Int64))), .second, .val (.long x2), .second, .val (.int (0 : Int32)), .val (.int (0 : Int32)), .val (.long (0 : Int64)), .second] [(.int (1 : Int32))])) _
    refine XS.goto X14.here hx rfl (pc0 := 212) (pc' := 216) rfl (hb hby at_212) (by decide) (by decide) ?_
    show Steps p.tables e below (T14.setTop (mkF m 216 #[.val (.long q1), .second, .val (.long q2), .second, .val (.long q3), .second, .val (.int p4), .val (.long (q1 &&& (9223372036854775807 : Int64))), .second, .val (.ref b5), .val (.long x1), .second, .val (.int (0 : Int32)), .val (.int (0 : Int32)), .val (.long (0 : Int64)), .second, .val (.long ((q1 &&& (9223372036854775807 : Int64)) - (0 : Int64))), .second, .val (.long x2), .second, .val (.int (0 : Int32)), .val (.int (0 : Int32)), .val (.long (0 : Int64)), .second] [(.int (1 : Int32))])) _
    exact retN X14 hx (t := .boolean) Bd.returns (by simp) (hb hby at_216) hr
  · show Q0 Z q1 q2 q3 p4 h0 n0 _ T14.heap _
    exact ⟨rfl, N14⟩
theorem rm0 (l : Launch) (Z : State) (a0 : Array Value) (hw : ∀ d ∈ tables_1, d.before a0 Z = true) (ws : List Jvm.Cond) (q1 : Int64) (q2 : Int64) (q3 : Int64) (p4 : Int32) (h0 : Heap) (n0 : Nat) (Z0 : n0 ≤ h0.size) :
    MetFree l x (head1 (Jvm.Cond.code x code maxLocals ret :: ws) room_1) (fun a U => a = #[(.long q1), (.long q2), (.long q3), (.int p4)] ∧ Z.Warmed39 U.vm ∧ U.heap = h0) (fun _ _ _ _ _ => True) (fun _ U o U' => ∃ v L, o = .returned v ∧ Q0 Z q1 q2 q3 p4 h0 n0 v U'.heap L ∧ FrameEnd U o U' L room_1.cells room_1.slots) := by
  by_cases h1 : (0 : Int32) < (lcmpW (F3 q2 (q1 &&& (9223372036854775807 : Int64)) (p4 &&& (7 : Int32))) (q1 &&& (9223372036854775807 : Int64)))
  · by_cases h2 : (0 : Int32) < (lcmpW (F3 q3 ((q1 &&& (9223372036854775807 : Int64)) - (0 : Int64)) (((p4.toUInt32 >>> ((3 : Int32) &&& 31).toUInt32).toInt32) &&& (7 : Int32))) ((q1 &&& (9223372036854775807 : Int64)) - (0 : Int64)))
    · exact rm0_ttffftttfftf l Z a0 hw ws q1 q2 q3 p4 _ _ h0 n0 Z0 rfl rfl h1 h2 
    · exact rm0_ttffftfffftf l Z a0 hw ws q1 q2 q3 p4 _ _ h0 n0 Z0 rfl rfl h1 h2 (by decide)
  · by_cases h2 : (0 : Int32) < (lcmpW (F3 q3 ((q1 &&& (9223372036854775807 : Int64)) - (F3 q2 (q1 &&& (9223372036854775807 : Int64)) (p4 &&& (7 : Int32)))) (((p4.toUInt32 >>> ((3 : Int32) &&& 31).toUInt32).toInt32) &&& (7 : Int32))) ((q1 &&& (9223372036854775807 : Int64)) - (F3 q2 (q1 &&& (9223372036854775807 : Int64)) (p4 &&& (7 : Int32)))))
    · exact rm0_ffffttttfffff l Z a0 hw ws q1 q2 q3 p4 _ _ h0 n0 Z0 rfl rfl h1 h2 (by decide) (by decide) (by decide)
    · exact rm0_ffffttffffftf l Z a0 hw ws q1 q2 q3 p4 _ _ h0 n0 Z0 rfl rfl h1 h2 (by decide) (by decide) (by decide) (by decide) (by decide)
set_option maxRecDepth 65536 in
set_option maxHeartbeats 40000000 in
theorem comes_1 {Post : Tables → Env → Array Value → State → Outcome → State → Prop} (hpost : ∀ tb e args s v u, (limb_1_1.after args s (.returned v) u = true ∧ limb_1_2.after args s (.returned v) u = true ∧ True) → FrameEnd s (.returned v) u (Jvm.fieldLocs frame_1_writes args s ++ Jvm.arrayLocs frame_1_arrays args s ++ Jvm.staticLocs frame_1_statics s) 16 128 → Post tb e args s (.returned v) u) :
    ArmFor flags0 classFile x code maxLocals ret World_1 tables_1 room_1 Calls_1 rest_1 Pre_1 Post := by
  intro l hfl _ _ p e ha hc hk s m args below hf hA hF happ hP
  obtain ⟨hcalls, hrest, hpre⟩ := hP
  obtain ⟨-, -, -, hnamed, -, -, -, hat⟩ := (Spec.applies_iff hf).mp happ
  obtain ⟨hg, hn⟩ := and_e (Cond.before_iff.mp (show (Jvm.Cond.and given_1 narrow_1).before args s = true from hpre))
  obtain ⟨g15, g16⟩ := and_e hg
  obtain ⟨g17, g18⟩ := and_e g16
  obtain ⟨g19, g20⟩ := and_e g18
  obtain ⟨g21, g22⟩ := and_e g20
  obtain ⟨w0, w1, w2, w3, rfl⟩ : ∃ w0 w1 w2 w3 : Value, args = #[w0, w1, w2, w3] := by
    have hs : args.size = 4 := by simpa [Cond.value, given_1] using g15
    obtain ⟨L⟩ := args
    match L, hs with
    | [w0, w1, w2, w3], _ => exact ⟨w0, w1, w2, w3, rfl⟩
  have hw := fun d (hd : d ∈ tables_1) => atoms_spec (ws := Jvm.Cond.code x code maxLocals ret :: tables_1) hat d (List.mem_cons_of_mem _ hd)
  have hfit : Fit s := fun {y c} hc i hi => by
    obtain ⟨ha, rfl⟩ := Array.getElem?_eq_some_iff.mp hc
    have q := List.all_eq_true.mp ((Array.all_eq_true_iff_forall_mem.mp hF) _ (Array.getElem_mem ha)) i (List.mem_range.mpr hi)
    simpa [Array.getElem?_eq_getElem hi] using q
  obtain ⟨i0, ei0⟩ := isL_v g17
  obtain rfl : w0 = (.long i0) := Option.some.inj ei0
  obtain ⟨i1, ei1⟩ := isL_v g19
  obtain rfl : w1 = (.long i1) := Option.some.inj ei1
  obtain ⟨i2, ei2⟩ := isL_v g21
  obtain rfl : w2 = (.long i2) := Option.some.inj ei2
  obtain ⟨i3, ei3⟩ := is_v g22
  obtain rfl : w3 = (.int i3) := Option.some.inj ei3
  obtain ⟨n, o, h1, h2, h3, _, L, rfl, ⟨rfl, N⟩, hq⟩ := rm0 l s _ hw tables_1 i0 i1 i2 i3 s.heap s.heap.size (Nat.le_refl _) p e ha hc hk s m _ below hf ((Spec.applies_iff_loose hf).mp happ).1 ⟨rfl, State.Warmed39.refl s, rfl⟩ trivial
  refine ⟨n, _, h1, h2, h3, hpost _ _ _ _ _ _ ⟨Cond.after_iff.mpr rfl, Cond.after_iff.mpr (eq_i res_at (Term.int_eval (1)) rfl), trivial⟩ ⟨hq.1, hq.2.1, (hq.2.2.sift fun y hy => Or.inr (N y hy)).mono (by decide) (by decide)⟩⟩
theorem main_1_1 : Claimed_1_1 := comes_1 fun _ _ _ _ _ _ h hF => ⟨h.1, hF⟩
theorem main_1_2 : Claimed_1_2 := comes_1 fun _ _ _ _ _ _ h hF => ⟨h.2.1, hF⟩
end Jvm.Pilot.@@N@@
namespace Jvm.Pilot.@@N@@
open Jvm Jvm.ClassFile Sem Op Lib Jvm.Free Jvm.Stand Jvm.Pilot.@@N@@.Jvm.D
/-! MADE BY PROGRAM (witnessworld.py) out of the Statement's table words and the real class files: 7 classes; the members and pool entries that the words name. The judged class is class 1, her method 2. -/
namespace start1
open Jvm.ClassFile
def u (s : String) : CpInfo := .utf8 (stringToUtf16 s)
/-- a pool by its gaps: so many unusable entries, then the entry; so many at the end -/
def gap : Nat → List CpInfo → List CpInfo
  | 0, r => r
  | n + 1, r => .unusable :: gap n r
def poolList (es : List (Nat × CpInfo)) (last : Nat) : List CpInfo := es.foldr (fun e r => gap e.1 (e.2 :: r)) (gap last [])
def pool (es : List (Nat × CpInfo)) (last : Nat) : Array CpInfo := ⟨poolList es last⟩
def fileOf (pool : Array CpInfo) (this : Nat) (attrs : Array Attribute := #[]) (ms : Array MethodInfo := #[]) (fl : Nat := 33) (sup : Nat := 0) (ifs : Array Nat := #[]) (fds : Array FieldInfo := #[]) : ClassFile where
  minorVersion := 0
  majorVersion := 65
  constantPool := pool
  accessFlags := fl
  thisClass := this
  superClass := sup
  interfaces := ifs
  fields := fds
  methods := ms
  attributes := attrs
def plain (name : String) (sup : Option ClassId) : Class where
  name := name
  kind := .ordinary
  loader := none
  accessFlags := 33
  super := sup
  interfaces := #[]
  cf := none
  fields := #[]
  methods := #[]
  instanceTypes := #[]
  staticTypes := #[]
  resolved := #[]
  callSites := []
  init := .initialized
  statics := none
  mirror := none

def pool0 : Array CpInfo := pool [(5, u "<init>"), (0, u "()V"), (1, .class_ 10), (1, u "java/lang/Object")] 113

def k0c0 : Code := { maxStack := 0, maxLocals := 1, code := object_method_1_code, exceptionTable := #[], attributes := #[] }
def k0m0 : Method := { name := "<init>", desc := "()V", sig := { parameters := [], returnType := none }, accessFlags := 1, code := some k0c0 }
/-- java/lang/Object -/
def k0 : Class := { plain "java/lang/Object" none with
  accessFlags := 33
  interfaces := #[]
  cf := some (fileOf pool0 8 #[] #[{ accessFlags := 1, nameIndex := 5, descriptorIndex := 6, attributes := #[] }] 33 0 #[] #[])
  fields := #[]
  methods := #[k0m0]
  instanceTypes := #[]
  staticTypes := #[]
  resolved := Array.replicate 124 none
  statics := none }

def pool1 : Array CpInfo := pool [(2, .class_ 4), (1, u "java/lang/Object"), (0, u "<init>"), (0, u "()V"), (2, .long 9223372036854775807), (1, .class_ 12), (0, u "com/example/exact_anchor/exactanchor/search/Budget"), (0, .methodref 11 14), (0, .nameAndType 5 15), (0, u "(J)V"), (0, .methodref 17 18), (0, .class_ 19), (0, .nameAndType 20 21), (0, u "com/example/exact_anchor/exactanchor/search/BudgetSpendPinLaw"), (0, u "pick"), (0, u "(JJI)J"), (0, .methodref 11 23), (0, .nameAndType 24 25), (0, u "spend"), (0, u "(J)Z"), (0, .methodref 11 27), (0, .nameAndType 28 29), (0, u "spent"), (0, u "()J"), (0, .methodref 11 31), (0, .nameAndType 32 33), (0, u "exhausted"), (0, u "()Z"), (3, u "law"), (0, u "(JJJI)Z")] 2

def k1m0 : Method := { name := "<init>", desc := "()V", sig := { parameters := [], returnType := none }, accessFlags := 1, code := none }
def k1c1 : Code := { maxStack := 4, maxLocals := 9, code := method_2_code, exceptionTable := #[], attributes := #[] }
def k1m1 : Method := { name := "pick", desc := "(JJI)J", sig := { parameters := [.long, .long, .int], returnType := some .long }, accessFlags := 10, code := some k1c1 }
def k1c2 : Code := { maxStack := 6, maxLocals := 24, code := code, exceptionTable := #[], attributes := #[] }
def k1m2 : Method := { name := "law", desc := "(JJJI)Z", sig := { parameters := [.long, .long, .long, .int], returnType := some .boolean }, accessFlags := 9, code := some k1c2 }
/-- com/example/exact_anchor/exactanchor/search/BudgetSpendPinLaw -/
def k1 : Class := { plain "com/example/exact_anchor/exactanchor/search/BudgetSpendPinLaw" (some 0) with
  accessFlags := 49
  interfaces := #[]
  cf := some (fileOf pool1 17 #[] #[{ accessFlags := 1, nameIndex := 5, descriptorIndex := 6, attributes := #[] }, { accessFlags := 10, nameIndex := 20, descriptorIndex := 21, attributes := #[] }, { accessFlags := 9, nameIndex := 37, descriptorIndex := 38, attributes := #[] }] 49 2 #[] #[])
  fields := #[]
  methods := #[k1m0, k1m1, k1m2]
  instanceTypes := #[]
  staticTypes := #[]
  resolved := Array.replicate 41 none
  statics := none }

def pool2 : Array CpInfo := pool [(1, .methodref 2 3), (0, .class_ 4), (0, .nameAndType 5 6), (0, u "java/lang/Object"), (0, u "<init>"), (0, u "()V"), (0, .fieldref 8 9), (0, .class_ 10), (0, .nameAndType 11 12), (0, u "com/example/exact_anchor/exactanchor/search/Budget"), (0, u "limit"), (0, u "J"), (2, u "spend"), (0, u "(J)Z"), (0, .fieldref 8 18), (0, .nameAndType 19 12), (0, u "spent"), (0, .fieldref 8 21), (0, .nameAndType 22 23), (0, u "refused"), (0, u "Z"), (0, u "(J)V"), (2, u "()Z"), (1, u "()J"), (0, u "exhausted")] 2

def k2c0 : Code := { maxStack := 3, maxLocals := 3, code := prog_71_method_1_code, exceptionTable := #[], attributes := #[] }
def k2m0 : Method := { name := "<init>", desc := "(J)V", sig := { parameters := [.long], returnType := none }, accessFlags := 0, code := some k2c0 }
def k2c1 : Code := { maxStack := 6, maxLocals := 3, code := prog_71_method_3_code, exceptionTable := #[], attributes := #[] }
def k2m1 : Method := { name := "spend", desc := "(J)Z", sig := { parameters := [.long], returnType := some .boolean }, accessFlags := 0, code := some k2c1 }
def k2c2 : Code := { maxStack := 2, maxLocals := 1, code := prog_71_method_4_code, exceptionTable := #[], attributes := #[] }
def k2m2 : Method := { name := "spent", desc := "()J", sig := { parameters := [], returnType := some .long }, accessFlags := 0, code := some k2c2 }
def k2c3 : Code := { maxStack := 1, maxLocals := 1, code := prog_71_method_5_code, exceptionTable := #[], attributes := #[] }
def k2m3 : Method := { name := "exhausted", desc := "()Z", sig := { parameters := [], returnType := some .boolean }, accessFlags := 0, code := some k2c3 }
/-- com/example/exact_anchor/exactanchor/search/Budget -/
def k2 : Class := { plain "com/example/exact_anchor/exactanchor/search/Budget" (some 0) with
  accessFlags := 48
  interfaces := #[]
  cf := some (fileOf pool2 8 #[] #[{ accessFlags := 0, nameIndex := 5, descriptorIndex := 24, attributes := #[] }, { accessFlags := 0, nameIndex := 15, descriptorIndex := 16, attributes := #[] }, { accessFlags := 0, nameIndex := 19, descriptorIndex := 29, attributes := #[] }, { accessFlags := 0, nameIndex := 30, descriptorIndex := 27, attributes := #[] }] 48 2 #[] #[{ accessFlags := 18, nameIndex := 11, descriptorIndex := 12, attributes := #[] }, { accessFlags := 2, nameIndex := 19, descriptorIndex := 12, attributes := #[] }, { accessFlags := 2, nameIndex := 22, descriptorIndex := 23, attributes := #[] }])
  fields := #[{ name := "limit", type := .long, accessFlags := 18, slot := 0, constantValue := 0 }, { name := "spent", type := .long, accessFlags := 2, slot := 1, constantValue := 0 }, { name := "refused", type := .boolean, accessFlags := 2, slot := 2, constantValue := 0 }]
  methods := #[k2m0, k2m1, k2m2, k2m3]
  instanceTypes := #[.long, .long, .boolean]
  staticTypes := #[]
  resolved := Array.replicate 33 none
  statics := none }

def pool3 : Array CpInfo := pool [(1, u "java/lang/Cloneable"), (0, .class_ 1), (0, u "java/lang/Object"), (0, .class_ 3)] 3

/-- java/lang/Cloneable -/
def k3 : Class := { plain "java/lang/Cloneable" (some 0) with
  accessFlags := 1537
  interfaces := #[]
  cf := some (fileOf pool3 2 #[] #[] 1537 4 #[] #[])
  fields := #[]
  methods := #[]
  instanceTypes := #[]
  staticTypes := #[]
  resolved := Array.replicate 8 none
  statics := none }

def pool4 : Array CpInfo := pool [(1, u "java/io/Serializable"), (0, .class_ 1), (0, u "java/lang/Object"), (0, .class_ 3)] 3

/-- java/io/Serializable -/
def k4 : Class := { plain "java/io/Serializable" (some 0) with
  accessFlags := 1537
  interfaces := #[]
  cf := some (fileOf pool4 2 #[] #[] 1537 4 #[] #[])
  fields := #[]
  methods := #[]
  instanceTypes := #[]
  staticTypes := #[]
  resolved := Array.replicate 8 none
  statics := none }

/-- the primitive byte -/
def k5 : Class := { plain "byte" none with kind := .primitive 'B', accessFlags := 0x411 }
/-- [B -/
def k6 : Class := { plain "[B" (some 0) with kind := .array 5 .byte, interfaces := #[3, 4], accessFlags := 1041 }

def heap : Heap := #[]
def classes : Array Class := #[k0, k1, k2, k3, k4, k5, k6]
def interned : List (Array UInt16 × Addr) := []
def slotsUsed : Nat := 0
def theMethod : MethodId := ⟨1, 2⟩
def args0 : Array Value := #[.long 10, .long 4, .long 5, .int 0]
def aboutOver (below : List Frame) : State where
  vm := { classes := classes, interned := interned.toArray }
  heap := heap
  slotsUsed := slotsUsed
  threads := #[{ frames := .invoking theMethod args0 :: below }]
def below0 : List Frame := [.native { method := ⟨0, 0⟩, args := #[] }]
def about1 : State := aboutOver below0
def p0 : Program := .bare "" "" ""
def e0 : Env := launch0.env 0 0 0
theorem w_frames : about1.frames = Frame.invoking theMethod args0 :: below0 := rfl
set_option maxRecDepth 65536 in
theorem w_args : argsFit about1.vm theMethod args0 = true := by decide +kernel
set_option maxRecDepth 65536 in
theorem w_heap : heapFits about1 = true := by decide +kernel
set_option maxRecDepth 65536 in
theorem w_runnable : about1.curStatus? = some .runnable := by decide +kernel
set_option maxRecDepth 65536 in
theorem w_alone : about1.alone = true := by decide +kernel
set_option maxRecDepth 65536 in
theorem w_named : about1.methodNamed? x = some theMethod := by decide +kernel
set_option maxRecDepth 65536 in
theorem w_hears : about1.hears theMethod below0 = true := by decide +kernel
set_option maxRecDepth 65536 in
theorem w_ripe : about1.ripe theMethod args0 below0 = true := by decide +kernel
theorem w_running : about1.status = .running := rfl
set_option maxRecDepth 65536 in
theorem w_room : about1.hasRoom e0.platform room_1 = true :=
  launch0.hasRoom_least _ room_1 (by decide +kernel) (by decide +kernel) (by decide +kernel) (by decide +kernel) (by decide +kernel) (by decide +kernel)
theorem allAtoms_all (ts : List Jvm.Cond) (a : Array Jvm.Value) (st : Jvm.State) : (allAtoms ts).before a st = ts.all (fun c => c.before a st) := by
  induction ts with
  | nil => rfl
  | cons c t ih =>
    show (Jvm.Cond.and c (allAtoms t)).before a st = _
    rw [Jvm.Cond.before_and, ih, List.all_cons]
def words1 : List Jvm.Cond := Jvm.Cond.code x code maxLocals ret :: tables_1
/-- a 'code' word, met by the world's own term for the bytes: nothing is compared byte by byte -/
theorem code_word {y : MethodName} {bytes : ByteArray} {mx : Nat} {rt : Option FieldType} {a : Array Value} {s : State} {m : MethodId} {meth : Method} {c : Code} (h1 : s.methodNamed? y = some m) (h2 : s.vm.method? m = some meth) (h3 : meth.code = some c) (h4 : c.code = bytes)
    (h5 : (c.maxLocals == mx && c.exceptionTable.isEmpty && decide (c.maxStack ≤ mostOperands) && decide (meth.sig.returnType = rt) && !meth.locks && decide (parseMethodDescriptor y.desc = some meth.sig)) = true) : (Jvm.Cond.code y bytes mx rt).before a s = true := by
  simp only [Bool.and_eq_true, beq_iff_eq, Bool.not_eq_true', decide_eq_true_eq] at h5
  obtain ⟨⟨⟨⟨⟨g1, g2⟩, g3⟩, g4⟩, g5⟩, g6⟩ := h5
  simp [Cond.before, Cond.holds, Cond.value, h1, h2, h3, h4, g1, g2, g3, g4, g5, g6]
def isCode : Jvm.Cond → Bool
  | .code _ _ _ _ => true
  | _ => false
theorem all_split {L : List Jvm.Cond} {P : Jvm.Cond → Bool} (h1 : L.all (fun c => isCode c || P c) = true) (h2 : ∀ c ∈ L.filter isCode, P c = true) : L.all P = true := by
  refine List.all_eq_true.mpr fun c hc => ?_
  have h := List.all_eq_true.mp h1 c hc
  rcases Bool.eq_false_or_eq_true (isCode c) with hi | hi
  · exact h2 c (List.mem_filter.mpr ⟨hc, hi⟩)
  · simpa [hi] using h
set_option maxRecDepth 65536 in
theorem w_c0 : (Jvm.Cond.code x code maxLocals ret).before args0 about1 = true := code_word (m := ⟨1, 2⟩) (meth := k1m2) (c := k1c2) (by decide +kernel) rfl rfl rfl (by decide +kernel)
set_option maxRecDepth 65536 in
theorem w_c1 : (Jvm.Cond.code ({ cls := "com/example/exact_anchor/exactanchor/search/Budget", name := "<init>", desc := "(J)V" } : Jvm.MethodName) prog_71_method_1_code (3 : Nat) (Option.none : Option Jvm.ClassFile.FieldType)).before args0 about1 = true := code_word (m := ⟨2, 0⟩) (meth := k2m0) (c := k2c0) (by decide +kernel) rfl rfl rfl (by decide +kernel)
set_option maxRecDepth 65536 in
theorem w_c2 : (Jvm.Cond.code ({ cls := "java/lang/Object", name := "<init>", desc := "()V" } : Jvm.MethodName) object_method_1_code (1 : Nat) (Option.none : Option Jvm.ClassFile.FieldType)).before args0 about1 = true := code_word (m := ⟨0, 0⟩) (meth := k0m0) (c := k0c0) (by decide +kernel) rfl rfl rfl (by decide +kernel)
set_option maxRecDepth 65536 in
theorem w_c3 : (Jvm.Cond.code ({ cls := "com/example/exact_anchor/exactanchor/search/BudgetSpendPinLaw", name := "pick", desc := "(JJI)J" } : Jvm.MethodName) method_2_code (9 : Nat) (Option.some Jvm.ClassFile.FieldType.long)).before args0 about1 = true := code_word (m := ⟨1, 1⟩) (meth := k1m1) (c := k1c1) (by decide +kernel) rfl rfl rfl (by decide +kernel)
set_option maxRecDepth 65536 in
theorem w_c4 : (Jvm.Cond.code ({ cls := "com/example/exact_anchor/exactanchor/search/Budget", name := "spend", desc := "(J)Z" } : Jvm.MethodName) prog_71_method_3_code (3 : Nat) (Option.some Jvm.ClassFile.FieldType.boolean)).before args0 about1 = true := code_word (m := ⟨2, 1⟩) (meth := k2m1) (c := k2c1) (by decide +kernel) rfl rfl rfl (by decide +kernel)
set_option maxRecDepth 65536 in
theorem w_c5 : (Jvm.Cond.code ({ cls := "com/example/exact_anchor/exactanchor/search/Budget", name := "spent", desc := "()J" } : Jvm.MethodName) prog_71_method_4_code (1 : Nat) (Option.some Jvm.ClassFile.FieldType.long)).before args0 about1 = true := code_word (m := ⟨2, 2⟩) (meth := k2m2) (c := k2c2) (by decide +kernel) rfl rfl rfl (by decide +kernel)
set_option maxRecDepth 65536 in
theorem w_c6 : (Jvm.Cond.code ({ cls := "com/example/exact_anchor/exactanchor/search/Budget", name := "exhausted", desc := "()Z" } : Jvm.MethodName) prog_71_method_5_code (1 : Nat) (Option.some Jvm.ClassFile.FieldType.boolean)).before args0 about1 = true := code_word (m := ⟨2, 3⟩) (meth := k2m3) (c := k2c3) (by decide +kernel) rfl rfl rfl (by decide +kernel)
def codes1 : List Jvm.Cond := [Jvm.Cond.code x code maxLocals ret, Jvm.Cond.code ({ cls := "com/example/exact_anchor/exactanchor/search/Budget", name := "<init>", desc := "(J)V" } : Jvm.MethodName) prog_71_method_1_code (3 : Nat) (Option.none : Option Jvm.ClassFile.FieldType), Jvm.Cond.code ({ cls := "java/lang/Object", name := "<init>", desc := "()V" } : Jvm.MethodName) object_method_1_code (1 : Nat) (Option.none : Option Jvm.ClassFile.FieldType), Jvm.Cond.code ({ cls := "com/example/exact_anchor/exactanchor/search/BudgetSpendPinLaw", name := "pick", desc := "(JJI)J" } : Jvm.MethodName) method_2_code (9 : Nat) (Option.some Jvm.ClassFile.FieldType.long), Jvm.Cond.code ({ cls := "com/example/exact_anchor/exactanchor/search/Budget", name := "spend", desc := "(J)Z" } : Jvm.MethodName) prog_71_method_3_code (3 : Nat) (Option.some Jvm.ClassFile.FieldType.boolean), Jvm.Cond.code ({ cls := "com/example/exact_anchor/exactanchor/search/Budget", name := "spent", desc := "()J" } : Jvm.MethodName) prog_71_method_4_code (1 : Nat) (Option.some Jvm.ClassFile.FieldType.long), Jvm.Cond.code ({ cls := "com/example/exact_anchor/exactanchor/search/Budget", name := "exhausted", desc := "()Z" } : Jvm.MethodName) prog_71_method_5_code (1 : Nat) (Option.some Jvm.ClassFile.FieldType.boolean)]
set_option maxRecDepth 65536 in
theorem codes_eq : words1.filter isCode = codes1 := rfl
theorem w_codes : ∀ c ∈ words1.filter isCode, c.before args0 about1 = true := by
  rw [codes_eq]
  intro c hc
  simp only [codes1, List.mem_cons, List.not_mem_nil, or_false] at hc
  rcases hc with rfl | rfl | rfl | rfl | rfl | rfl | rfl
  · exact w_c0
  · exact w_c1
  · exact w_c2
  · exact w_c3
  · exact w_c4
  · exact w_c5
  · exact w_c6
set_option maxRecDepth 65536 in
theorem w_t1 : (words1.take 24).all (fun c => isCode c || c.before args0 about1) = true := by decide +kernel
set_option maxRecDepth 65536 in
theorem w_t2 : (words1.drop 24).all (fun c => isCode c || c.before args0 about1) = true := by decide +kernel
theorem w_tables : (allAtoms (Jvm.Cond.code x code maxLocals ret :: tables_1)).before args0 about1 = true := by
  rw [allAtoms_all]
  show words1.all (fun c => c.before args0 about1) = true
  refine all_split ?_ w_codes
  rw [← List.take_append_drop 24 words1, List.all_append, w_t1, w_t2]
  rfl
set_option maxRecDepth 65536 in
theorem w_case : (Jvm.Cond.and given_1 narrow_1).before args0 about1 = true := by decide +kernel
theorem w_applies : (headSpec (Jvm.Cond.code x code maxLocals ret :: tables_1) room_1).applies x e0.platform about1 = true :=
  (Spec.applies_iff w_frames).mpr ⟨w_running, w_runnable, w_alone, w_named, w_hears, w_ripe, w_room, w_tables⟩
theorem atStart : AtStart classFile x code maxLocals ret World_1 tables_1 room_1 Calls_1 rest_1 Pre_1 launch0 p0 e0 about1 theMethod args0 below0 :=
  ⟨lists_1, trivial, launch0.admits_env _ _ _, launch0.least_env, fairChoices_fair.cas, fairChoices_fair.clock, w_frames, w_args, w_heap, w_applies, trivial, trivial, w_case⟩
end start1
theorem witness_1 : WitnessClaimed_1 := ⟨start1.p0, start1.e0, start1.about1, start1.theMethod, start1.args0, start1.below0, start1.atStart⟩
end Jvm.Pilot.@@N@@

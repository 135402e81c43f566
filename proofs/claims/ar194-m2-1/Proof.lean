import JvmDerived
import JvmDerived.Pilot.@@N@@Statement
import JvmDerived.Pilot.@@N@@Code
set_option linter.unusedVariables false
set_option linter.unusedSimpArgs false
namespace Jvm.RoadKit
open Sem ClassFile Op Lib Jvm.Stand Jvm.Free Jvm.LawKit
section New
variable {p : Program} {l : Launch} {e : Env} {R : Room} {s : State} {m : MethodId} {args : Array Value} {below : List Frame} {meth : Method} {c : Code} {T : State} {locs : List Loc} {cells slots : Nat}
theorem retI (X : Stand p l e R s m args below meth c T locs cells slots) (hx : p.tables.exec = Jvm.exec) {pc : Nat} {Ls : Array Slot} {z : Int32} {rest : List Value} (hret : meth.sig.returnType = some .int) (hd : decode c.code pc = .ok (.ireturn, 1)) {fs : List Frame}
    (hl : ∀ (f : JFrame) (acts : List Action), f.method = m → f.locked = none → f.entered = [] → (doReturn e (T.setTop f) acts (some (.int z))).1 = T.setFrames fs) : Steps p.tables e below (T.setTop (mkF m pc Ls (.int z :: rest))) (T.setFrames fs) := by
  have hm' : T.vm.method? m = some meth := X.method'
  have hn : narrow .int (.int z) = .int z := rfl
  show Steps p.tables e below (T.setTop { method := m, pc := pc, locals := Ls, stack := _ :: rest, locked := none }) _
  jvm_step X.here [X.here.top, hx, hd, hm', hret, hn]
  first | (intro acts; rw [hl _ acts rfl rfl rfl]) | rw [hl _ _ rfl rfl rfl]
  exact Steps.refl _
end New
end Jvm.RoadKit
namespace Jvm.Pilot.@@N@@
open Jvm Jvm.ClassFile Sem Op Lib Jvm.Free Jvm.Stand Jvm.LawKit Jvm.RoadKit Bundle Jvm.Pilot.@@N@@.Jvm.D
theorem d1_0 : decode prog_18_method_13_code 0 = .ok (.iload_n 0, 1) := by decide +kernel
theorem d1_1 : decode prog_18_method_13_code 1 = .ok (.i2l, 1) := by decide +kernel
theorem d1_2 : decode prog_18_method_13_code 2 = .ok (.iload_n 1, 1) := by decide +kernel
theorem d1_3 : decode prog_18_method_13_code 3 = .ok (.i2l, 1) := by decide +kernel
theorem d1_4 : decode prog_18_method_13_code 4 = .ok (.ladd, 1) := by decide +kernel
theorem d1_5 : decode prog_18_method_13_code 5 = .ok (.iload_n 2, 1) := by decide +kernel
theorem d1_6 : decode prog_18_method_13_code 6 = .ok (.i2l, 1) := by decide +kernel
theorem d1_7 : decode prog_18_method_13_code 7 = .ok (.lcmp, 1) := by decide +kernel
theorem d1_8 : decode prog_18_method_13_code 8 = .ok (.ifCond .gt 7, 3) := by decide +kernel
theorem d1_15 : decode prog_18_method_13_code 15 = .ok (.iconst 0, 1) := by decide +kernel
theorem d1_16 : decode prog_18_method_13_code 16 = .ok (.ireturn, 1) := by decide +kernel
theorem pn_1 : plainName "com/example/weather_gauge/weathergauge/game/NavalBattle" = true := by first | (simp [plainName, overriddenIn]; done) | decide +kernel
theorem ef_1 (m : MethodId) (x0 : Int32) (x1 : Int32) (x2 : Int32) : entryFrame m #[(.int x0), (.int x1), (.int x2)] 3 = mkF m 0 #[.val (.int x0), .val (.int x1), .val (.int x2)] [] := by first | (simp [entryFrame, mkF, argsToLocals, Value.category]; done) | rfl
theorem d1_11 : decode prog_18_method_13_code 11 = .ok (.iconst 1, 1) := by decide +kernel
theorem d1_12 : decode prog_18_method_13_code 12 = .ok (.goto 4, 3) := by decide +kernel
def F1 (p1 : Int32) (p2 : Int32) (p3 : Int32) : Int32 := (if (0 : Int32) < (lcmpW ((p1.toInt64) + (p2.toInt64)) (p3.toInt64)) then (0 : Int32) else (1 : Int32))
def Q1 (Z : State) (p1 : Int32) (p2 : Int32) (p3 : Int32) (r : Int32) (h0 : Heap) (n0 : Nat) (v : Option Value) (h : Heap) (L : List Loc) : Prop := v = some (.int r) ∧ Fr n0 L ∧ h = h0
set_option maxRecDepth 65536 in
set_option maxHeartbeats 40000000 in
theorem rm1_t (l : Launch) (Z : State) (a0 : Array Value) (hw : ∀ d ∈ tables_1, d.before a0 Z = true) (ws : List Jvm.Cond) (p1 : Int32) (p2 : Int32) (p3 : Int32) (h0 : Heap) (n0 : Nat) (Z0 : n0 ≤ h0.size) (hc8 : (0 : Int32) < (lcmpW ((p1.toInt64) + (p2.toInt64)) (p3.toInt64))) :
    MetFree l (⟨"com/example/weather_gauge/weathergauge/game/NavalBattle", "scores", "(III)Z"⟩ : MethodName) (head1 (Jvm.Cond.code (⟨"com/example/weather_gauge/weathergauge/game/NavalBattle", "scores", "(III)Z"⟩ : MethodName) prog_18_method_13_code 3 (some .boolean) :: ws) ({ frames := 0, cells := 0, slots := 0, locals := 0 } : Room)) (fun a U => a = #[(.int p1), (.int p2), (.int p3)] ∧ Z.Warmed39 U.vm ∧ U.heap = h0) (fun _ _ _ _ _ => True) (fun _ U o U' => ∃ v L, o = .returned v ∧ Q1 Z p1 p2 p3 ((0 : Int32)) h0 n0 v U'.heap L ∧ FrameEnd U o U' L ({ frames := 0, cells := 0, slots := 0, locals := 0 } : Room).cells ({ frames := 0, cells := 0, slots := 0, locals := 0 } : Room).slots) := by
  refine MetFree.of_bodySF (plainFor_of_name pn_1) hisR ?_
  intro p e s m args below meth c s₁ Bd hml0 hP hK
  obtain ⟨rfl, hZ, hh⟩ := hP
  have hx := Bd.exec
  have hby := Bd.bytes
  have hml : c.maxLocals = 3 := hml0
  have hown : s.vm.findClass "com/example/weather_gauge/weathergauge/game/NavalBattle" = some m.cls := findClass_of_methodNamed Bd.named
  have hnm := (name_of_methodNamed Bd.named Bd.method).1
  have X0 : Stand p l e ({ frames := 0, cells := 0, slots := 0, locals := 0 } : Room) s m #[(.int p1), (.int p2), (.int p3)] below meth c s₁ [] 0 0 := Stand.of_body Bd
  have e0 : s₁.heap = h0 := by rw [← hh, Bd.state]; rfl
  have N0 := Fr.nil n0
  have pre0 : ∀ t, Steps p.tables e below (s₁.setTop (mkF m 0 #[.val (.int p1), .val (.int p2), .val (.int p3)] [])) t → Steps p.tables e below (s₁.setTop (entryFrame m #[(.int p1), (.int p2), (.int p3)] 3)) t := fun t k => castTop (ef_1 m p1 p2 p3) k
  -- 3. LAWS

  obtain ⟨fs, hr, hrun, hended, hW, hsame⟩ := X0.leave (v := some (.int (0 : Int32))) (fun h => by rw [Bd.returns] at h; cases h)
  refine ⟨_, _, pre0 _ ?_, hrun, hended, _, _, rfl, ?_, ⟨_, rfl⟩, hW, hsame.mono (by decide) (by decide)⟩
  -- 4. STEPS
  · show Steps p.tables e below (s₁.setTop (mkF m 0 #[.val (.int p1), .val (.int p2), .val (.int p3)] [])) _
    refine XS.iloadN X0.here hx rfl (hb hby d1_0) rfl ?_
    show Steps p.tables e below (s₁.setTop (mkF m 1 #[.val (.int p1), .val (.int p2), .val (.int p3)] [(.int p1)])) _
    refine XS.i2l X0.here hx rfl (hb hby d1_1) rfl ?_
    show Steps p.tables e below (s₁.setTop (mkF m 2 #[.val (.int p1), .val (.int p2), .val (.int p3)] [(.long (p1.toInt64))])) _
    refine XS.iloadN X0.here hx rfl (hb hby d1_2) rfl ?_
    show Steps p.tables e below (s₁.setTop (mkF m 3 #[.val (.int p1), .val (.int p2), .val (.int p3)] [(.int p2), (.long (p1.toInt64))])) _
    refine XS.i2l X0.here hx rfl (hb hby d1_3) rfl ?_
    show Steps p.tables e below (s₁.setTop (mkF m 4 #[.val (.int p1), .val (.int p2), .val (.int p3)] [(.long (p2.toInt64)), (.long (p1.toInt64))])) _
    refine XS.ladd X0.here hx rfl (hb hby d1_4) rfl ?_
    show Steps p.tables e below (s₁.setTop (mkF m 5 #[.val (.int p1), .val (.int p2), .val (.int p3)] [(.long ((p1.toInt64) + (p2.toInt64)))])) _
    refine XS.iloadN X0.here hx rfl (hb hby d1_5) rfl ?_
    show Steps p.tables e below (s₁.setTop (mkF m 6 #[.val (.int p1), .val (.int p2), .val (.int p3)] [(.int p3), (.long ((p1.toInt64) + (p2.toInt64)))])) _
    refine XS.i2l X0.here hx rfl (hb hby d1_6) rfl ?_
    show Steps p.tables e below (s₁.setTop (mkF m 7 #[.val (.int p1), .val (.int p2), .val (.int p3)] [(.long (p3.toInt64)), (.long ((p1.toInt64) + (p2.toInt64)))])) _
    refine XS.lcmp X0.here hx rfl (hb hby d1_7) rfl ?_
    show Steps p.tables e below (s₁.setTop (mkF m 8 #[.val (.int p1), .val (.int p2), .val (.int p3)] [(.int (lcmpW ((p1.toInt64) + (p2.toInt64)) (p3.toInt64)))])) _
    refine XS.ifYes X0.here hx rfl (pc0 := 8) (pc' := 15) rfl (hb hby d1_8) rfl ((if0 _ _).trans (tlt hc8).2.2.1) (by decide) (by decide) ?_
    show Steps p.tables e below (s₁.setTop (mkF m 15 #[.val (.int p1), .val (.int p2), .val (.int p3)] [])) _
    refine XS.iconst X0.here hx rfl (hb hby d1_15) ?_
    show Steps p.tables e below (s₁.setTop (mkF m 16 #[.val (.int p1), .val (.int p2), .val (.int p3)] [(.int (0 : Int32))])) _
    exact retN X0 hx (t := .boolean) Bd.returns (by simp) (hb hby d1_16) hr
  · show Q1 Z p1 p2 p3 ((0 : Int32)) h0 n0 _ s₁.heap _
    rw [e0]
    exact ⟨rfl, N0, rfl⟩
set_option maxRecDepth 65536 in
set_option maxHeartbeats 40000000 in
theorem rm1_f (l : Launch) (Z : State) (a0 : Array Value) (hw : ∀ d ∈ tables_1, d.before a0 Z = true) (ws : List Jvm.Cond) (p1 : Int32) (p2 : Int32) (p3 : Int32) (h0 : Heap) (n0 : Nat) (Z0 : n0 ≤ h0.size) (hc8 : ¬ ((0 : Int32) < (lcmpW ((p1.toInt64) + (p2.toInt64)) (p3.toInt64)))) :
    MetFree l (⟨"com/example/weather_gauge/weathergauge/game/NavalBattle", "scores", "(III)Z"⟩ : MethodName) (head1 (Jvm.Cond.code (⟨"com/example/weather_gauge/weathergauge/game/NavalBattle", "scores", "(III)Z"⟩ : MethodName) prog_18_method_13_code 3 (some .boolean) :: ws) ({ frames := 0, cells := 0, slots := 0, locals := 0 } : Room)) (fun a U => a = #[(.int p1), (.int p2), (.int p3)] ∧ Z.Warmed39 U.vm ∧ U.heap = h0) (fun _ _ _ _ _ => True) (fun _ U o U' => ∃ v L, o = .returned v ∧ Q1 Z p1 p2 p3 ((1 : Int32)) h0 n0 v U'.heap L ∧ FrameEnd U o U' L ({ frames := 0, cells := 0, slots := 0, locals := 0 } : Room).cells ({ frames := 0, cells := 0, slots := 0, locals := 0 } : Room).slots) := by
  refine MetFree.of_bodySF (plainFor_of_name pn_1) hisR ?_
  intro p e s m args below meth c s₁ Bd hml0 hP hK
  obtain ⟨rfl, hZ, hh⟩ := hP
  have hx := Bd.exec
  have hby := Bd.bytes
  have hml : c.maxLocals = 3 := hml0
  have hown : s.vm.findClass "com/example/weather_gauge/weathergauge/game/NavalBattle" = some m.cls := findClass_of_methodNamed Bd.named
  have hnm := (name_of_methodNamed Bd.named Bd.method).1
  have X0 : Stand p l e ({ frames := 0, cells := 0, slots := 0, locals := 0 } : Room) s m #[(.int p1), (.int p2), (.int p3)] below meth c s₁ [] 0 0 := Stand.of_body Bd
  have e0 : s₁.heap = h0 := by rw [← hh, Bd.state]; rfl
  have N0 := Fr.nil n0
  have pre0 : ∀ t, Steps p.tables e below (s₁.setTop (mkF m 0 #[.val (.int p1), .val (.int p2), .val (.int p3)] [])) t → Steps p.tables e below (s₁.setTop (entryFrame m #[(.int p1), (.int p2), (.int p3)] 3)) t := fun t k => castTop (ef_1 m p1 p2 p3) k
  -- 3. LAWS

  obtain ⟨fs, hr, hrun, hended, hW, hsame⟩ := X0.leave (v := some (.int (1 : Int32))) (fun h => by rw [Bd.returns] at h; cases h)
  refine ⟨_, _, pre0 _ ?_, hrun, hended, _, _, rfl, ?_, ⟨_, rfl⟩, hW, hsame.mono (by decide) (by decide)⟩
  -- 4. STEPS
  · show Steps p.tables e below (s₁.setTop (mkF m 0 #[.val (.int p1), .val (.int p2), .val (.int p3)] [])) _
    refine XS.iloadN X0.here hx rfl (hb hby d1_0) rfl ?_
    show Steps p.tables e below (s₁.setTop (mkF m 1 #[.val (.int p1), .val (.int p2), .val (.int p3)] [(.int p1)])) _
    refine XS.i2l X0.here hx rfl (hb hby d1_1) rfl ?_
    show Steps p.tables e below (s₁.setTop (mkF m 2 #[.val (.int p1), .val (.int p2), .val (.int p3)] [(.long (p1.toInt64))])) _
    refine XS.iloadN X0.here hx rfl (hb hby d1_2) rfl ?_
    show Steps p.tables e below (s₁.setTop (mkF m 3 #[.val (.int p1), .val (.int p2), .val (.int p3)] [(.int p2), (.long (p1.toInt64))])) _
    refine XS.i2l X0.here hx rfl (hb hby d1_3) rfl ?_
    show Steps p.tables e below (s₁.setTop (mkF m 4 #[.val (.int p1), .val (.int p2), .val (.int p3)] [(.long (p2.toInt64)), (.long (p1.toInt64))])) _
    refine XS.ladd X0.here hx rfl (hb hby d1_4) rfl ?_
    show Steps p.tables e below (s₁.setTop (mkF m 5 #[.val (.int p1), .val (.int p2), .val (.int p3)] [(.long ((p1.toInt64) + (p2.toInt64)))])) _
    refine XS.iloadN X0.here hx rfl (hb hby d1_5) rfl ?_
    show Steps p.tables e below (s₁.setTop (mkF m 6 #[.val (.int p1), .val (.int p2), .val (.int p3)] [(.int p3), (.long ((p1.toInt64) + (p2.toInt64)))])) _
    refine XS.i2l X0.here hx rfl (hb hby d1_6) rfl ?_
    show Steps p.tables e below (s₁.setTop (mkF m 7 #[.val (.int p1), .val (.int p2), .val (.int p3)] [(.long (p3.toInt64)), (.long ((p1.toInt64) + (p2.toInt64)))])) _
    refine XS.lcmp X0.here hx rfl (hb hby d1_7) rfl ?_
    show Steps p.tables e below (s₁.setTop (mkF m 8 #[.val (.int p1), .val (.int p2), .val (.int p3)] [(.int (lcmpW ((p1.toInt64) + (p2.toInt64)) (p3.toInt64)))])) _
    refine XS.ifNo X0.here hx rfl (hb hby d1_8) rfl ((if0 _ _).trans (flt hc8).2.2.1) ?_
    show Steps p.tables e below (s₁.setTop (mkF m 11 #[.val (.int p1), .val (.int p2), .val (.int p3)] [])) _
    refine XS.iconst X0.here hx rfl (hb hby d1_11) ?_
    show Steps p.tables e below (s₁.setTop (mkF m 12 #[.val (.int p1), .val (.int p2), .val (.int p3)] [(.int (1 : Int32))])) _
    refine XS.goto X0.here hx rfl (pc0 := 12) (pc' := 16) rfl (hb hby d1_12) (by decide) (by decide) ?_
    show Steps p.tables e below (s₁.setTop (mkF m 16 #[.val (.int p1), .val (.int p2), .val (.int p3)] [(.int (1 : Int32))])) _
    exact retN X0 hx (t := .boolean) Bd.returns (by simp) (hb hby d1_16) hr
  · show Q1 Z p1 p2 p3 ((1 : Int32)) h0 n0 _ s₁.heap _
    rw [e0]
    exact ⟨rfl, N0, rfl⟩
theorem rm1 (l : Launch) (Z : State) (a0 : Array Value) (hw : ∀ d ∈ tables_1, d.before a0 Z = true) (ws : List Jvm.Cond) (p1 : Int32) (p2 : Int32) (p3 : Int32) (h0 : Heap) (n0 : Nat) (Z0 : n0 ≤ h0.size) :
    MetFree l (⟨"com/example/weather_gauge/weathergauge/game/NavalBattle", "scores", "(III)Z"⟩ : MethodName) (head1 (Jvm.Cond.code (⟨"com/example/weather_gauge/weathergauge/game/NavalBattle", "scores", "(III)Z"⟩ : MethodName) prog_18_method_13_code 3 (some .boolean) :: ws) ({ frames := 0, cells := 0, slots := 0, locals := 0 } : Room)) (fun a U => a = #[(.int p1), (.int p2), (.int p3)] ∧ Z.Warmed39 U.vm ∧ U.heap = h0) (fun _ _ _ _ _ => True) (fun _ U o U' => ∃ v L, o = .returned v ∧ Q1 Z p1 p2 p3 (F1 p1 p2 p3) h0 n0 v U'.heap L ∧ FrameEnd U o U' L ({ frames := 0, cells := 0, slots := 0, locals := 0 } : Room).cells ({ frames := 0, cells := 0, slots := 0, locals := 0 } : Room).slots) := by
  by_cases hc8 : (0 : Int32) < (lcmpW ((p1.toInt64) + (p2.toInt64)) (p3.toInt64))
  · have hF : F1 p1 p2 p3 = (0 : Int32) := by simp only [F1, if_pos hc8]
    rw [hF]
    exact rm1_t l Z a0 hw ws p1 p2 p3 h0 n0 Z0 hc8
  · have hF : F1 p1 p2 p3 = (1 : Int32) := by simp only [F1, if_neg hc8]
    rw [hF]
    exact rm1_f l Z a0 hw ws p1 p2 p3 h0 n0 Z0 hc8
theorem own_key (a b g : Int32) : ((g.toInt64 - a.toInt64) - b.toInt64 < (0 : Int64)) ↔ (g.toInt64 < a.toInt64 + b.toInt64) := by
  rw [Int64.lt_iff_toInt_lt, Int64.lt_iff_toInt_lt]
  have h1 := c_lsub (g.toInt64 - a.toInt64) b.toInt64
  have h2 := c_lsub g.toInt64 a.toInt64
  have h3 := c_ladd a.toInt64 b.toInt64
  have r1 := rng64 ((g.toInt64 - a.toInt64) - b.toInt64)
  have r2 := rng64 (g.toInt64 - a.toInt64)
  have r3 := rng64 (a.toInt64 + b.toInt64)
  have ra := rng32 a
  have rb := rng32 b
  have rg := rng32 g
  have ca := c_i2l a
  have cb := c_i2l b
  have cg := c_i2l g
  have z : (0 : Int64).toInt = 0 := rfl
  rw [z]
  omega
theorem own_neg (a b g : Int32) (h : lcmpW ((g.toInt64 - a.toInt64) - b.toInt64) (0 : Int64) < (0 : Int32)) : F1 a b g = (0 : Int32) := by
  have h' := (lw_gt _ _).mpr ((own_key a b g).mp ((lw_lt _ _).mp h))
  simp only [F1]
  exact if_pos h'
theorem own_pos (a b g : Int32) (h : ¬ (lcmpW ((g.toInt64 - a.toInt64) - b.toInt64) (0 : Int64) < (0 : Int32))) : F1 a b g = (1 : Int32) := by
  have h' : ¬ ((0 : Int32) < lcmpW (a.toInt64 + b.toInt64) g.toInt64) := fun q => h ((lw_lt _ _).mpr ((own_key a b g).mpr ((lw_gt _ _).mp q)))
  simp only [F1]
  exact if_neg h'
theorem own_sym (a b g : Int32) : F1 b a g = F1 a b g := by
  simp only [F1]
  rw [Int64.add_comm b.toInt64 a.toInt64]
theorem pn_0 : plainName "com/example/weather_gauge/weathergauge/game/NavalBattleScoresPinLaw" = true := by first | (simp [plainName, overriddenIn]; done) | decide +kernel
theorem pd_0_0 : parseMethodDescriptor "(III)Z" = some ⟨[.int, .int, .int], some .boolean⟩ := by decide +kernel
theorem ef_0 (m : MethodId) (x0 : Int32) (x1 : Int32) (x2 : Int32) (x3 : Int32) : entryFrame m #[(.int x0), (.int x1), (.int x2), (.int x3)] maxLocals = mkF m 0 #[.val (.int x0), .val (.int x1), .val (.int x2), .val (.int x3), .unset, .unset, .unset, .unset, .unset, .unset] [] := by first | (simp [entryFrame, mkF, argsToLocals, Value.category, maxLocals]; done) | rfl
def Q0 (Z : State) (p1 : Int32) (p2 : Int32) (p3 : Int32) (p4 : Int32) (h0 : Heap) (n0 : Nat) (v : Option Value) (h : Heap) (L : List Loc) : Prop := v = some (.int (1 : Int32)) ∧ Fr n0 L
set_option maxRecDepth 65536 in
set_option maxHeartbeats 40000000 in
theorem rm0_ttff (l : Launch) (Z : State) (a0 : Array Value) (hw : ∀ d ∈ tables_1, d.before a0 Z = true) (ws : List Jvm.Cond) (p1 : Int32) (p2 : Int32) (p3 : Int32) (p4 : Int32) (h0 : Heap) (n0 : Nat) (Z0 : n0 ≤ h0.size) (hc6 : (p4 &&& (1 : Int32)) = (0 : Int32)) (hc63 : (lcmpW (((p3.toInt64) - (p1.toInt64)) - (p2.toInt64)) (0 : Int64)) < (0 : Int32)) :
    MetFree l x (head1 (Jvm.Cond.code x code maxLocals ret :: ws) room_1) (fun a U => a = #[(.int p1), (.int p2), (.int p3), (.int p4)] ∧ Z.Warmed39 U.vm ∧ U.heap = h0) (fun _ _ _ _ _ => True) (fun _ U o U' => ∃ v L, o = .returned v ∧ Q0 Z p1 p2 p3 p4 h0 n0 v U'.heap L ∧ FrameEnd U o U' L room_1.cells room_1.slots) := by
  refine MetFree.of_bodySF (plainFor_of_name pn_0) hisR ?_
  intro p e s m args below meth c s₁ Bd hml0 hP hK
  obtain ⟨rfl, hZ, hh⟩ := hP
  have hx := Bd.exec
  have hby := Bd.bytes
  have hml : c.maxLocals = 10 := hml0
  have hown : s.vm.findClass "com/example/weather_gauge/weathergauge/game/NavalBattleScoresPinLaw" = some m.cls := findClass_of_methodNamed Bd.named
  have hnm := (name_of_methodNamed Bd.named Bd.method).1
  have X0 : Stand p l e room_1 s m #[(.int p1), (.int p2), (.int p3), (.int p4)] below meth c s₁ [] 0 0 := Stand.of_body Bd
  have e0 : s₁.heap = h0 := by rw [← hh, Bd.state]; rfl
  have N0 := Fr.nil n0
  have pre0 : ∀ t, Steps p.tables e below (s₁.setTop (mkF m 0 #[.val (.int p1), .val (.int p2), .val (.int p3), .val (.int p4), .unset, .unset, .unset, .unset, .unset, .unset] [])) t → Steps p.tables e below (s₁.setTop (entryFrame m #[(.int p1), (.int p2), (.int p3), (.int p4)] maxLocals)) t := fun t k => castTop (ef_0 m p1 p2 p3 p4) k
  -- 3. LAWS
  -- pc 77: com/example/weather_gauge/weathergauge/game/NavalBattle.scores by its contract rm1
  obtain ⟨_, _, ⟨T5, L5, k5, n5⟩, -, X5, ⟨Lc5, hQ5, l5, y5, z5⟩, st5⟩ := Jvm.LawKit.callS X0 hx (y := (⟨"com/example/weather_gauge/weathergauge/game/NavalBattle", "scores", "(III)Z"⟩ : MethodName)) hown (mvT hZ (hw _ (List.mem_of_getElem? (i := 2) rfl))) (mvT hZ (hw _ (List.mem_of_getElem? (i := 3) rfl))) (mvT hZ (hw _ (List.mem_of_getElem? (i := 4) rfl))) (mvT hZ (hw _ (List.mem_of_getElem? (i := 5) rfl))) (by decide) (backOf (W := 0) (rm1 l Z a0 hw [] p1 p2 p3 h0 n0 Z0) hZ (hw _ (List.mem_of_getElem? (i := 5) rfl)) (hw _ (List.mem_of_getElem? (i := 4) rfl)) (by decide) (by decide)) (g := (mkF m 77 #[.val (.int p1), .val (.int p2), .val (.int p3), .val (.int p4), .val (.int p3), .val (.long (((p3.toInt64) - (p1.toInt64)) - (p2.toInt64))), .second, .val (.int (0 : Int32)), .unset, .unset] [(.int p3), (.int p2), (.int p1)])) rfl (by rw [hml]; rfl) (argsL := [(.int p1), (.int p2), (.int p3)]) (rest := []) (lenOf pd_0_0 rfl) rfl (by show 2 * 0 + _ ≤ _; exact Nat.le_of_eq rfl) (hb hby at_77) (fun _ _ => ⟨rfl, e0, (by decide : 0 + 0 ≤ _), (by decide : 0 + 0 ≤ _)⟩)
  dsimp only [Pt.U, Pt.locs, Pt.cells, Pt.slots] at X5 l5 y5 z5 st5 hQ5
  subst l5 y5 z5
  obtain ⟨rfl, N5q, q5⟩ := hQ5      -- what it returned, that it wrote nothing old, and the rest of your Q1
  have H5 : n0 ≤ T5.heap.size := by rw [q5]; exact Z0
  have N5 := Fr.app N0 N5q
  -- pc 86: com/example/weather_gauge/weathergauge/game/NavalBattle.scores by its contract rm1
  obtain ⟨_, _, ⟨T6, L6, k6, n6⟩, -, X6, ⟨Lc6, hQ6, l6, y6, z6⟩, st6⟩ := Jvm.LawKit.callS X5 hx (y := (⟨"com/example/weather_gauge/weathergauge/game/NavalBattle", "scores", "(III)Z"⟩ : MethodName)) hown (mvT hZ (hw _ (List.mem_of_getElem? (i := 2) rfl))) (mvT hZ (hw _ (List.mem_of_getElem? (i := 3) rfl))) (mvT hZ (hw _ (List.mem_of_getElem? (i := 4) rfl))) (mvT hZ (hw _ (List.mem_of_getElem? (i := 5) rfl))) (by decide) (backOf (W := 0) (rm1 l Z a0 hw [] p2 p1 p3 T5.heap n0 H5) hZ (hw _ (List.mem_of_getElem? (i := 5) rfl)) (hw _ (List.mem_of_getElem? (i := 4) rfl)) (by decide) (by decide)) (g := (mkF m 86 #[.val (.int p1), .val (.int p2), .val (.int p3), .val (.int p4), .val (.int p3), .val (.long (((p3.toInt64) - (p1.toInt64)) - (p2.toInt64))), .second, .val (.int (0 : Int32)), .val (.int (F1 p1 p2 p3)), .unset] [(.int p3), (.int p1), (.int p2)])) rfl (by rw [hml]; rfl) (argsL := [(.int p2), (.int p1), (.int p3)]) (rest := []) (lenOf pd_0_0 rfl) rfl (by show 2 * 0 + _ ≤ _; exact Nat.le_of_eq rfl) (hb hby at_86) (fun _ _ => ⟨rfl, rfl, (by decide : 0 + 0 ≤ _), (by decide : 0 + 0 ≤ _)⟩)
  dsimp only [Pt.U, Pt.locs, Pt.cells, Pt.slots] at X6 l6 y6 z6 st6 hQ6
  subst l6 y6 z6
  obtain ⟨rfl, N6q, q6⟩ := hQ6      -- what it returned, that it wrote nothing old, and the rest of your Q1
  have H6 : n0 ≤ T6.heap.size := by rw [q6]; exact H5
  have N6 := Fr.app N5 N6q
  obtain ⟨fs, hr, hrun, hended, hW, hsame⟩ := X6.leave (v := some (.int (1 : Int32))) (fun h => by rw [Bd.returns] at h; cases h)
  refine ⟨_, _, pre0 _ ?_, hrun, hended, _, _, rfl, ?_, ⟨_, rfl⟩, hW, hsame.mono (by decide) (by decide)⟩
  -- 4. STEPS
  · show Steps p.tables e below (s₁.setTop (mkF m 0 #[.val (.int p1), .val (.int p2), .val (.int p3), .val (.int p4), .unset, .unset, .unset, .unset, .unset, .unset] [])) _
    refine XS.iloadN X0.here hx rfl (hb hby at_0) rfl ?_
    show Steps p.tables e below (s₁.setTop (mkF m 1 #[.val (.int p1), .val (.int p2), .val (.int p3), .val (.int p4), .unset, .unset, .unset, .unset, .unset, .unset] [(.int p3)])) _
    refine XS.istore X0.here hx rfl (hb hby at_1) rfl (l' := #[.val (.int p1), .val (.int p2), .val (.int p3), .val (.int p4), .val (.int p3), .unset, .unset, .unset, .unset, .unset]) rfl ?_
    show Steps p.tables e below (s₁.setTop (mkF m 3 #[.val (.int p1), .val (.int p2), .val (.int p3), .val (.int p4), .val (.int p3), .unset, .unset, .unset, .unset, .unset] [])) _
    refine XS.iloadN X0.here hx rfl (hb hby at_3) rfl ?_
    show Steps p.tables e below (s₁.setTop (mkF m 4 #[.val (.int p1), .val (.int p2), .val (.int p3), .val (.int p4), .val (.int p3), .unset, .unset, .unset, .unset, .unset] [(.int p4)])) _
    refine XS.iconst X0.here hx rfl (hb hby at_4) ?_
    show Steps p.tables e below (s₁.setTop (mkF m 5 #[.val (.int p1), .val (.int p2), .val (.int p3), .val (.int p4), .val (.int p3), .unset, .unset, .unset, .unset, .unset] [(.int (1 : Int32)), (.int p4)])) _
    refine XS.iand X0.here hx rfl (hb hby at_5) rfl ?_
    show Steps p.tables e below (s₁.setTop (mkF m 6 #[.val (.int p1), .val (.int p2), .val (.int p3), .val (.int p4), .val (.int p3), .unset, .unset, .unset, .unset, .unset] [(.int (p4 &&& (1 : Int32)))])) _
    refine XS.ifYes X0.here hx rfl (pc0 := 6) (pc' := 48) rfl (hb hby at_6) rfl ((if0 _ _).trans (teq hc6).1) (by decide) (by decide) ?_
    show Steps p.tables e below (s₁.setTop (mkF m 48 #[.val (.int p1), .val (.int p2), .val (.int p3), .val (.int p4), .val (.int p3), .unset, .unset, .unset, .unset, .unset] [])) _
    refine XS.iload X0.here hx rfl (hb hby at_48) rfl ?_
    show Steps p.tables e below (s₁.setTop (mkF m 50 #[.val (.int p1), .val (.int p2), .val (.int p3), .val (.int p4), .val (.int p3), .unset, .unset, .unset, .unset, .unset] [(.int p3)])) _
    refine XS.i2l X0.here hx rfl (hb hby at_50) rfl ?_
    show Steps p.tables e below (s₁.setTop (mkF m 51 #[.val (.int p1), .val (.int p2), .val (.int p3), .val (.int p4), .val (.int p3), .unset, .unset, .unset, .unset, .unset] [(.long (p3.toInt64))])) _
    refine XS.iloadN X0.here hx rfl (hb hby at_51) rfl ?_
    show Steps p.tables e below (s₁.setTop (mkF m 52 #[.val (.int p1), .val (.int p2), .val (.int p3), .val (.int p4), .val (.int p3), .unset, .unset, .unset, .unset, .unset] [(.int p1), (.long (p3.toInt64))])) _
    refine XS.i2l X0.here hx rfl (hb hby at_52) rfl ?_
    show Steps p.tables e below (s₁.setTop (mkF m 53 #[.val (.int p1), .val (.int p2), .val (.int p3), .val (.int p4), .val (.int p3), .unset, .unset, .unset, .unset, .unset] [(.long (p1.toInt64)), (.long (p3.toInt64))])) _
    refine XS.lsub X0.here hx rfl (hb hby at_53) rfl ?_
    show Steps p.tables e below (s₁.setTop (mkF m 54 #[.val (.int p1), .val (.int p2), .val (.int p3), .val (.int p4), .val (.int p3), .unset, .unset, .unset, .unset, .unset] [(.long ((p3.toInt64) - (p1.toInt64)))])) _
    refine XS.iloadN X0.here hx rfl (hb hby at_54) rfl ?_
    show Steps p.tables e below (s₁.setTop (mkF m 55 #[.val (.int p1), .val (.int p2), .val (.int p3), .val (.int p4), .val (.int p3), .unset, .unset, .unset, .unset, .unset] [(.int p2), (.long ((p3.toInt64) - (p1.toInt64)))])) _
    refine XS.i2l X0.here hx rfl (hb hby at_55) rfl ?_
    show Steps p.tables e below (s₁.setTop (mkF m 56 #[.val (.int p1), .val (.int p2), .val (.int p3), .val (.int p4), .val (.int p3), .unset, .unset, .unset, .unset, .unset] [(.long (p2.toInt64)), (.long ((p3.toInt64) - (p1.toInt64)))])) _
    refine XS.lsub X0.here hx rfl (hb hby at_56) rfl ?_
    show Steps p.tables e below (s₁.setTop (mkF m 57 #[.val (.int p1), .val (.int p2), .val (.int p3), .val (.int p4), .val (.int p3), .unset, .unset, .unset, .unset, .unset] [(.long (((p3.toInt64) - (p1.toInt64)) - (p2.toInt64)))])) _
    refine XS.lstore X0.here hx rfl (hb hby at_57) rfl (l' := #[.val (.int p1), .val (.int p2), .val (.int p3), .val (.int p4), .val (.int p3), .val (.long (((p3.toInt64) - (p1.toInt64)) - (p2.toInt64))), .second, .unset, .unset, .unset]) rfl ?_
    show Steps p.tables e below (s₁.setTop (mkF m 59 #[.val (.int p1), .val (.int p2), .val (.int p3), .val (.int p4), .val (.int p3), .val (.long (((p3.toInt64) - (p1.toInt64)) - (p2.toInt64))), .second, .unset, .unset, .unset] [])) _
    refine XS.lload X0.here hx rfl (hb hby at_59) rfl ?_
    show Steps p.tables e below (s₁.setTop (mkF m 61 #[.val (.int p1), .val (.int p2), .val (.int p3), .val (.int p4), .val (.int p3), .val (.long (((p3.toInt64) - (p1.toInt64)) - (p2.toInt64))), .second, .unset, .unset, .unset] [(.long (((p3.toInt64) - (p1.toInt64)) - (p2.toInt64)))])) _
    refine XS.lconst X0.here hx rfl (hb hby at_61) ?_
    show Steps p.tables e below (s₁.setTop (mkF m 62 #[.val (.int p1), .val (.int p2), .val (.int p3), .val (.int p4), .val (.int p3), .val (.long (((p3.toInt64) - (p1.toInt64)) - (p2.toInt64))), .second, .unset, .unset, .unset] [(.long (0 : Int64)), (.long (((p3.toInt64) - (p1.toInt64)) - (p2.toInt64)))])) _
    refine XS.lcmp X0.here hx rfl (hb hby at_62) rfl ?_
    show Steps p.tables e below (s₁.setTop (mkF m 63 #[.val (.int p1), .val (.int p2), .val (.int p3), .val (.int p4), .val (.int p3), .val (.long (((p3.toInt64) - (p1.toInt64)) - (p2.toInt64))), .second, .unset, .unset, .unset] [(.int (lcmpW (((p3.toInt64) - (p1.toInt64)) - (p2.toInt64)) (0 : Int64)))])) _
    refine XS.ifYes X0.here hx rfl (pc0 := 63) (pc' := 70) rfl (hb hby at_63) rfl ((if0 _ _).trans (tlt hc63).1) (by decide) (by decide) ?_
    show Steps p.tables e below (s₁.setTop (mkF m 70 #[.val (.int p1), .val (.int p2), .val (.int p3), .val (.int p4), .val (.int p3), .val (.long (((p3.toInt64) - (p1.toInt64)) - (p2.toInt64))), .second, .unset, .unset, .unset] [])) _
    refine XS.iconst X0.here hx rfl (hb hby at_70) ?_
    show Steps p.tables e below (s₁.setTop (mkF m 71 #[.val (.int p1), .val (.int p2), .val (.int p3), .val (.int p4), .val (.int p3), .val (.long (((p3.toInt64) - (p1.toInt64)) - (p2.toInt64))), .second, .unset, .unset, .unset] [(.int (0 : Int32))])) _
    refine XS.istore X0.here hx rfl (hb hby at_71) rfl (l' := #[.val (.int p1), .val (.int p2), .val (.int p3), .val (.int p4), .val (.int p3), .val (.long (((p3.toInt64) - (p1.toInt64)) - (p2.toInt64))), .second, .val (.int (0 : Int32)), .unset, .unset]) rfl ?_
    show Steps p.tables e below (s₁.setTop (mkF m 73 #[.val (.int p1), .val (.int p2), .val (.int p3), .val (.int p4), .val (.int p3), .val (.long (((p3.toInt64) - (p1.toInt64)) - (p2.toInt64))), .second, .val (.int (0 : Int32)), .unset, .unset] [])) _
    refine XS.iloadN X0.here hx rfl (hb hby at_73) rfl ?_
    show Steps p.tables e below (s₁.setTop (mkF m 74 #[.val (.int p1), .val (.int p2), .val (.int p3), .val (.int p4), .val (.int p3), .val (.long (((p3.toInt64) - (p1.toInt64)) - (p2.toInt64))), .second, .val (.int (0 : Int32)), .unset, .unset] [(.int p1)])) _
    refine XS.iloadN X0.here hx rfl (hb hby at_74) rfl ?_
    show Steps p.tables e below (s₁.setTop (mkF m 75 #[.val (.int p1), .val (.int p2), .val (.int p3), .val (.int p4), .val (.int p3), .val (.long (((p3.toInt64) - (p1.toInt64)) - (p2.toInt64))), .second, .val (.int (0 : Int32)), .unset, .unset] [(.int p2), (.int p1)])) _
    refine XS.iload X0.here hx rfl (hb hby at_75) rfl ?_
    show Steps p.tables e below (s₁.setTop (mkF m 77 #[.val (.int p1), .val (.int p2), .val (.int p3), .val (.int p4), .val (.int p3), .val (.long (((p3.toInt64) - (p1.toInt64)) - (p2.toInt64))), .second, .val (.int (0 : Int32)), .unset, .unset] [(.int p3), (.int p2), (.int p1)])) _
    refine st5 _ ?_
    show Steps p.tables e below (T5.setTop (mkF m 80 #[.val (.int p1), .val (.int p2), .val (.int p3), .val (.int p4), .val (.int p3), .val (.long (((p3.toInt64) - (p1.toInt64)) - (p2.toInt64))), .second, .val (.int (0 : Int32)), .unset, .unset] [(.int (F1 p1 p2 p3))])) _
    refine XS.istore X5.here hx rfl (hb hby at_80) rfl (l' := #[.val (.int p1), .val (.int p2), .val (.int p3), .val (.int p4), .val (.int p3), .val (.long (((p3.toInt64) - (p1.toInt64)) - (p2.toInt64))), .second, .val (.int (0 : Int32)), .val (.int (F1 p1 p2 p3)), .unset]) rfl ?_
    show Steps p.tables e below (T5.setTop (mkF m 82 #[.val (.int p1), .val (.int p2), .val (.int p3), .val (.int p4), .val (.int p3), .val (.long (((p3.toInt64) - (p1.toInt64)) - (p2.toInt64))), .second, .val (.int (0 : Int32)), .val (.int (F1 p1 p2 p3)), .unset] [])) _
    refine XS.iloadN X5.here hx rfl (hb hby at_82) rfl ?_
    show Steps p.tables e below (T5.setTop (mkF m 83 #[.val (.int p1), .val (.int p2), .val (.int p3), .val (.int p4), .val (.int p3), .val (.long (((p3.toInt64) - (p1.toInt64)) - (p2.toInt64))), .second, .val (.int (0 : Int32)), .val (.int (F1 p1 p2 p3)), .unset] [(.int p2)])) _
    refine XS.iloadN X5.here hx rfl (hb hby at_83) rfl ?_
    show Steps p.tables e below (T5.setTop (mkF m 84 #[.val (.int p1), .val (.int p2), .val (.int p3), .val (.int p4), .val (.int p3), .val (.long (((p3.toInt64) - (p1.toInt64)) - (p2.toInt64))), .second, .val (.int (0 : Int32)), .val (.int (F1 p1 p2 p3)), .unset] [(.int p1), (.int p2)])) _
    refine XS.iload X5.here hx rfl (hb hby at_84) rfl ?_
    show Steps p.tables e below (T5.setTop (mkF m 86 #[.val (.int p1), .val (.int p2), .val (.int p3), .val (.int p4), .val (.int p3), .val (.long (((p3.toInt64) - (p1.toInt64)) - (p2.toInt64))), .second, .val (.int (0 : Int32)), .val (.int (F1 p1 p2 p3)), .unset] [(.int p3), (.int p1), (.int p2)])) _
    refine st6 _ ?_
    show Steps p.tables e below (T6.setTop (mkF m 89 #[.val (.int p1), .val (.int p2), .val (.int p3), .val (.int p4), .val (.int p3), .val (.long (((p3.toInt64) - (p1.toInt64)) - (p2.toInt64))), .second, .val (.int (0 : Int32)), .val (.int (F1 p1 p2 p3)), .unset] [(.int (F1 p2 p1 p3))])) _
    refine XS.istore X6.here hx rfl (hb hby at_89) rfl (l' := #[.val (.int p1), .val (.int p2), .val (.int p3), .val (.int p4), .val (.int p3), .val (.long (((p3.toInt64) - (p1.toInt64)) - (p2.toInt64))), .second, .val (.int (0 : Int32)), .val (.int (F1 p1 p2 p3)), .val (.int (F1 p2 p1 p3))]) rfl ?_
    show Steps p.tables e below (T6.setTop (mkF m 91 #[.val (.int p1), .val (.int p2), .val (.int p3), .val (.int p4), .val (.int p3), .val (.long (((p3.toInt64) - (p1.toInt64)) - (p2.toInt64))), .second, .val (.int (0 : Int32)), .val (.int (F1 p1 p2 p3)), .val (.int (F1 p2 p1 p3))] [])) _
    refine XS.iload X6.here hx rfl (hb hby at_91) rfl ?_
    show Steps p.tables e below (T6.setTop (mkF m 93 #[.val (.int p1), .val (.int p2), .val (.int p3), .val (.int p4), .val (.int p3), .val (.long (((p3.toInt64) - (p1.toInt64)) - (p2.toInt64))), .second, .val (.int (0 : Int32)), .val (.int (F1 p1 p2 p3)), .val (.int (F1 p2 p1 p3))] [(.int (F1 p1 p2 p3))])) _
    refine XS.iload X6.here hx rfl (hb hby at_93) rfl ?_
    show Steps p.tables e below (T6.setTop (mkF m 95 #[.val (.int p1), .val (.int p2), .val (.int p3), .val (.int p4), .val (.int p3), .val (.long (((p3.toInt64) - (p1.toInt64)) - (p2.toInt64))), .second, .val (.int (0 : Int32)), .val (.int (F1 p1 p2 p3)), .val (.int (F1 p2 p1 p3))] [(.int (0 : Int32)), (.int (F1 p1 p2 p3))])) _
    refine XS.icmpNo X6.here hx rfl (hb hby at_95) rfl (teq (own_neg _ _ _ hc63 : (F1 p1 p2 p3) = (0 : Int32))).2 ?_
    show Steps p.tables e below (T6.setTop (mkF m 98 #[.val (.int p1), .val (.int p2), .val (.int p3), .val (.int p4), .val (.int p3), .val (.long (((p3.toInt64) - (p1.toInt64)) - (p2.toInt64))), .second, .val (.int (0 : Int32)), .val (.int (F1 p1 p2 p3)), .val (.int (F1 p2 p1 p3))] [])) _
    refine XS.iload X6.here hx rfl (hb hby at_98) rfl ?_
    show Steps p.tables e below (T6.setTop (mkF m 100 #[.val (.int p1), .val (.int p2), .val (.int p3), .val (.int p4), .val (.int p3), .val (.long (((p3.toInt64) - (p1.toInt64)) - (p2.toInt64))), .second, .val (.int (0 : Int32)), .val (.int (F1 p1 p2 p3)), .val (.int (F1 p2 p1 p3))] [(.int (F1 p2 p1 p3))])) _
    refine XS.iload X6.here hx rfl (hb hby at_100) rfl ?_
    show Steps p.tables e below (T6.setTop (mkF m 102 #[.val (.int p1), .val (.int p2), .val (.int p3), .val (.int p4), .val (.int p3), .val (.long (((p3.toInt64) - (p1.toInt64)) - (p2.toInt64))), .second, .val (.int (0 : Int32)), .val (.int (F1 p1 p2 p3)), .val (.int (F1 p2 p1 p3))] [(.int (F1 p1 p2 p3)), (.int (F1 p2 p1 p3))])) _
    refine XS.icmpNo X6.here hx rfl (hb hby at_102) rfl (teq (own_sym _ _ _ : (F1 p2 p1 p3) = (F1 p1 p2 p3))).2 ?_
    show Steps p.tables e below (T6.setTop (mkF m 105 #[.val (.int p1), .val (.int p2), .val (.int p3), .val (.int p4), .val (.int p3), .val (.long (((p3.toInt64) - (p1.toInt64)) - (p2.toInt64))), .second, .val (.int (0 : Int32)), .val (.int (F1 p1 p2 p3)), .val (.int (F1 p2 p1 p3))] [])) _
    refine XS.iconst X6.here hx rfl (hb hby at_105) ?_
    show Steps p.tables e below (T6.setTop (mkF m 106 #[.val (.int p1), .val (.int p2), .val (.int p3), .val (.int p4), .val (.int p3), .val (.long (((p3.toInt64) - (p1.toInt64)) - (p2.toInt64))), .second, .val (.int (0 : Int32)), .val (.int (F1 p1 p2 p3)), .val (.int (F1 p2 p1 p3))] [(.int (1 : Int32))])) _
    refine XS.goto X6.here hx rfl (pc0 := 106) (pc' := 110) rfl (hb hby at_106) (by decide) (by decide) ?_
    show Steps p.tables e below (T6.setTop (mkF m 110 #[.val (.int p1), .val (.int p2), .val (.int p3), .val (.int p4), .val (.int p3), .val (.long (((p3.toInt64) - (p1.toInt64)) - (p2.toInt64))), .second, .val (.int (0 : Int32)), .val (.int (F1 p1 p2 p3)), .val (.int (F1 p2 p1 p3))] [(.int (1 : Int32))])) _
    exact retN X6 hx (t := .boolean) Bd.returns (by simp) (hb hby at_110) hr
  · show Q0 Z p1 p2 p3 p4 h0 n0 _ T6.heap _
    exact ⟨rfl, N6⟩
set_option maxRecDepth 65536 in
set_option maxHeartbeats 40000000 in
theorem rm0_tfff (l : Launch) (Z : State) (a0 : Array Value) (hw : ∀ d ∈ tables_1, d.before a0 Z = true) (ws : List Jvm.Cond) (p1 : Int32) (p2 : Int32) (p3 : Int32) (p4 : Int32) (h0 : Heap) (n0 : Nat) (Z0 : n0 ≤ h0.size) (hc6 : (p4 &&& (1 : Int32)) = (0 : Int32)) (hc63 : ¬ ((lcmpW (((p3.toInt64) - (p1.toInt64)) - (p2.toInt64)) (0 : Int64)) < (0 : Int32))) :
    MetFree l x (head1 (Jvm.Cond.code x code maxLocals ret :: ws) room_1) (fun a U => a = #[(.int p1), (.int p2), (.int p3), (.int p4)] ∧ Z.Warmed39 U.vm ∧ U.heap = h0) (fun _ _ _ _ _ => True) (fun _ U o U' => ∃ v L, o = .returned v ∧ Q0 Z p1 p2 p3 p4 h0 n0 v U'.heap L ∧ FrameEnd U o U' L room_1.cells room_1.slots) := by
  refine MetFree.of_bodySF (plainFor_of_name pn_0) hisR ?_
  intro p e s m args below meth c s₁ Bd hml0 hP hK
  obtain ⟨rfl, hZ, hh⟩ := hP
  have hx := Bd.exec
  have hby := Bd.bytes
  have hml : c.maxLocals = 10 := hml0
  have hown : s.vm.findClass "com/example/weather_gauge/weathergauge/game/NavalBattleScoresPinLaw" = some m.cls := findClass_of_methodNamed Bd.named
  have hnm := (name_of_methodNamed Bd.named Bd.method).1
  have X0 : Stand p l e room_1 s m #[(.int p1), (.int p2), (.int p3), (.int p4)] below meth c s₁ [] 0 0 := Stand.of_body Bd
  have e0 : s₁.heap = h0 := by rw [← hh, Bd.state]; rfl
  have N0 := Fr.nil n0
  have pre0 : ∀ t, Steps p.tables e below (s₁.setTop (mkF m 0 #[.val (.int p1), .val (.int p2), .val (.int p3), .val (.int p4), .unset, .unset, .unset, .unset, .unset, .unset] [])) t → Steps p.tables e below (s₁.setTop (entryFrame m #[(.int p1), (.int p2), (.int p3), (.int p4)] maxLocals)) t := fun t k => castTop (ef_0 m p1 p2 p3 p4) k
  -- 3. LAWS
  -- pc 77: com/example/weather_gauge/weathergauge/game/NavalBattle.scores by its contract rm1
  obtain ⟨_, _, ⟨T5, L5, k5, n5⟩, -, X5, ⟨Lc5, hQ5, l5, y5, z5⟩, st5⟩ := Jvm.LawKit.callS X0 hx (y := (⟨"com/example/weather_gauge/weathergauge/game/NavalBattle", "scores", "(III)Z"⟩ : MethodName)) hown (mvT hZ (hw _ (List.mem_of_getElem? (i := 2) rfl))) (mvT hZ (hw _ (List.mem_of_getElem? (i := 3) rfl))) (mvT hZ (hw _ (List.mem_of_getElem? (i := 4) rfl))) (mvT hZ (hw _ (List.mem_of_getElem? (i := 5) rfl))) (by decide) (backOf (W := 0) (rm1 l Z a0 hw [] p1 p2 p3 h0 n0 Z0) hZ (hw _ (List.mem_of_getElem? (i := 5) rfl)) (hw _ (List.mem_of_getElem? (i := 4) rfl)) (by decide) (by decide)) (g := (mkF m 77 #[.val (.int p1), .val (.int p2), .val (.int p3), .val (.int p4), .val (.int p3), .val (.long (((p3.toInt64) - (p1.toInt64)) - (p2.toInt64))), .second, .val (.int (1 : Int32)), .unset, .unset] [(.int p3), (.int p2), (.int p1)])) rfl (by rw [hml]; rfl) (argsL := [(.int p1), (.int p2), (.int p3)]) (rest := []) (lenOf pd_0_0 rfl) rfl (by show 2 * 0 + _ ≤ _; exact Nat.le_of_eq rfl) (hb hby at_77) (fun _ _ => ⟨rfl, e0, (by decide : 0 + 0 ≤ _), (by decide : 0 + 0 ≤ _)⟩)
  dsimp only [Pt.U, Pt.locs, Pt.cells, Pt.slots] at X5 l5 y5 z5 st5 hQ5
  subst l5 y5 z5
  obtain ⟨rfl, N5q, q5⟩ := hQ5      -- what it returned, that it wrote nothing old, and the rest of your Q1
  have H5 : n0 ≤ T5.heap.size := by rw [q5]; exact Z0
  have N5 := Fr.app N0 N5q
  -- pc 86: com/example/weather_gauge/weathergauge/game/NavalBattle.scores by its contract rm1
  obtain ⟨_, _, ⟨T6, L6, k6, n6⟩, -, X6, ⟨Lc6, hQ6, l6, y6, z6⟩, st6⟩ := Jvm.LawKit.callS X5 hx (y := (⟨"com/example/weather_gauge/weathergauge/game/NavalBattle", "scores", "(III)Z"⟩ : MethodName)) hown (mvT hZ (hw _ (List.mem_of_getElem? (i := 2) rfl))) (mvT hZ (hw _ (List.mem_of_getElem? (i := 3) rfl))) (mvT hZ (hw _ (List.mem_of_getElem? (i := 4) rfl))) (mvT hZ (hw _ (List.mem_of_getElem? (i := 5) rfl))) (by decide) (backOf (W := 0) (rm1 l Z a0 hw [] p2 p1 p3 T5.heap n0 H5) hZ (hw _ (List.mem_of_getElem? (i := 5) rfl)) (hw _ (List.mem_of_getElem? (i := 4) rfl)) (by decide) (by decide)) (g := (mkF m 86 #[.val (.int p1), .val (.int p2), .val (.int p3), .val (.int p4), .val (.int p3), .val (.long (((p3.toInt64) - (p1.toInt64)) - (p2.toInt64))), .second, .val (.int (1 : Int32)), .val (.int (F1 p1 p2 p3)), .unset] [(.int p3), (.int p1), (.int p2)])) rfl (by rw [hml]; rfl) (argsL := [(.int p2), (.int p1), (.int p3)]) (rest := []) (lenOf pd_0_0 rfl) rfl (by show 2 * 0 + _ ≤ _; exact Nat.le_of_eq rfl) (hb hby at_86) (fun _ _ => ⟨rfl, rfl, (by decide : 0 + 0 ≤ _), (by decide : 0 + 0 ≤ _)⟩)
  dsimp only [Pt.U, Pt.locs, Pt.cells, Pt.slots] at X6 l6 y6 z6 st6 hQ6
  subst l6 y6 z6
  obtain ⟨rfl, N6q, q6⟩ := hQ6      -- what it returned, that it wrote nothing old, and the rest of your Q1
  have H6 : n0 ≤ T6.heap.size := by rw [q6]; exact H5
  have N6 := Fr.app N5 N6q
  obtain ⟨fs, hr, hrun, hended, hW, hsame⟩ := X6.leave (v := some (.int (1 : Int32))) (fun h => by rw [Bd.returns] at h; cases h)
  refine ⟨_, _, pre0 _ ?_, hrun, hended, _, _, rfl, ?_, ⟨_, rfl⟩, hW, hsame.mono (by decide) (by decide)⟩
  -- 4. STEPS
  · show Steps p.tables e below (s₁.setTop (mkF m 0 #[.val (.int p1), .val (.int p2), .val (.int p3), .val (.int p4), .unset, .unset, .unset, .unset, .unset, .unset] [])) _
    refine XS.iloadN X0.here hx rfl (hb hby at_0) rfl ?_
    show Steps p.tables e below (s₁.setTop (mkF m 1 #[.val (.int p1), .val (.int p2), .val (.int p3), .val (.int p4), .unset, .unset, .unset, .unset, .unset, .unset] [(.int p3)])) _
    refine XS.istore X0.here hx rfl (hb hby at_1) rfl (l' := #[.val (.int p1), .val (.int p2), .val (.int p3), .val (.int p4), .val (.int p3), .unset, .unset, .unset, .unset, .unset]) rfl ?_
    show Steps p.tables e below (s₁.setTop (mkF m 3 #[.val (.int p1), .val (.int p2), .val (.int p3), .val (.int p4), .val (.int p3), .unset, .unset, .unset, .unset, .unset] [])) _
    refine XS.iloadN X0.here hx rfl (hb hby at_3) rfl ?_
    show Steps p.tables e below (s₁.setTop (mkF m 4 #[.val (.int p1), .val (.int p2), .val (.int p3), .val (.int p4), .val (.int p3), .unset, .unset, .unset, .unset, .unset] [(.int p4)])) _
    refine XS.iconst X0.here hx rfl (hb hby at_4) ?_
    show Steps p.tables e below (s₁.setTop (mkF m 5 #[.val (.int p1), .val (.int p2), .val (.int p3), .val (.int p4), .val (.int p3), .unset, .unset, .unset, .unset, .unset] [(.int (1 : Int32)), (.int p4)])) _
    refine XS.iand X0.here hx rfl (hb hby at_5) rfl ?_
    show Steps p.tables e below (s₁.setTop (mkF m 6 #[.val (.int p1), .val (.int p2), .val (.int p3), .val (.int p4), .val (.int p3), .unset, .unset, .unset, .unset, .unset] [(.int (p4 &&& (1 : Int32)))])) _
    refine XS.ifYes X0.here hx rfl (pc0 := 6) (pc' := 48) rfl (hb hby at_6) rfl ((if0 _ _).trans (teq hc6).1) (by decide) (by decide) ?_
    show Steps p.tables e below (s₁.setTop (mkF m 48 #[.val (.int p1), .val (.int p2), .val (.int p3), .val (.int p4), .val (.int p3), .unset, .unset, .unset, .unset, .unset] [])) _
    refine XS.iload X0.here hx rfl (hb hby at_48) rfl ?_
    show Steps p.tables e below (s₁.setTop (mkF m 50 #[.val (.int p1), .val (.int p2), .val (.int p3), .val (.int p4), .val (.int p3), .unset, .unset, .unset, .unset, .unset] [(.int p3)])) _
    refine XS.i2l X0.here hx rfl (hb hby at_50) rfl ?_
    show Steps p.tables e below (s₁.setTop (mkF m 51 #[.val (.int p1), .val (.int p2), .val (.int p3), .val (.int p4), .val (.int p3), .unset, .unset, .unset, .unset, .unset] [(.long (p3.toInt64))])) _
    refine XS.iloadN X0.here hx rfl (hb hby at_51) rfl ?_
    show Steps p.tables e below (s₁.setTop (mkF m 52 #[.val (.int p1), .val (.int p2), .val (.int p3), .val (.int p4), .val (.int p3), .unset, .unset, .unset, .unset, .unset] [(.int p1), (.long (p3.toInt64))])) _
    refine XS.i2l X0.here hx rfl (hb hby at_52) rfl ?_
    show Steps p.tables e below (s₁.setTop (mkF m 53 #[.val (.int p1), .val (.int p2), .val (.int p3), .val (.int p4), .val (.int p3), .unset, .unset, .unset, .unset, .unset] [(.long (p1.toInt64)), (.long (p3.toInt64))])) _
    refine XS.lsub X0.here hx rfl (hb hby at_53) rfl ?_
    show Steps p.tables e below (s₁.setTop (mkF m 54 #[.val (.int p1), .val (.int p2), .val (.int p3), .val (.int p4), .val (.int p3), .unset, .unset, .unset, .unset, .unset] [(.long ((p3.toInt64) - (p1.toInt64)))])) _
    refine XS.iloadN X0.here hx rfl (hb hby at_54) rfl ?_
    show Steps p.tables e below (s₁.setTop (mkF m 55 #[.val (.int p1), .val (.int p2), .val (.int p3), .val (.int p4), .val (.int p3), .unset, .unset, .unset, .unset, .unset] [(.int p2), (.long ((p3.toInt64) - (p1.toInt64)))])) _
    refine XS.i2l X0.here hx rfl (hb hby at_55) rfl ?_
    show Steps p.tables e below (s₁.setTop (mkF m 56 #[.val (.int p1), .val (.int p2), .val (.int p3), .val (.int p4), .val (.int p3), .unset, .unset, .unset, .unset, .unset] [(.long (p2.toInt64)), (.long ((p3.toInt64) - (p1.toInt64)))])) _
    refine XS.lsub X0.here hx rfl (hb hby at_56) rfl ?_
    show Steps p.tables e below (s₁.setTop (mkF m 57 #[.val (.int p1), .val (.int p2), .val (.int p3), .val (.int p4), .val (.int p3), .unset, .unset, .unset, .unset, .unset] [(.long (((p3.toInt64) - (p1.toInt64)) - (p2.toInt64)))])) _
    refine XS.lstore X0.here hx rfl (hb hby at_57) rfl (l' := #[.val (.int p1), .val (.int p2), .val (.int p3), .val (.int p4), .val (.int p3), .val (.long (((p3.toInt64) - (p1.toInt64)) - (p2.toInt64))), .second, .unset, .unset, .unset]) rfl ?_
    show Steps p.tables e below (s₁.setTop (mkF m 59 #[.val (.int p1), .val (.int p2), .val (.int p3), .val (.int p4), .val (.int p3), .val (.long (((p3.toInt64) - (p1.toInt64)) - (p2.toInt64))), .second, .unset, .unset, .unset] [])) _
    refine XS.lload X0.here hx rfl (hb hby at_59) rfl ?_
    show Steps p.tables e below (s₁.setTop (mkF m 61 #[.val (.int p1), .val (.int p2), .val (.int p3), .val (.int p4), .val (.int p3), .val (.long (((p3.toInt64) - (p1.toInt64)) - (p2.toInt64))), .second, .unset, .unset, .unset] [(.long (((p3.toInt64) - (p1.toInt64)) - (p2.toInt64)))])) _
    refine XS.lconst X0.here hx rfl (hb hby at_61) ?_
    show Steps p.tables e below (s₁.setTop (mkF m 62 #[.val (.int p1), .val (.int p2), .val (.int p3), .val (.int p4), .val (.int p3), .val (.long (((p3.toInt64) - (p1.toInt64)) - (p2.toInt64))), .second, .unset, .unset, .unset] [(.long (0 : Int64)), (.long (((p3.toInt64) - (p1.toInt64)) - (p2.toInt64)))])) _
    refine XS.lcmp X0.here hx rfl (hb hby at_62) rfl ?_
    show Steps p.tables e below (s₁.setTop (mkF m 63 #[.val (.int p1), .val (.int p2), .val (.int p3), .val (.int p4), .val (.int p3), .val (.long (((p3.toInt64) - (p1.toInt64)) - (p2.toInt64))), .second, .unset, .unset, .unset] [(.int (lcmpW (((p3.toInt64) - (p1.toInt64)) - (p2.toInt64)) (0 : Int64)))])) _
    refine XS.ifNo X0.here hx rfl (hb hby at_63) rfl ((if0 _ _).trans (flt hc63).1) ?_
    show Steps p.tables e below (s₁.setTop (mkF m 66 #[.val (.int p1), .val (.int p2), .val (.int p3), .val (.int p4), .val (.int p3), .val (.long (((p3.toInt64) - (p1.toInt64)) - (p2.toInt64))), .second, .unset, .unset, .unset] [])) _
    refine XS.iconst X0.here hx rfl (hb hby at_66) ?_
    show Steps p.tables e below (s₁.setTop (mkF m 67 #[.val (.int p1), .val (.int p2), .val (.int p3), .val (.int p4), .val (.int p3), .val (.long (((p3.toInt64) - (p1.toInt64)) - (p2.toInt64))), .second, .unset, .unset, .unset] [(.int (1 : Int32))])) _
    refine XS.goto X0.here hx rfl (pc0 := 67) (pc' := 71) rfl (hb hby at_67) (by decide) (by decide) ?_
    show Steps p.tables e below (s₁.setTop (mkF m 71 #[.val (.int p1), .val (.int p2), .val (.int p3), .val (.int p4), .val (.int p3), .val (.long (((p3.toInt64) - (p1.toInt64)) - (p2.toInt64))), .second, .unset, .unset, .unset] [(.int (1 : Int32))])) _
    refine XS.istore X0.here hx rfl (hb hby at_71) rfl (l' := #[.val (.int p1), .val (.int p2), .val (.int p3), .val (.int p4), .val (.int p3), .val (.long (((p3.toInt64) - (p1.toInt64)) - (p2.toInt64))), .second, .val (.int (1 : Int32)), .unset, .unset]) rfl ?_
    show Steps p.tables e below (s₁.setTop (mkF m 73 #[.val (.int p1), .val (.int p2), .val (.int p3), .val (.int p4), .val (.int p3), .val (.long (((p3.toInt64) - (p1.toInt64)) - (p2.toInt64))), .second, .val (.int (1 : Int32)), .unset, .unset] [])) _
    refine XS.iloadN X0.here hx rfl (hb hby at_73) rfl ?_
    show Steps p.tables e below (s₁.setTop (mkF m 74 #[.val (.int p1), .val (.int p2), .val (.int p3), .val (.int p4), .val (.int p3), .val (.long (((p3.toInt64) - (p1.toInt64)) - (p2.toInt64))), .second, .val (.int (1 : Int32)), .unset, .unset] [(.int p1)])) _
    refine XS.iloadN X0.here hx rfl (hb hby at_74) rfl ?_
    show Steps p.tables e below (s₁.setTop (mkF m 75 #[.val (.int p1), .val (.int p2), .val (.int p3), .val (.int p4), .val (.int p3), .val (.long (((p3.toInt64) - (p1.toInt64)) - (p2.toInt64))), .second, .val (.int (1 : Int32)), .unset, .unset] [(.int p2), (.int p1)])) _
    refine XS.iload X0.here hx rfl (hb hby at_75) rfl ?_
    show Steps p.tables e below (s₁.setTop (mkF m 77 #[.val (.int p1), .val (.int p2), .val (.int p3), .val (.int p4), .val (.int p3), .val (.long (((p3.toInt64) - (p1.toInt64)) - (p2.toInt64))), .second, .val (.int (1 : Int32)), .unset, .unset] [(.int p3), (.int p2), (.int p1)])) _
    refine st5 _ ?_
    show Steps p.tables e below (T5.setTop (mkF m 80 #[.val (.int p1), .val (.int p2), .val (.int p3), .val (.int p4), .val (.int p3), .val (.long (((p3.toInt64) - (p1.toInt64)) - (p2.toInt64))), .second, .val (.int (1 : Int32)), .unset, .unset] [(.int (F1 p1 p2 p3))])) _
    refine XS.istore X5.here hx rfl (hb hby at_80) rfl (l' := #[.val (.int p1), .val (.int p2), .val (.int p3), .val (.int p4), .val (.int p3), .val (.long (((p3.toInt64) - (p1.toInt64)) - (p2.toInt64))), .second, .val (.int (1 : Int32)), .val (.int (F1 p1 p2 p3)), .unset]) rfl ?_
    show Steps p.tables e below (T5.setTop (mkF m 82 #[.val (.int p1), .val (.int p2), .val (.int p3), .val (.int p4), .val (.int p3), .val (.long (((p3.toInt64) - (p1.toInt64)) - (p2.toInt64))), .second, .val (.int (1 : Int32)), .val (.int (F1 p1 p2 p3)), .unset] [])) _
    refine XS.iloadN X5.here hx rfl (hb hby at_82) rfl ?_
    show Steps p.tables e below (T5.setTop (mkF m 83 #[.val (.int p1), .val (.int p2), .val (.int p3), .val (.int p4), .val (.int p3), .val (.long (((p3.toInt64) - (p1.toInt64)) - (p2.toInt64))), .second, .val (.int (1 : Int32)), .val (.int (F1 p1 p2 p3)), .unset] [(.int p2)])) _
    refine XS.iloadN X5.here hx rfl (hb hby at_83) rfl ?_
    show Steps p.tables e below (T5.setTop (mkF m 84 #[.val (.int p1), .val (.int p2), .val (.int p3), .val (.int p4), .val (.int p3), .val (.long (((p3.toInt64) - (p1.toInt64)) - (p2.toInt64))), .second, .val (.int (1 : Int32)), .val (.int (F1 p1 p2 p3)), .unset] [(.int p1), (.int p2)])) _
    refine XS.iload X5.here hx rfl (hb hby at_84) rfl ?_
    show Steps p.tables e below (T5.setTop (mkF m 86 #[.val (.int p1), .val (.int p2), .val (.int p3), .val (.int p4), .val (.int p3), .val (.long (((p3.toInt64) - (p1.toInt64)) - (p2.toInt64))), .second, .val (.int (1 : Int32)), .val (.int (F1 p1 p2 p3)), .unset] [(.int p3), (.int p1), (.int p2)])) _
    refine st6 _ ?_
    show Steps p.tables e below (T6.setTop (mkF m 89 #[.val (.int p1), .val (.int p2), .val (.int p3), .val (.int p4), .val (.int p3), .val (.long (((p3.toInt64) - (p1.toInt64)) - (p2.toInt64))), .second, .val (.int (1 : Int32)), .val (.int (F1 p1 p2 p3)), .unset] [(.int (F1 p2 p1 p3))])) _
    refine XS.istore X6.here hx rfl (hb hby at_89) rfl (l' := #[.val (.int p1), .val (.int p2), .val (.int p3), .val (.int p4), .val (.int p3), .val (.long (((p3.toInt64) - (p1.toInt64)) - (p2.toInt64))), .second, .val (.int (1 : Int32)), .val (.int (F1 p1 p2 p3)), .val (.int (F1 p2 p1 p3))]) rfl ?_
    show Steps p.tables e below (T6.setTop (mkF m 91 #[.val (.int p1), .val (.int p2), .val (.int p3), .val (.int p4), .val (.int p3), .val (.long (((p3.toInt64) - (p1.toInt64)) - (p2.toInt64))), .second, .val (.int (1 : Int32)), .val (.int (F1 p1 p2 p3)), .val (.int (F1 p2 p1 p3))] [])) _
    refine XS.iload X6.here hx rfl (hb hby at_91) rfl ?_
    show Steps p.tables e below (T6.setTop (mkF m 93 #[.val (.int p1), .val (.int p2), .val (.int p3), .val (.int p4), .val (.int p3), .val (.long (((p3.toInt64) - (p1.toInt64)) - (p2.toInt64))), .second, .val (.int (1 : Int32)), .val (.int (F1 p1 p2 p3)), .val (.int (F1 p2 p1 p3))] [(.int (F1 p1 p2 p3))])) _
    refine XS.iload X6.here hx rfl (hb hby at_93) rfl ?_
    show Steps p.tables e below (T6.setTop (mkF m 95 #[.val (.int p1), .val (.int p2), .val (.int p3), .val (.int p4), .val (.int p3), .val (.long (((p3.toInt64) - (p1.toInt64)) - (p2.toInt64))), .second, .val (.int (1 : Int32)), .val (.int (F1 p1 p2 p3)), .val (.int (F1 p2 p1 p3))] [(.int (1 : Int32)), (.int (F1 p1 p2 p3))])) _
    refine XS.icmpNo X6.here hx rfl (hb hby at_95) rfl (teq (own_pos _ _ _ hc63 : (F1 p1 p2 p3) = (1 : Int32))).2 ?_
    show Steps p.tables e below (T6.setTop (mkF m 98 #[.val (.int p1), .val (.int p2), .val (.int p3), .val (.int p4), .val (.int p3), .val (.long (((p3.toInt64) - (p1.toInt64)) - (p2.toInt64))), .second, .val (.int (1 : Int32)), .val (.int (F1 p1 p2 p3)), .val (.int (F1 p2 p1 p3))] [])) _
    refine XS.iload X6.here hx rfl (hb hby at_98) rfl ?_
    show Steps p.tables e below (T6.setTop (mkF m 100 #[.val (.int p1), .val (.int p2), .val (.int p3), .val (.int p4), .val (.int p3), .val (.long (((p3.toInt64) - (p1.toInt64)) - (p2.toInt64))), .second, .val (.int (1 : Int32)), .val (.int (F1 p1 p2 p3)), .val (.int (F1 p2 p1 p3))] [(.int (F1 p2 p1 p3))])) _
    refine XS.iload X6.here hx rfl (hb hby at_100) rfl ?_
    show Steps p.tables e below (T6.setTop (mkF m 102 #[.val (.int p1), .val (.int p2), .val (.int p3), .val (.int p4), .val (.int p3), .val (.long (((p3.toInt64) - (p1.toInt64)) - (p2.toInt64))), .second, .val (.int (1 : Int32)), .val (.int (F1 p1 p2 p3)), .val (.int (F1 p2 p1 p3))] [(.int (F1 p1 p2 p3)), (.int (F1 p2 p1 p3))])) _
    refine XS.icmpNo X6.here hx rfl (hb hby at_102) rfl (teq (own_sym _ _ _ : (F1 p2 p1 p3) = (F1 p1 p2 p3))).2 ?_
    show Steps p.tables e below (T6.setTop (mkF m 105 #[.val (.int p1), .val (.int p2), .val (.int p3), .val (.int p4), .val (.int p3), .val (.long (((p3.toInt64) - (p1.toInt64)) - (p2.toInt64))), .second, .val (.int (1 : Int32)), .val (.int (F1 p1 p2 p3)), .val (.int (F1 p2 p1 p3))] [])) _
    refine XS.iconst X6.here hx rfl (hb hby at_105) ?_
    show Steps p.tables e below (T6.setTop (mkF m 106 #[.val (.int p1), .val (.int p2), .val (.int p3), .val (.int p4), .val (.int p3), .val (.long (((p3.toInt64) - (p1.toInt64)) - (p2.toInt64))), .second, .val (.int (1 : Int32)), .val (.int (F1 p1 p2 p3)), .val (.int (F1 p2 p1 p3))] [(.int (1 : Int32))])) _
    refine XS.goto X6.here hx rfl (pc0 := 106) (pc' := 110) rfl (hb hby at_106) (by decide) (by decide) ?_
    show Steps p.tables e below (T6.setTop (mkF m 110 #[.val (.int p1), .val (.int p2), .val (.int p3), .val (.int p4), .val (.int p3), .val (.long (((p3.toInt64) - (p1.toInt64)) - (p2.toInt64))), .second, .val (.int (1 : Int32)), .val (.int (F1 p1 p2 p3)), .val (.int (F1 p2 p1 p3))] [(.int (1 : Int32))])) _
    exact retN X6 hx (t := .boolean) Bd.returns (by simp) (hb hby at_110) hr
  · show Q0 Z p1 p2 p3 p4 h0 n0 _ T6.heap _
    exact ⟨rfl, N6⟩
set_option maxRecDepth 65536 in
set_option maxHeartbeats 40000000 in
theorem rm0_fttff (l : Launch) (Z : State) (a0 : Array Value) (hw : ∀ d ∈ tables_1, d.before a0 Z = true) (ws : List Jvm.Cond) (p1 : Int32) (p2 : Int32) (p3 : Int32) (p4 : Int32) (h0 : Heap) (n0 : Nat) (Z0 : n0 ≤ h0.size) (hc6 : ¬ ((p4 &&& (1 : Int32)) = (0 : Int32))) (hc31 : (lcmpW (((p1.toInt64) + (p2.toInt64)) + (((((p4.toUInt32 >>> ((1 : Int32) &&& 31).toUInt32).toInt32) - (((p4.toUInt32 >>> ((1 : Int32) &&& 31).toUInt32).toInt32) / (3 : Int32)) * (3 : Int32)) - (1 : Int32)).toInt64)) (-2147483648 : Int64)) < (0 : Int32)) (hc63 : (lcmpW (((p3.toInt64) - (p1.toInt64)) - (p2.toInt64)) (0 : Int64)) < (0 : Int32)) :
    MetFree l x (head1 (Jvm.Cond.code x code maxLocals ret :: ws) room_1) (fun a U => a = #[(.int p1), (.int p2), (.int p3), (.int p4)] ∧ Z.Warmed39 U.vm ∧ U.heap = h0) (fun _ _ _ _ _ => True) (fun _ U o U' => ∃ v L, o = .returned v ∧ Q0 Z p1 p2 p3 p4 h0 n0 v U'.heap L ∧ FrameEnd U o U' L room_1.cells room_1.slots) := by
  refine MetFree.of_bodySF (plainFor_of_name pn_0) hisR ?_
  intro p e s m args below meth c s₁ Bd hml0 hP hK
  obtain ⟨rfl, hZ, hh⟩ := hP
  have hx := Bd.exec
  have hby := Bd.bytes
  have hml : c.maxLocals = 10 := hml0
  have hown : s.vm.findClass "com/example/weather_gauge/weathergauge/game/NavalBattleScoresPinLaw" = some m.cls := findClass_of_methodNamed Bd.named
  have hnm := (name_of_methodNamed Bd.named Bd.method).1
  have X0 : Stand p l e room_1 s m #[(.int p1), (.int p2), (.int p3), (.int p4)] below meth c s₁ [] 0 0 := Stand.of_body Bd
  have e0 : s₁.heap = h0 := by rw [← hh, Bd.state]; rfl
  have N0 := Fr.nil n0
  have pre0 : ∀ t, Steps p.tables e below (s₁.setTop (mkF m 0 #[.val (.int p1), .val (.int p2), .val (.int p3), .val (.int p4), .unset, .unset, .unset, .unset, .unset, .unset] [])) t → Steps p.tables e below (s₁.setTop (entryFrame m #[(.int p1), (.int p2), (.int p3), (.int p4)] maxLocals)) t := fun t k => castTop (ef_0 m p1 p2 p3 p4) k
  -- 3. LAWS
  -- pc 77: com/example/weather_gauge/weathergauge/game/NavalBattle.scores by its contract rm1
  obtain ⟨_, _, ⟨T5, L5, k5, n5⟩, -, X5, ⟨Lc5, hQ5, l5, y5, z5⟩, st5⟩ := Jvm.LawKit.callS X0 hx (y := (⟨"com/example/weather_gauge/weathergauge/game/NavalBattle", "scores", "(III)Z"⟩ : MethodName)) hown (mvT hZ (hw _ (List.mem_of_getElem? (i := 2) rfl))) (mvT hZ (hw _ (List.mem_of_getElem? (i := 3) rfl))) (mvT hZ (hw _ (List.mem_of_getElem? (i := 4) rfl))) (mvT hZ (hw _ (List.mem_of_getElem? (i := 5) rfl))) (by decide) (backOf (W := 0) (rm1 l Z a0 hw [] p1 p2 p3 h0 n0 Z0) hZ (hw _ (List.mem_of_getElem? (i := 5) rfl)) (hw _ (List.mem_of_getElem? (i := 4) rfl)) (by decide) (by decide)) (g := (mkF m 77 #[.val (.int p1), .val (.int p2), .val (.int p3), .val (.int p4), .val (.int p3), .val (.long (((p3.toInt64) - (p1.toInt64)) - (p2.toInt64))), .second, .val (.int (0 : Int32)), .unset, .unset] [(.int p3), (.int p2), (.int p1)])) rfl (by rw [hml]; rfl) (argsL := [(.int p1), (.int p2), (.int p3)]) (rest := []) (lenOf pd_0_0 rfl) rfl (by show 2 * 0 + _ ≤ _; exact Nat.le_of_eq rfl) (hb hby at_77) (fun _ _ => ⟨rfl, e0, (by decide : 0 + 0 ≤ _), (by decide : 0 + 0 ≤ _)⟩)
  dsimp only [Pt.U, Pt.locs, Pt.cells, Pt.slots] at X5 l5 y5 z5 st5 hQ5
  subst l5 y5 z5
  obtain ⟨rfl, N5q, q5⟩ := hQ5      -- what it returned, that it wrote nothing old, and the rest of your Q1
  have H5 : n0 ≤ T5.heap.size := by rw [q5]; exact Z0
  have N5 := Fr.app N0 N5q
  -- pc 86: com/example/weather_gauge/weathergauge/game/NavalBattle.scores by its contract rm1
  obtain ⟨_, _, ⟨T6, L6, k6, n6⟩, -, X6, ⟨Lc6, hQ6, l6, y6, z6⟩, st6⟩ := Jvm.LawKit.callS X5 hx (y := (⟨"com/example/weather_gauge/weathergauge/game/NavalBattle", "scores", "(III)Z"⟩ : MethodName)) hown (mvT hZ (hw _ (List.mem_of_getElem? (i := 2) rfl))) (mvT hZ (hw _ (List.mem_of_getElem? (i := 3) rfl))) (mvT hZ (hw _ (List.mem_of_getElem? (i := 4) rfl))) (mvT hZ (hw _ (List.mem_of_getElem? (i := 5) rfl))) (by decide) (backOf (W := 0) (rm1 l Z a0 hw [] p2 p1 p3 T5.heap n0 H5) hZ (hw _ (List.mem_of_getElem? (i := 5) rfl)) (hw _ (List.mem_of_getElem? (i := 4) rfl)) (by decide) (by decide)) (g := (mkF m 86 #[.val (.int p1), .val (.int p2), .val (.int p3), .val (.int p4), .val (.int p3), .val (.long (((p3.toInt64) - (p1.toInt64)) - (p2.toInt64))), .second, .val (.int (0 : Int32)), .val (.int (F1 p1 p2 p3)), .unset] [(.int p3), (.int p1), (.int p2)])) rfl (by rw [hml]; rfl) (argsL := [(.int p2), (.int p1), (.int p3)]) (rest := []) (lenOf pd_0_0 rfl) rfl (by show 2 * 0 + _ ≤ _; exact Nat.le_of_eq rfl) (hb hby at_86) (fun _ _ => ⟨rfl, rfl, (by decide : 0 + 0 ≤ _), (by decide : 0 + 0 ≤ _)⟩)
  dsimp only [Pt.U, Pt.locs, Pt.cells, Pt.slots] at X6 l6 y6 z6 st6 hQ6
  subst l6 y6 z6
  obtain ⟨rfl, N6q, q6⟩ := hQ6      -- what it returned, that it wrote nothing old, and the rest of your Q1
  have H6 : n0 ≤ T6.heap.size := by rw [q6]; exact H5
  have N6 := Fr.app N5 N6q
  obtain ⟨fs, hr, hrun, hended, hW, hsame⟩ := X6.leave (v := some (.int (1 : Int32))) (fun h => by rw [Bd.returns] at h; cases h)
  refine ⟨_, _, pre0 _ ?_, hrun, hended, _, _, rfl, ?_, ⟨_, rfl⟩, hW, hsame.mono (by decide) (by decide)⟩
  -- 4. STEPS
  · show Steps p.tables e below (s₁.setTop (mkF m 0 #[.val (.int p1), .val (.int p2), .val (.int p3), .val (.int p4), .unset, .unset, .unset, .unset, .unset, .unset] [])) _
    refine XS.iloadN X0.here hx rfl (hb hby at_0) rfl ?_
    show Steps p.tables e below (s₁.setTop (mkF m 1 #[.val (.int p1), .val (.int p2), .val (.int p3), .val (.int p4), .unset, .unset, .unset, .unset, .unset, .unset] [(.int p3)])) _
    refine XS.istore X0.here hx rfl (hb hby at_1) rfl (l' := #[.val (.int p1), .val (.int p2), .val (.int p3), .val (.int p4), .val (.int p3), .unset, .unset, .unset, .unset, .unset]) rfl ?_
    show Steps p.tables e below (s₁.setTop (mkF m 3 #[.val (.int p1), .val (.int p2), .val (.int p3), .val (.int p4), .val (.int p3), .unset, .unset, .unset, .unset, .unset] [])) _
    refine XS.iloadN X0.here hx rfl (hb hby at_3) rfl ?_
    show Steps p.tables e below (s₁.setTop (mkF m 4 #[.val (.int p1), .val (.int p2), .val (.int p3), .val (.int p4), .val (.int p3), .unset, .unset, .unset, .unset, .unset] [(.int p4)])) _
    refine XS.iconst X0.here hx rfl (hb hby at_4) ?_
    show Steps p.tables e below (s₁.setTop (mkF m 5 #[.val (.int p1), .val (.int p2), .val (.int p3), .val (.int p4), .val (.int p3), .unset, .unset, .unset, .unset, .unset] [(.int (1 : Int32)), (.int p4)])) _
    refine XS.iand X0.here hx rfl (hb hby at_5) rfl ?_
    show Steps p.tables e below (s₁.setTop (mkF m 6 #[.val (.int p1), .val (.int p2), .val (.int p3), .val (.int p4), .val (.int p3), .unset, .unset, .unset, .unset, .unset] [(.int (p4 &&& (1 : Int32)))])) _
    refine XS.ifNo X0.here hx rfl (hb hby at_6) rfl ((if0 _ _).trans (feq hc6).1) ?_
    show Steps p.tables e below (s₁.setTop (mkF m 9 #[.val (.int p1), .val (.int p2), .val (.int p3), .val (.int p4), .val (.int p3), .unset, .unset, .unset, .unset, .unset] [])) _
    refine XS.iloadN X0.here hx rfl (hb hby at_9) rfl ?_
    show Steps p.tables e below (s₁.setTop (mkF m 10 #[.val (.int p1), .val (.int p2), .val (.int p3), .val (.int p4), .val (.int p3), .unset, .unset, .unset, .unset, .unset] [(.int p1)])) _
    refine XS.i2l X0.here hx rfl (hb hby at_10) rfl ?_
    show Steps p.tables e below (s₁.setTop (mkF m 11 #[.val (.int p1), .val (.int p2), .val (.int p3), .val (.int p4), .val (.int p3), .unset, .unset, .unset, .unset, .unset] [(.long (p1.toInt64))])) _
    refine XS.iloadN X0.here hx rfl (hb hby at_11) rfl ?_
    show Steps p.tables e below (s₁.setTop (mkF m 12 #[.val (.int p1), .val (.int p2), .val (.int p3), .val (.int p4), .val (.int p3), .unset, .unset, .unset, .unset, .unset] [(.int p2), (.long (p1.toInt64))])) _
    refine XS.i2l X0.here hx rfl (hb hby at_12) rfl ?_
    show Steps p.tables e below (s₁.setTop (mkF m 13 #[.val (.int p1), .val (.int p2), .val (.int p3), .val (.int p4), .val (.int p3), .unset, .unset, .unset, .unset, .unset] [(.long (p2.toInt64)), (.long (p1.toInt64))])) _
    refine XS.ladd X0.here hx rfl (hb hby at_13) rfl ?_
    show Steps p.tables e below (s₁.setTop (mkF m 14 #[.val (.int p1), .val (.int p2), .val (.int p3), .val (.int p4), .val (.int p3), .unset, .unset, .unset, .unset, .unset] [(.long ((p1.toInt64) + (p2.toInt64)))])) _
    refine XS.iloadN X0.here hx rfl (hb hby at_14) rfl ?_
    show Steps p.tables e below (s₁.setTop (mkF m 15 #[.val (.int p1), .val (.int p2), .val (.int p3), .val (.int p4), .val (.int p3), .unset, .unset, .unset, .unset, .unset] [(.int p4), (.long ((p1.toInt64) + (p2.toInt64)))])) _
    refine XS.iconst X0.here hx rfl (hb hby at_15) ?_
    show Steps p.tables e below (s₁.setTop (mkF m 16 #[.val (.int p1), .val (.int p2), .val (.int p3), .val (.int p4), .val (.int p3), .unset, .unset, .unset, .unset, .unset] [(.int (1 : Int32)), (.int p4), (.long ((p1.toInt64) + (p2.toInt64)))])) _
    refine XS.iushr X0.here hx rfl (hb hby at_16) rfl ?_
    show Steps p.tables e below (s₁.setTop (mkF m 17 #[.val (.int p1), .val (.int p2), .val (.int p3), .val (.int p4), .val (.int p3), .unset, .unset, .unset, .unset, .unset] [(.int ((p4.toUInt32 >>> ((1 : Int32) &&& 31).toUInt32).toInt32)), (.long ((p1.toInt64) + (p2.toInt64)))])) _
    refine XS.iconst X0.here hx rfl (hb hby at_17) ?_
    show Steps p.tables e below (s₁.setTop (mkF m 18 #[.val (.int p1), .val (.int p2), .val (.int p3), .val (.int p4), .val (.int p3), .unset, .unset, .unset, .unset, .unset] [(.int (3 : Int32)), (.int ((p4.toUInt32 >>> ((1 : Int32) &&& 31).toUInt32).toInt32)), (.long ((p1.toInt64) + (p2.toInt64)))])) _
    refine XS.irem X0.here hx rfl (hb hby at_18) rfl (by decide) ?_
    show Steps p.tables e below (s₁.setTop (mkF m 19 #[.val (.int p1), .val (.int p2), .val (.int p3), .val (.int p4), .val (.int p3), .unset, .unset, .unset, .unset, .unset] [(.int (((p4.toUInt32 >>> ((1 : Int32) &&& 31).toUInt32).toInt32) - (((p4.toUInt32 >>> ((1 : Int32) &&& 31).toUInt32).toInt32) / (3 : Int32)) * (3 : Int32))), (.long ((p1.toInt64) + (p2.toInt64)))])) _
    refine XS.iconst X0.here hx rfl (hb hby at_19) ?_
    show Steps p.tables e below (s₁.setTop (mkF m 20 #[.val (.int p1), .val (.int p2), .val (.int p3), .val (.int p4), .val (.int p3), .unset, .unset, .unset, .unset, .unset] [(.int (1 : Int32)), (.int (((p4.toUInt32 >>> ((1 : Int32) &&& 31).toUInt32).toInt32) - (((p4.toUInt32 >>> ((1 : Int32) &&& 31).toUInt32).toInt32) / (3 : Int32)) * (3 : Int32))), (.long ((p1.toInt64) + (p2.toInt64)))])) _
    refine XS.isub X0.here hx rfl (hb hby at_20) rfl ?_
    show Steps p.tables e below (s₁.setTop (mkF m 21 #[.val (.int p1), .val (.int p2), .val (.int p3), .val (.int p4), .val (.int p3), .unset, .unset, .unset, .unset, .unset] [(.int ((((p4.toUInt32 >>> ((1 : Int32) &&& 31).toUInt32).toInt32) - (((p4.toUInt32 >>> ((1 : Int32) &&& 31).toUInt32).toInt32) / (3 : Int32)) * (3 : Int32)) - (1 : Int32))), (.long ((p1.toInt64) + (p2.toInt64)))])) _
    refine XS.i2l X0.here hx rfl (hb hby at_21) rfl ?_
    show Steps p.tables e below (s₁.setTop (mkF m 22 #[.val (.int p1), .val (.int p2), .val (.int p3), .val (.int p4), .val (.int p3), .unset, .unset, .unset, .unset, .unset] [(.long (((((p4.toUInt32 >>> ((1 : Int32) &&& 31).toUInt32).toInt32) - (((p4.toUInt32 >>> ((1 : Int32) &&& 31).toUInt32).toInt32) / (3 : Int32)) * (3 : Int32)) - (1 : Int32)).toInt64)), (.long ((p1.toInt64) + (p2.toInt64)))])) _
    refine XS.ladd X0.here hx rfl (hb hby at_22) rfl ?_
    show Steps p.tables e below (s₁.setTop (mkF m 23 #[.val (.int p1), .val (.int p2), .val (.int p3), .val (.int p4), .val (.int p3), .unset, .unset, .unset, .unset, .unset] [(.long (((p1.toInt64) + (p2.toInt64)) + (((((p4.toUInt32 >>> ((1 : Int32) &&& 31).toUInt32).toInt32) - (((p4.toUInt32 >>> ((1 : Int32) &&& 31).toUInt32).toInt32) / (3 : Int32)) * (3 : Int32)) - (1 : Int32)).toInt64)))])) _
    refine XS.lstore X0.here hx rfl (hb hby at_23) rfl (l' := #[.val (.int p1), .val (.int p2), .val (.int p3), .val (.int p4), .val (.int p3), .val (.long (((p1.toInt64) + (p2.toInt64)) + (((((p4.toUInt32 >>> ((1 : Int32) &&& 31).toUInt32).toInt32) - (((p4.toUInt32 >>> ((1 : Int32) &&& 31).toUInt32).toInt32) / (3 : Int32)) * (3 : Int32)) - (1 : Int32)).toInt64))), .second, .unset, .unset, .unset]) rfl ?_
    show Steps p.tables e below (s₁.setTop (mkF m 25 #[.val (.int p1), .val (.int p2), .val (.int p3), .val (.int p4), .val (.int p3), .val (.long (((p1.toInt64) + (p2.toInt64)) + (((((p4.toUInt32 >>> ((1 : Int32) &&& 31).toUInt32).toInt32) - (((p4.toUInt32 >>> ((1 : Int32) &&& 31).toUInt32).toInt32) / (3 : Int32)) * (3 : Int32)) - (1 : Int32)).toInt64))), .second, .unset, .unset, .unset] [])) _
    refine XS.lload X0.here hx rfl (hb hby at_25) rfl ?_
    show Steps p.tables e below (s₁.setTop (mkF m 27 #[.val (.int p1), .val (.int p2), .val (.int p3), .val (.int p4), .val (.int p3), .val (.long (((p1.toInt64) + (p2.toInt64)) + (((((p4.toUInt32 >>> ((1 : Int32) &&& 31).toUInt32).toInt32) - (((p4.toUInt32 >>> ((1 : Int32) &&& 31).toUInt32).toInt32) / (3 : Int32)) * (3 : Int32)) - (1 : Int32)).toInt64))), .second, .unset, .unset, .unset] [(.long (((p1.toInt64) + (p2.toInt64)) + (((((p4.toUInt32 >>> ((1 : Int32) &&& 31).toUInt32).toInt32) - (((p4.toUInt32 >>> ((1 : Int32) &&& 31).toUInt32).toInt32) / (3 : Int32)) * (3 : Int32)) - (1 : Int32)).toInt64)))])) _
    refine X0.ldc2Long hx hown (mvT hZ (hw _ (List.mem_of_getElem? (i := 0) rfl))) (g := (mkF m 27 #[.val (.int p1), .val (.int p2), .val (.int p3), .val (.int p4), .val (.int p3), .val (.long (((p1.toInt64) + (p2.toInt64)) + (((((p4.toUInt32 >>> ((1 : Int32) &&& 31).toUInt32).toInt32) - (((p4.toUInt32 >>> ((1 : Int32) &&& 31).toUInt32).toInt32) / (3 : Int32)) * (3 : Int32)) - (1 : Int32)).toInt64))), .second, .unset, .unset, .unset] [(.long (((p1.toInt64) + (p2.toInt64)) + (((((p4.toUInt32 >>> ((1 : Int32) &&& 31).toUInt32).toInt32) - (((p4.toUInt32 >>> ((1 : Int32) &&& 31).toUInt32).toInt32) / (3 : Int32)) * (3 : Int32)) - (1 : Int32)).toInt64)))])) rfl (hb hby at_27) _ ?_
    show Steps p.tables e below (s₁.setTop (mkF m 30 #[.val (.int p1), .val (.int p2), .val (.int p3), .val (.int p4), .val (.int p3), .val (.long (((p1.toInt64) + (p2.toInt64)) + (((((p4.toUInt32 >>> ((1 : Int32) &&& 31).toUInt32).toInt32) - (((p4.toUInt32 >>> ((1 : Int32) &&& 31).toUInt32).toInt32) / (3 : Int32)) * (3 : Int32)) - (1 : Int32)).toInt64))), .second, .unset, .unset, .unset] [(.long (-2147483648 : Int64)), (.long (((p1.toInt64) + (p2.toInt64)) + (((((p4.toUInt32 >>> ((1 : Int32) &&& 31).toUInt32).toInt32) - (((p4.toUInt32 >>> ((1 : Int32) &&& 31).toUInt32).toInt32) / (3 : Int32)) * (3 : Int32)) - (1 : Int32)).toInt64)))])) _
    refine XS.lcmp X0.here hx rfl (hb hby at_30) rfl ?_
    show Steps p.tables e below (s₁.setTop (mkF m 31 #[.val (.int p1), .val (.int p2), .val (.int p3), .val (.int p4), .val (.int p3), .val (.long (((p1.toInt64) + (p2.toInt64)) + (((((p4.toUInt32 >>> ((1 : Int32) &&& 31).toUInt32).toInt32) - (((p4.toUInt32 >>> ((1 : Int32) &&& 31).toUInt32).toInt32) / (3 : Int32)) * (3 : Int32)) - (1 : Int32)).toInt64))), .second, .unset, .unset, .unset] [(.int (lcmpW (((p1.toInt64) + (p2.toInt64)) + (((((p4.toUInt32 >>> ((1 : Int32) &&& 31).toUInt32).toInt32) - (((p4.toUInt32 >>> ((1 : Int32) &&& 31).toUInt32).toInt32) / (3 : Int32)) * (3 : Int32)) - (1 : Int32)).toInt64)) (-2147483648 : Int64)))])) _
    refine XS.ifYes X0.here hx rfl (pc0 := 31) (pc' := 48) rfl (hb hby at_31) rfl ((if0 _ _).trans (tlt hc31).1) (by decide) (by decide) ?_
    show Steps p.tables e below (s₁.setTop (mkF m 48 #[.val (.int p1), .val (.int p2), .val (.int p3), .val (.int p4), .val (.int p3), .val (.long (((p1.toInt64) + (p2.toInt64)) + (((((p4.toUInt32 >>> ((1 : Int32) &&& 31).toUInt32).toInt32) - (((p4.toUInt32 >>> ((1 : Int32) &&& 31).toUInt32).toInt32) / (3 : Int32)) * (3 : Int32)) - (1 : Int32)).toInt64))), .second, .unset, .unset, .unset] [])) _
    refine XS.iload X0.here hx rfl (hb hby at_48) rfl ?_
    show Steps p.tables e below (s₁.setTop (mkF m 50 #[.val (.int p1), .val (.int p2), .val (.int p3), .val (.int p4), .val (.int p3), .val (.long (((p1.toInt64) + (p2.toInt64)) + (((((p4.toUInt32 >>> ((1 : Int32) &&& 31).toUInt32).toInt32) - (((p4.toUInt32 >>> ((1 : Int32) &&& 31).toUInt32).toInt32) / (3 : Int32)) * (3 : Int32)) - (1 : Int32)).toInt64))), .second, .unset, .unset, .unset] [(.int p3)])) _
    refine XS.i2l X0.here hx rfl (hb hby at_50) rfl ?_
    show Steps p.tables e below (s₁.setTop (mkF m 51 #[.val (.int p1), .val (.int p2), .val (.int p3), .val (.int p4), .val (.int p3), .val (.long (((p1.toInt64) + (p2.toInt64)) + (((((p4.toUInt32 >>> ((1 : Int32) &&& 31).toUInt32).toInt32) - (((p4.toUInt32 >>> ((1 : Int32) &&& 31).toUInt32).toInt32) / (3 : Int32)) * (3 : Int32)) - (1 : Int32)).toInt64))), .second, .unset, .unset, .unset] [(.long (p3.toInt64))])) _
    refine XS.iloadN X0.here hx rfl (hb hby at_51) rfl ?_
    show Steps p.tables e below (s₁.setTop (mkF m 52 #[.val (.int p1), .val (.int p2), .val (.int p3), .val (.int p4), .val (.int p3), .val (.long (((p1.toInt64) + (p2.toInt64)) + (((((p4.toUInt32 >>> ((1 : Int32) &&& 31).toUInt32).toInt32) - (((p4.toUInt32 >>> ((1 : Int32) &&& 31).toUInt32).toInt32) / (3 : Int32)) * (3 : Int32)) - (1 : Int32)).toInt64))), .second, .unset, .unset, .unset] [(.int p1), (.long (p3.toInt64))])) _
    refine XS.i2l X0.here hx rfl (hb hby at_52) rfl ?_
    show Steps p.tables e below (s₁.setTop (mkF m 53 #[.val (.int p1), .val (.int p2), .val (.int p3), .val (.int p4), .val (.int p3), .val (.long (((p1.toInt64) + (p2.toInt64)) + (((((p4.toUInt32 >>> ((1 : Int32) &&& 31).toUInt32).toInt32) - (((p4.toUInt32 >>> ((1 : Int32) &&& 31).toUInt32).toInt32) / (3 : Int32)) * (3 : Int32)) - (1 : Int32)).toInt64))), .second, .unset, .unset, .unset] [(.long (p1.toInt64)), (.long (p3.toInt64))])) _
    refine XS.lsub X0.here hx rfl (hb hby at_53) rfl ?_
    show Steps p.tables e below (s₁.setTop (mkF m 54 #[.val (.int p1), .val (.int p2), .val (.int p3), .val (.int p4), .val (.int p3), .val (.long (((p1.toInt64) + (p2.toInt64)) + (((((p4.toUInt32 >>> ((1 : Int32) &&& 31).toUInt32).toInt32) - (((p4.toUInt32 >>> ((1 : Int32) &&& 31).toUInt32).toInt32) / (3 : Int32)) * (3 : Int32)) - (1 : Int32)).toInt64))), .second, .unset, .unset, .unset] [(.long ((p3.toInt64) - (p1.toInt64)))])) _
    refine XS.iloadN X0.here hx rfl (hb hby at_54) rfl ?_
    show Steps p.tables e below (s₁.setTop (mkF m 55 #[.val (.int p1), .val (.int p2), .val (.int p3), .val (.int p4), .val (.int p3), .val (.long (((p1.toInt64) + (p2.toInt64)) + (((((p4.toUInt32 >>> ((1 : Int32) &&& 31).toUInt32).toInt32) - (((p4.toUInt32 >>> ((1 : Int32) &&& 31).toUInt32).toInt32) / (3 : Int32)) * (3 : Int32)) - (1 : Int32)).toInt64))), .second, .unset, .unset, .unset] [(.int p2), (.long ((p3.toInt64) - (p1.toInt64)))])) _
    refine XS.i2l X0.here hx rfl (hb hby at_55) rfl ?_
    show Steps p.tables e below (s₁.setTop (mkF m 56 #[.val (.int p1), .val (.int p2), .val (.int p3), .val (.int p4), .val (.int p3), .val (.long (((p1.toInt64) + (p2.toInt64)) + (((((p4.toUInt32 >>> ((1 : Int32) &&& 31).toUInt32).toInt32) - (((p4.toUInt32 >>> ((1 : Int32) &&& 31).toUInt32).toInt32) / (3 : Int32)) * (3 : Int32)) - (1 : Int32)).toInt64))), .second, .unset, .unset, .unset] [(.long (p2.toInt64)), (.long ((p3.toInt64) - (p1.toInt64)))])) _
    refine XS.lsub X0.here hx rfl (hb hby at_56) rfl ?_
    show Steps p.tables e below (s₁.setTop (mkF m 57 #[.val (.int p1), .val (.int p2), .val (.int p3), .val (.int p4), .val (.int p3), .val (.long (((p1.toInt64) + (p2.toInt64)) + (((((p4.toUInt32 >>> ((1 : Int32) &&& 31).toUInt32).toInt32) - (((p4.toUInt32 >>> ((1 : Int32) &&& 31).toUInt32).toInt32) / (3 : Int32)) * (3 : Int32)) - (1 : Int32)).toInt64))), .second, .unset, .unset, .unset] [(.long (((p3.toInt64) - (p1.toInt64)) - (p2.toInt64)))])) _
    refine XS.lstore X0.here hx rfl (hb hby at_57) rfl (l' := #[.val (.int p1), .val (.int p2), .val (.int p3), .val (.int p4), .val (.int p3), .val (.long (((p3.toInt64) - (p1.toInt64)) - (p2.toInt64))), .second, .unset, .unset, .unset]) rfl ?_
    show Steps p.tables e below (s₁.setTop (mkF m 59 #[.val (.int p1), .val (.int p2), .val (.int p3), .val (.int p4), .val (.int p3), .val (.long (((p3.toInt64) - (p1.toInt64)) - (p2.toInt64))), .second, .unset, .unset, .unset] [])) _
    refine XS.lload X0.here hx rfl (hb hby at_59) rfl ?_
    show Steps p.tables e below (s₁.setTop (mkF m 61 #[.val (.int p1), .val (.int p2), .val (.int p3), .val (.int p4), .val (.int p3), .val (.long (((p3.toInt64) - (p1.toInt64)) - (p2.toInt64))), .second, .unset, .unset, .unset] [(.long (((p3.toInt64) - (p1.toInt64)) - (p2.toInt64)))])) _
    refine XS.lconst X0.here hx rfl (hb hby at_61) ?_
    show Steps p.tables e below (s₁.setTop (mkF m 62 #[.val (.int p1), .val (.int p2), .val (.int p3), .val (.int p4), .val (.int p3), .val (.long (((p3.toInt64) - (p1.toInt64)) - (p2.toInt64))), .second, .unset, .unset, .unset] [(.long (0 : Int64)), (.long (((p3.toInt64) - (p1.toInt64)) - (p2.toInt64)))])) _
    refine XS.lcmp X0.here hx rfl (hb hby at_62) rfl ?_
    show Steps p.tables e below (s₁.setTop (mkF m 63 #[.val (.int p1), .val (.int p2), .val (.int p3), .val (.int p4), .val (.int p3), .val (.long (((p3.toInt64) - (p1.toInt64)) - (p2.toInt64))), .second, .unset, .unset, .unset] [(.int (lcmpW (((p3.toInt64) - (p1.toInt64)) - (p2.toInt64)) (0 : Int64)))])) _
    refine XS.ifYes X0.here hx rfl (pc0 := 63) (pc' := 70) rfl (hb hby at_63) rfl ((if0 _ _).trans (tlt hc63).1) (by decide) (by decide) ?_
    show Steps p.tables e below (s₁.setTop (mkF m 70 #[.val (.int p1), .val (.int p2), .val (.int p3), .val (.int p4), .val (.int p3), .val (.long (((p3.toInt64) - (p1.toInt64)) - (p2.toInt64))), .second, .unset, .unset, .unset] [])) _
    refine XS.iconst X0.here hx rfl (hb hby at_70) ?_
    show Steps p.tables e below (s₁.setTop (mkF m 71 #[.val (.int p1), .val (.int p2), .val (.int p3), .val (.int p4), .val (.int p3), .val (.long (((p3.toInt64) - (p1.toInt64)) - (p2.toInt64))), .second, .unset, .unset, .unset] [(.int (0 : Int32))])) _
    refine XS.istore X0.here hx rfl (hb hby at_71) rfl (l' := #[.val (.int p1), .val (.int p2), .val (.int p3), .val (.int p4), .val (.int p3), .val (.long (((p3.toInt64) - (p1.toInt64)) - (p2.toInt64))), .second, .val (.int (0 : Int32)), .unset, .unset]) rfl ?_
    show Steps p.tables e below (s₁.setTop (mkF m 73 #[.val (.int p1), .val (.int p2), .val (.int p3), .val (.int p4), .val (.int p3), .val (.long (((p3.toInt64) - (p1.toInt64)) - (p2.toInt64))), .second, .val (.int (0 : Int32)), .unset, .unset] [])) _
    refine XS.iloadN X0.here hx rfl (hb hby at_73) rfl ?_
    show Steps p.tables e below (s₁.setTop (mkF m 74 #[.val (.int p1), .val (.int p2), .val (.int p3), .val (.int p4), .val (.int p3), .val (.long (((p3.toInt64) - (p1.toInt64)) - (p2.toInt64))), .second, .val (.int (0 : Int32)), .unset, .unset] [(.int p1)])) _
    refine XS.iloadN X0.here hx rfl (hb hby at_74) rfl ?_
    show Steps p.tables e below (s₁.setTop (mkF m 75 #[.val (.int p1), .val (.int p2), .val (.int p3), .val (.int p4), .val (.int p3), .val (.long (((p3.toInt64) - (p1.toInt64)) - (p2.toInt64))), .second, .val (.int (0 : Int32)), .unset, .unset] [(.int p2), (.int p1)])) _
    refine XS.iload X0.here hx rfl (hb hby at_75) rfl ?_
    show Steps p.tables e below (s₁.setTop (mkF m 77 #[.val (.int p1), .val (.int p2), .val (.int p3), .val (.int p4), .val (.int p3), .val (.long (((p3.toInt64) - (p1.toInt64)) - (p2.toInt64))), .second, .val (.int (0 : Int32)), .unset, .unset] [(.int p3), (.int p2), (.int p1)])) _
    refine st5 _ ?_
    show Steps p.tables e below (T5.setTop (mkF m 80 #[.val (.int p1), .val (.int p2), .val (.int p3), .val (.int p4), .val (.int p3), .val (.long (((p3.toInt64) - (p1.toInt64)) - (p2.toInt64))), .second, .val (.int (0 : Int32)), .unset, .unset] [(.int (F1 p1 p2 p3))])) _
    refine XS.istore X5.here hx rfl (hb hby at_80) rfl (l' := #[.val (.int p1), .val (.int p2), .val (.int p3), .val (.int p4), .val (.int p3), .val (.long (((p3.toInt64) - (p1.toInt64)) - (p2.toInt64))), .second, .val (.int (0 : Int32)), .val (.int (F1 p1 p2 p3)), .unset]) rfl ?_
    show Steps p.tables e below (T5.setTop (mkF m 82 #[.val (.int p1), .val (.int p2), .val (.int p3), .val (.int p4), .val (.int p3), .val (.long (((p3.toInt64) - (p1.toInt64)) - (p2.toInt64))), .second, .val (.int (0 : Int32)), .val (.int (F1 p1 p2 p3)), .unset] [])) _
    refine XS.iloadN X5.here hx rfl (hb hby at_82) rfl ?_
    show Steps p.tables e below (T5.setTop (mkF m 83 #[.val (.int p1), .val (.int p2), .val (.int p3), .val (.int p4), .val (.int p3), .val (.long (((p3.toInt64) - (p1.toInt64)) - (p2.toInt64))), .second, .val (.int (0 : Int32)), .val (.int (F1 p1 p2 p3)), .unset] [(.int p2)])) _
    refine XS.iloadN X5.here hx rfl (hb hby at_83) rfl ?_
    show Steps p.tables e below (T5.setTop (mkF m 84 #[.val (.int p1), .val (.int p2), .val (.int p3), .val (.int p4), .val (.int p3), .val (.long (((p3.toInt64) - (p1.toInt64)) - (p2.toInt64))), .second, .val (.int (0 : Int32)), .val (.int (F1 p1 p2 p3)), .unset] [(.int p1), (.int p2)])) _
    refine XS.iload X5.here hx rfl (hb hby at_84) rfl ?_
    show Steps p.tables e below (T5.setTop (mkF m 86 #[.val (.int p1), .val (.int p2), .val (.int p3), .val (.int p4), .val (.int p3), .val (.long (((p3.toInt64) - (p1.toInt64)) - (p2.toInt64))), .second, .val (.int (0 : Int32)), .val (.int (F1 p1 p2 p3)), .unset] [(.int p3), (.int p1), (.int p2)])) _
    refine st6 _ ?_
    show Steps p.tables e below (T6.setTop (mkF m 89 #[.val (.int p1), .val (.int p2), .val (.int p3), .val (.int p4), .val (.int p3), .val (.long (((p3.toInt64) - (p1.toInt64)) - (p2.toInt64))), .second, .val (.int (0 : Int32)), .val (.int (F1 p1 p2 p3)), .unset] [(.int (F1 p2 p1 p3))])) _
    refine XS.istore X6.here hx rfl (hb hby at_89) rfl (l' := #[.val (.int p1), .val (.int p2), .val (.int p3), .val (.int p4), .val (.int p3), .val (.long (((p3.toInt64) - (p1.toInt64)) - (p2.toInt64))), .second, .val (.int (0 : Int32)), .val (.int (F1 p1 p2 p3)), .val (.int (F1 p2 p1 p3))]) rfl ?_
    show Steps p.tables e below (T6.setTop (mkF m 91 #[.val (.int p1), .val (.int p2), .val (.int p3), .val (.int p4), .val (.int p3), .val (.long (((p3.toInt64) - (p1.toInt64)) - (p2.toInt64))), .second, .val (.int (0 : Int32)), .val (.int (F1 p1 p2 p3)), .val (.int (F1 p2 p1 p3))] [])) _
    refine XS.iload X6.here hx rfl (hb hby at_91) rfl ?_
    show Steps p.tables e below (T6.setTop (mkF m 93 #[.val (.int p1), .val (.int p2), .val (.int p3), .val (.int p4), .val (.int p3), .val (.long (((p3.toInt64) - (p1.toInt64)) - (p2.toInt64))), .second, .val (.int (0 : Int32)), .val (.int (F1 p1 p2 p3)), .val (.int (F1 p2 p1 p3))] [(.int (F1 p1 p2 p3))])) _
    refine XS.iload X6.here hx rfl (hb hby at_93) rfl ?_
    show Steps p.tables e below (T6.setTop (mkF m 95 #[.val (.int p1), .val (.int p2), .val (.int p3), .val (.int p4), .val (.int p3), .val (.long (((p3.toInt64) - (p1.toInt64)) - (p2.toInt64))), .second, .val (.int (0 : Int32)), .val (.int (F1 p1 p2 p3)), .val (.int (F1 p2 p1 p3))] [(.int (0 : Int32)), (.int (F1 p1 p2 p3))])) _
    refine XS.icmpNo X6.here hx rfl (hb hby at_95) rfl (teq (own_neg _ _ _ hc63 : (F1 p1 p2 p3) = (0 : Int32))).2 ?_
    show Steps p.tables e below (T6.setTop (mkF m 98 #[.val (.int p1), .val (.int p2), .val (.int p3), .val (.int p4), .val (.int p3), .val (.long (((p3.toInt64) - (p1.toInt64)) - (p2.toInt64))), .second, .val (.int (0 : Int32)), .val (.int (F1 p1 p2 p3)), .val (.int (F1 p2 p1 p3))] [])) _
    refine XS.iload X6.here hx rfl (hb hby at_98) rfl ?_
    show Steps p.tables e below (T6.setTop (mkF m 100 #[.val (.int p1), .val (.int p2), .val (.int p3), .val (.int p4), .val (.int p3), .val (.long (((p3.toInt64) - (p1.toInt64)) - (p2.toInt64))), .second, .val (.int (0 : Int32)), .val (.int (F1 p1 p2 p3)), .val (.int (F1 p2 p1 p3))] [(.int (F1 p2 p1 p3))])) _
    refine XS.iload X6.here hx rfl (hb hby at_100) rfl ?_
    show Steps p.tables e below (T6.setTop (mkF m 102 #[.val (.int p1), .val (.int p2), .val (.int p3), .val (.int p4), .val (.int p3), .val (.long (((p3.toInt64) - (p1.toInt64)) - (p2.toInt64))), .second, .val (.int (0 : Int32)), .val (.int (F1 p1 p2 p3)), .val (.int (F1 p2 p1 p3))] [(.int (F1 p1 p2 p3)), (.int (F1 p2 p1 p3))])) _
    refine XS.icmpNo X6.here hx rfl (hb hby at_102) rfl (teq (own_sym _ _ _ : (F1 p2 p1 p3) = (F1 p1 p2 p3))).2 ?_
    show Steps p.tables e below (T6.setTop (mkF m 105 #[.val (.int p1), .val (.int p2), .val (.int p3), .val (.int p4), .val (.int p3), .val (.long (((p3.toInt64) - (p1.toInt64)) - (p2.toInt64))), .second, .val (.int (0 : Int32)), .val (.int (F1 p1 p2 p3)), .val (.int (F1 p2 p1 p3))] [])) _
    refine XS.iconst X6.here hx rfl (hb hby at_105) ?_
    show Steps p.tables e below (T6.setTop (mkF m 106 #[.val (.int p1), .val (.int p2), .val (.int p3), .val (.int p4), .val (.int p3), .val (.long (((p3.toInt64) - (p1.toInt64)) - (p2.toInt64))), .second, .val (.int (0 : Int32)), .val (.int (F1 p1 p2 p3)), .val (.int (F1 p2 p1 p3))] [(.int (1 : Int32))])) _
    refine XS.goto X6.here hx rfl (pc0 := 106) (pc' := 110) rfl (hb hby at_106) (by decide) (by decide) ?_
    show Steps p.tables e below (T6.setTop (mkF m 110 #[.val (.int p1), .val (.int p2), .val (.int p3), .val (.int p4), .val (.int p3), .val (.long (((p3.toInt64) - (p1.toInt64)) - (p2.toInt64))), .second, .val (.int (0 : Int32)), .val (.int (F1 p1 p2 p3)), .val (.int (F1 p2 p1 p3))] [(.int (1 : Int32))])) _
    exact retN X6 hx (t := .boolean) Bd.returns (by simp) (hb hby at_110) hr
  · show Q0 Z p1 p2 p3 p4 h0 n0 _ T6.heap _
    exact ⟨rfl, N6⟩
set_option maxRecDepth 65536 in
set_option maxHeartbeats 40000000 in
theorem rm0_ftfff (l : Launch) (Z : State) (a0 : Array Value) (hw : ∀ d ∈ tables_1, d.before a0 Z = true) (ws : List Jvm.Cond) (p1 : Int32) (p2 : Int32) (p3 : Int32) (p4 : Int32) (h0 : Heap) (n0 : Nat) (Z0 : n0 ≤ h0.size) (hc6 : ¬ ((p4 &&& (1 : Int32)) = (0 : Int32))) (hc31 : (lcmpW (((p1.toInt64) + (p2.toInt64)) + (((((p4.toUInt32 >>> ((1 : Int32) &&& 31).toUInt32).toInt32) - (((p4.toUInt32 >>> ((1 : Int32) &&& 31).toUInt32).toInt32) / (3 : Int32)) * (3 : Int32)) - (1 : Int32)).toInt64)) (-2147483648 : Int64)) < (0 : Int32)) (hc63 : ¬ ((lcmpW (((p3.toInt64) - (p1.toInt64)) - (p2.toInt64)) (0 : Int64)) < (0 : Int32))) :
    MetFree l x (head1 (Jvm.Cond.code x code maxLocals ret :: ws) room_1) (fun a U => a = #[(.int p1), (.int p2), (.int p3), (.int p4)] ∧ Z.Warmed39 U.vm ∧ U.heap = h0) (fun _ _ _ _ _ => True) (fun _ U o U' => ∃ v L, o = .returned v ∧ Q0 Z p1 p2 p3 p4 h0 n0 v U'.heap L ∧ FrameEnd U o U' L room_1.cells room_1.slots) := by
  refine MetFree.of_bodySF (plainFor_of_name pn_0) hisR ?_
  intro p e s m args below meth c s₁ Bd hml0 hP hK
  obtain ⟨rfl, hZ, hh⟩ := hP
  have hx := Bd.exec
  have hby := Bd.bytes
  have hml : c.maxLocals = 10 := hml0
  have hown : s.vm.findClass "com/example/weather_gauge/weathergauge/game/NavalBattleScoresPinLaw" = some m.cls := findClass_of_methodNamed Bd.named
  have hnm := (name_of_methodNamed Bd.named Bd.method).1
  have X0 : Stand p l e room_1 s m #[(.int p1), (.int p2), (.int p3), (.int p4)] below meth c s₁ [] 0 0 := Stand.of_body Bd
  have e0 : s₁.heap = h0 := by rw [← hh, Bd.state]; rfl
  have N0 := Fr.nil n0
  have pre0 : ∀ t, Steps p.tables e below (s₁.setTop (mkF m 0 #[.val (.int p1), .val (.int p2), .val (.int p3), .val (.int p4), .unset, .unset, .unset, .unset, .unset, .unset] [])) t → Steps p.tables e below (s₁.setTop (entryFrame m #[(.int p1), (.int p2), (.int p3), (.int p4)] maxLocals)) t := fun t k => castTop (ef_0 m p1 p2 p3 p4) k
  -- 3. LAWS
  -- pc 77: com/example/weather_gauge/weathergauge/game/NavalBattle.scores by its contract rm1
  obtain ⟨_, _, ⟨T5, L5, k5, n5⟩, -, X5, ⟨Lc5, hQ5, l5, y5, z5⟩, st5⟩ := Jvm.LawKit.callS X0 hx (y := (⟨"com/example/weather_gauge/weathergauge/game/NavalBattle", "scores", "(III)Z"⟩ : MethodName)) hown (mvT hZ (hw _ (List.mem_of_getElem? (i := 2) rfl))) (mvT hZ (hw _ (List.mem_of_getElem? (i := 3) rfl))) (mvT hZ (hw _ (List.mem_of_getElem? (i := 4) rfl))) (mvT hZ (hw _ (List.mem_of_getElem? (i := 5) rfl))) (by decide) (backOf (W := 0) (rm1 l Z a0 hw [] p1 p2 p3 h0 n0 Z0) hZ (hw _ (List.mem_of_getElem? (i := 5) rfl)) (hw _ (List.mem_of_getElem? (i := 4) rfl)) (by decide) (by decide)) (g := (mkF m 77 #[.val (.int p1), .val (.int p2), .val (.int p3), .val (.int p4), .val (.int p3), .val (.long (((p3.toInt64) - (p1.toInt64)) - (p2.toInt64))), .second, .val (.int (1 : Int32)), .unset, .unset] [(.int p3), (.int p2), (.int p1)])) rfl (by rw [hml]; rfl) (argsL := [(.int p1), (.int p2), (.int p3)]) (rest := []) (lenOf pd_0_0 rfl) rfl (by show 2 * 0 + _ ≤ _; exact Nat.le_of_eq rfl) (hb hby at_77) (fun _ _ => ⟨rfl, e0, (by decide : 0 + 0 ≤ _), (by decide : 0 + 0 ≤ _)⟩)
  dsimp only [Pt.U, Pt.locs, Pt.cells, Pt.slots] at X5 l5 y5 z5 st5 hQ5
  subst l5 y5 z5
  obtain ⟨rfl, N5q, q5⟩ := hQ5      -- what it returned, that it wrote nothing old, and the rest of your Q1
  have H5 : n0 ≤ T5.heap.size := by rw [q5]; exact Z0
  have N5 := Fr.app N0 N5q
  -- pc 86: com/example/weather_gauge/weathergauge/game/NavalBattle.scores by its contract rm1
  obtain ⟨_, _, ⟨T6, L6, k6, n6⟩, -, X6, ⟨Lc6, hQ6, l6, y6, z6⟩, st6⟩ := Jvm.LawKit.callS X5 hx (y := (⟨"com/example/weather_gauge/weathergauge/game/NavalBattle", "scores", "(III)Z"⟩ : MethodName)) hown (mvT hZ (hw _ (List.mem_of_getElem? (i := 2) rfl))) (mvT hZ (hw _ (List.mem_of_getElem? (i := 3) rfl))) (mvT hZ (hw _ (List.mem_of_getElem? (i := 4) rfl))) (mvT hZ (hw _ (List.mem_of_getElem? (i := 5) rfl))) (by decide) (backOf (W := 0) (rm1 l Z a0 hw [] p2 p1 p3 T5.heap n0 H5) hZ (hw _ (List.mem_of_getElem? (i := 5) rfl)) (hw _ (List.mem_of_getElem? (i := 4) rfl)) (by decide) (by decide)) (g := (mkF m 86 #[.val (.int p1), .val (.int p2), .val (.int p3), .val (.int p4), .val (.int p3), .val (.long (((p3.toInt64) - (p1.toInt64)) - (p2.toInt64))), .second, .val (.int (1 : Int32)), .val (.int (F1 p1 p2 p3)), .unset] [(.int p3), (.int p1), (.int p2)])) rfl (by rw [hml]; rfl) (argsL := [(.int p2), (.int p1), (.int p3)]) (rest := []) (lenOf pd_0_0 rfl) rfl (by show 2 * 0 + _ ≤ _; exact Nat.le_of_eq rfl) (hb hby at_86) (fun _ _ => ⟨rfl, rfl, (by decide : 0 + 0 ≤ _), (by decide : 0 + 0 ≤ _)⟩)
  dsimp only [Pt.U, Pt.locs, Pt.cells, Pt.slots] at X6 l6 y6 z6 st6 hQ6
  subst l6 y6 z6
  obtain ⟨rfl, N6q, q6⟩ := hQ6      -- what it returned, that it wrote nothing old, and the rest of your Q1
  have H6 : n0 ≤ T6.heap.size := by rw [q6]; exact H5
  have N6 := Fr.app N5 N6q
  obtain ⟨fs, hr, hrun, hended, hW, hsame⟩ := X6.leave (v := some (.int (1 : Int32))) (fun h => by rw [Bd.returns] at h; cases h)
  refine ⟨_, _, pre0 _ ?_, hrun, hended, _, _, rfl, ?_, ⟨_, rfl⟩, hW, hsame.mono (by decide) (by decide)⟩
  -- 4. STEPS
  · show Steps p.tables e below (s₁.setTop (mkF m 0 #[.val (.int p1), .val (.int p2), .val (.int p3), .val (.int p4), .unset, .unset, .unset, .unset, .unset, .unset] [])) _
    refine XS.iloadN X0.here hx rfl (hb hby at_0) rfl ?_
    show Steps p.tables e below (s₁.setTop (mkF m 1 #[.val (.int p1), .val (.int p2), .val (.int p3), .val (.int p4), .unset, .unset, .unset, .unset, .unset, .unset] [(.int p3)])) _
    refine XS.istore X0.here hx rfl (hb hby at_1) rfl (l' := #[.val (.int p1), .val (.int p2), .val (.int p3), .val (.int p4), .val (.int p3), .unset, .unset, .unset, .unset, .unset]) rfl ?_
    show Steps p.tables e below (s₁.setTop (mkF m 3 #[.val (.int p1), .val (.int p2), .val (.int p3), .val (.int p4), .val (.int p3), .unset, .unset, .unset, .unset, .unset] [])) _
    refine XS.iloadN X0.here hx rfl (hb hby at_3) rfl ?_
    show Steps p.tables e below (s₁.setTop (mkF m 4 #[.val (.int p1), .val (.int p2), .val (.int p3), .val (.int p4), .val (.int p3), .unset, .unset, .unset, .unset, .unset] [(.int p4)])) _
    refine XS.iconst X0.here hx rfl (hb hby at_4) ?_
    show Steps p.tables e below (s₁.setTop (mkF m 5 #[.val (.int p1), .val (.int p2), .val (.int p3), .val (.int p4), .val (.int p3), .unset, .unset, .unset, .unset, .unset] [(.int (1 : Int32)), (.int p4)])) _
    refine XS.iand X0.here hx rfl (hb hby at_5) rfl ?_
    show Steps p.tables e below (s₁.setTop (mkF m 6 #[.val (.int p1), .val (.int p2), .val (.int p3), .val (.int p4), .val (.int p3), .unset, .unset, .unset, .unset, .unset] [(.int (p4 &&& (1 : Int32)))])) _
    refine XS.ifNo X0.here hx rfl (hb hby at_6) rfl ((if0 _ _).trans (feq hc6).1) ?_
    show Steps p.tables e below (s₁.setTop (mkF m 9 #[.val (.int p1), .val (.int p2), .val (.int p3), .val (.int p4), .val (.int p3), .unset, .unset, .unset, .unset, .unset] [])) _
    refine XS.iloadN X0.here hx rfl (hb hby at_9) rfl ?_
    show Steps p.tables e below (s₁.setTop (mkF m 10 #[.val (.int p1), .val (.int p2), .val (.int p3), .val (.int p4), .val (.int p3), .unset, .unset, .unset, .unset, .unset] [(.int p1)])) _
    refine XS.i2l X0.here hx rfl (hb hby at_10) rfl ?_
    show Steps p.tables e below (s₁.setTop (mkF m 11 #[.val (.int p1), .val (.int p2), .val (.int p3), .val (.int p4), .val (.int p3), .unset, .unset, .unset, .unset, .unset] [(.long (p1.toInt64))])) _
    refine XS.iloadN X0.here hx rfl (hb hby at_11) rfl ?_
    show Steps p.tables e below (s₁.setTop (mkF m 12 #[.val (.int p1), .val (.int p2), .val (.int p3), .val (.int p4), .val (.int p3), .unset, .unset, .unset, .unset, .unset] [(.int p2), (.long (p1.toInt64))])) _
    refine XS.i2l X0.here hx rfl (hb hby at_12) rfl ?_
    show Steps p.tables e below (s₁.setTop (mkF m 13 #[.val (.int p1), .val (.int p2), .val (.int p3), .val (.int p4), .val (.int p3), .unset, .unset, .unset, .unset, .unset] [(.long (p2.toInt64)), (.long (p1.toInt64))])) _
    refine XS.ladd X0.here hx rfl (hb hby at_13) rfl ?_
    show Steps p.tables e below (s₁.setTop (mkF m 14 #[.val (.int p1), .val (.int p2), .val (.int p3), .val (.int p4), .val (.int p3), .unset, .unset, .unset, .unset, .unset] [(.long ((p1.toInt64) + (p2.toInt64)))])) _
    refine XS.iloadN X0.here hx rfl (hb hby at_14) rfl ?_
    show Steps p.tables e below (s₁.setTop (mkF m 15 #[.val (.int p1), .val (.int p2), .val (.int p3), .val (.int p4), .val (.int p3), .unset, .unset, .unset, .unset, .unset] [(.int p4), (.long ((p1.toInt64) + (p2.toInt64)))])) _
    refine XS.iconst X0.here hx rfl (hb hby at_15) ?_
    show Steps p.tables e below (s₁.setTop (mkF m 16 #[.val (.int p1), .val (.int p2), .val (.int p3), .val (.int p4), .val (.int p3), .unset, .unset, .unset, .unset, .unset] [(.int (1 : Int32)), (.int p4), (.long ((p1.toInt64) + (p2.toInt64)))])) _
    refine XS.iushr X0.here hx rfl (hb hby at_16) rfl ?_
    show Steps p.tables e below (s₁.setTop (mkF m 17 #[.val (.int p1), .val (.int p2), .val (.int p3), .val (.int p4), .val (.int p3), .unset, .unset, .unset, .unset, .unset] [(.int ((p4.toUInt32 >>> ((1 : Int32) &&& 31).toUInt32).toInt32)), (.long ((p1.toInt64) + (p2.toInt64)))])) _
    refine XS.iconst X0.here hx rfl (hb hby at_17) ?_
    show Steps p.tables e below (s₁.setTop (mkF m 18 #[.val (.int p1), .val (.int p2), .val (.int p3), .val (.int p4), .val (.int p3), .unset, .unset, .unset, .unset, .unset] [(.int (3 : Int32)), (.int ((p4.toUInt32 >>> ((1 : Int32) &&& 31).toUInt32).toInt32)), (.long ((p1.toInt64) + (p2.toInt64)))])) _
    refine XS.irem X0.here hx rfl (hb hby at_18) rfl (by decide) ?_
    show Steps p.tables e below (s₁.setTop (mkF m 19 #[.val (.int p1), .val (.int p2), .val (.int p3), .val (.int p4), .val (.int p3), .unset, .unset, .unset, .unset, .unset] [(.int (((p4.toUInt32 >>> ((1 : Int32) &&& 31).toUInt32).toInt32) - (((p4.toUInt32 >>> ((1 : Int32) &&& 31).toUInt32).toInt32) / (3 : Int32)) * (3 : Int32))), (.long ((p1.toInt64) + (p2.toInt64)))])) _
    refine XS.iconst X0.here hx rfl (hb hby at_19) ?_
    show Steps p.tables e below (s₁.setTop (mkF m 20 #[.val (.int p1), .val (.int p2), .val (.int p3), .val (.int p4), .val (.int p3), .unset, .unset, .unset, .unset, .unset] [(.int (1 : Int32)), (.int (((p4.toUInt32 >>> ((1 : Int32) &&& 31).toUInt32).toInt32) - (((p4.toUInt32 >>> ((1 : Int32) &&& 31).toUInt32).toInt32) / (3 : Int32)) * (3 : Int32))), (.long ((p1.toInt64) + (p2.toInt64)))])) _
    refine XS.isub X0.here hx rfl (hb hby at_20) rfl ?_
    show Steps p.tables e below (s₁.setTop (mkF m 21 #[.val (.int p1), .val (.int p2), .val (.int p3), .val (.int p4), .val (.int p3), .unset, .unset, .unset, .unset, .unset] [(.int ((((p4.toUInt32 >>> ((1 : Int32) &&& 31).toUInt32).toInt32) - (((p4.toUInt32 >>> ((1 : Int32) &&& 31).toUInt32).toInt32) / (3 : Int32)) * (3 : Int32)) - (1 : Int32))), (.long ((p1.toInt64) + (p2.toInt64)))])) _
    refine XS.i2l X0.here hx rfl (hb hby at_21) rfl ?_
    show Steps p.tables e below (s₁.setTop (mkF m 22 #[.val (.int p1), .val (.int p2), .val (.int p3), .val (.int p4), .val (.int p3), .unset, .unset, .unset, .unset, .unset] [(.long (((((p4.toUInt32 >>> ((1 : Int32) &&& 31).toUInt32).toInt32) - (((p4.toUInt32 >>> ((1 : Int32) &&& 31).toUInt32).toInt32) / (3 : Int32)) * (3 : Int32)) - (1 : Int32)).toInt64)), (.long ((p1.toInt64) + (p2.toInt64)))])) _
    refine XS.ladd X0.here hx rfl (hb hby at_22) rfl ?_
    show Steps p.tables e below (s₁.setTop (mkF m 23 #[.val (.int p1), .val (.int p2), .val (.int p3), .val (.int p4), .val (.int p3), .unset, .unset, .unset, .unset, .unset] [(.long (((p1.toInt64) + (p2.toInt64)) + (((((p4.toUInt32 >>> ((1 : Int32) &&& 31).toUInt32).toInt32) - (((p4.toUInt32 >>> ((1 : Int32) &&& 31).toUInt32).toInt32) / (3 : Int32)) * (3 : Int32)) - (1 : Int32)).toInt64)))])) _
    refine XS.lstore X0.here hx rfl (hb hby at_23) rfl (l' := #[.val (.int p1), .val (.int p2), .val (.int p3), .val (.int p4), .val (.int p3), .val (.long (((p1.toInt64) + (p2.toInt64)) + (((((p4.toUInt32 >>> ((1 : Int32) &&& 31).toUInt32).toInt32) - (((p4.toUInt32 >>> ((1 : Int32) &&& 31).toUInt32).toInt32) / (3 : Int32)) * (3 : Int32)) - (1 : Int32)).toInt64))), .second, .unset, .unset, .unset]) rfl ?_
    show Steps p.tables e below (s₁.setTop (mkF m 25 #[.val (.int p1), .val (.int p2), .val (.int p3), .val (.int p4), .val (.int p3), .val (.long (((p1.toInt64) + (p2.toInt64)) + (((((p4.toUInt32 >>> ((1 : Int32) &&& 31).toUInt32).toInt32) - (((p4.toUInt32 >>> ((1 : Int32) &&& 31).toUInt32).toInt32) / (3 : Int32)) * (3 : Int32)) - (1 : Int32)).toInt64))), .second, .unset, .unset, .unset] [])) _
    refine XS.lload X0.here hx rfl (hb hby at_25) rfl ?_
    show Steps p.tables e below (s₁.setTop (mkF m 27 #[.val (.int p1), .val (.int p2), .val (.int p3), .val (.int p4), .val (.int p3), .val (.long (((p1.toInt64) + (p2.toInt64)) + (((((p4.toUInt32 >>> ((1 : Int32) &&& 31).toUInt32).toInt32) - (((p4.toUInt32 >>> ((1 : Int32) &&& 31).toUInt32).toInt32) / (3 : Int32)) * (3 : Int32)) - (1 : Int32)).toInt64))), .second, .unset, .unset, .unset] [(.long (((p1.toInt64) + (p2.toInt64)) + (((((p4.toUInt32 >>> ((1 : Int32) &&& 31).toUInt32).toInt32) - (((p4.toUInt32 >>> ((1 : Int32) &&& 31).toUInt32).toInt32) / (3 : Int32)) * (3 : Int32)) - (1 : Int32)).toInt64)))])) _
    refine X0.ldc2Long hx hown (mvT hZ (hw _ (List.mem_of_getElem? (i := 0) rfl))) (g := (mkF m 27 #[.val (.int p1), .val (.int p2), .val (.int p3), .val (.int p4), .val (.int p3), .val (.long (((p1.toInt64) + (p2.toInt64)) + (((((p4.toUInt32 >>> ((1 : Int32) &&& 31).toUInt32).toInt32) - (((p4.toUInt32 >>> ((1 : Int32) &&& 31).toUInt32).toInt32) / (3 : Int32)) * (3 : Int32)) - (1 : Int32)).toInt64))), .second, .unset, .unset, .unset] [(.long (((p1.toInt64) + (p2.toInt64)) + (((((p4.toUInt32 >>> ((1 : Int32) &&& 31).toUInt32).toInt32) - (((p4.toUInt32 >>> ((1 : Int32) &&& 31).toUInt32).toInt32) / (3 : Int32)) * (3 : Int32)) - (1 : Int32)).toInt64)))])) rfl (hb hby at_27) _ ?_
    show Steps p.tables e below (s₁.setTop (mkF m 30 #[.val (.int p1), .val (.int p2), .val (.int p3), .val (.int p4), .val (.int p3), .val (.long (((p1.toInt64) + (p2.toInt64)) + (((((p4.toUInt32 >>> ((1 : Int32) &&& 31).toUInt32).toInt32) - (((p4.toUInt32 >>> ((1 : Int32) &&& 31).toUInt32).toInt32) / (3 : Int32)) * (3 : Int32)) - (1 : Int32)).toInt64))), .second, .unset, .unset, .unset] [(.long (-2147483648 : Int64)), (.long (((p1.toInt64) + (p2.toInt64)) + (((((p4.toUInt32 >>> ((1 : Int32) &&& 31).toUInt32).toInt32) - (((p4.toUInt32 >>> ((1 : Int32) &&& 31).toUInt32).toInt32) / (3 : Int32)) * (3 : Int32)) - (1 : Int32)).toInt64)))])) _
    refine XS.lcmp X0.here hx rfl (hb hby at_30) rfl ?_
    show Steps p.tables e below (s₁.setTop (mkF m 31 #[.val (.int p1), .val (.int p2), .val (.int p3), .val (.int p4), .val (.int p3), .val (.long (((p1.toInt64) + (p2.toInt64)) + (((((p4.toUInt32 >>> ((1 : Int32) &&& 31).toUInt32).toInt32) - (((p4.toUInt32 >>> ((1 : Int32) &&& 31).toUInt32).toInt32) / (3 : Int32)) * (3 : Int32)) - (1 : Int32)).toInt64))), .second, .unset, .unset, .unset] [(.int (lcmpW (((p1.toInt64) + (p2.toInt64)) + (((((p4.toUInt32 >>> ((1 : Int32) &&& 31).toUInt32).toInt32) - (((p4.toUInt32 >>> ((1 : Int32) &&& 31).toUInt32).toInt32) / (3 : Int32)) * (3 : Int32)) - (1 : Int32)).toInt64)) (-2147483648 : Int64)))])) _
    refine XS.ifYes X0.here hx rfl (pc0 := 31) (pc' := 48) rfl (hb hby at_31) rfl ((if0 _ _).trans (tlt hc31).1) (by decide) (by decide) ?_
    show Steps p.tables e below (s₁.setTop (mkF m 48 #[.val (.int p1), .val (.int p2), .val (.int p3), .val (.int p4), .val (.int p3), .val (.long (((p1.toInt64) + (p2.toInt64)) + (((((p4.toUInt32 >>> ((1 : Int32) &&& 31).toUInt32).toInt32) - (((p4.toUInt32 >>> ((1 : Int32) &&& 31).toUInt32).toInt32) / (3 : Int32)) * (3 : Int32)) - (1 : Int32)).toInt64))), .second, .unset, .unset, .unset] [])) _
    refine XS.iload X0.here hx rfl (hb hby at_48) rfl ?_
    show Steps p.tables e below (s₁.setTop (mkF m 50 #[.val (.int p1), .val (.int p2), .val (.int p3), .val (.int p4), .val (.int p3), .val (.long (((p1.toInt64) + (p2.toInt64)) + (((((p4.toUInt32 >>> ((1 : Int32) &&& 31).toUInt32).toInt32) - (((p4.toUInt32 >>> ((1 : Int32) &&& 31).toUInt32).toInt32) / (3 : Int32)) * (3 : Int32)) - (1 : Int32)).toInt64))), .second, .unset, .unset, .unset] [(.int p3)])) _
    refine XS.i2l X0.here hx rfl (hb hby at_50) rfl ?_
    show Steps p.tables e below (s₁.setTop (mkF m 51 #[.val (.int p1), .val (.int p2), .val (.int p3), .val (.int p4), .val (.int p3), .val (.long (((p1.toInt64) + (p2.toInt64)) + (((((p4.toUInt32 >>> ((1 : Int32) &&& 31).toUInt32).toInt32) - (((p4.toUInt32 >>> ((1 : Int32) &&& 31).toUInt32).toInt32) / (3 : Int32)) * (3 : Int32)) - (1 : Int32)).toInt64))), .second, .unset, .unset, .unset] [(.long (p3.toInt64))])) _
    refine XS.iloadN X0.here hx rfl (hb hby at_51) rfl ?_
    show Steps p.tables e below (s₁.setTop (mkF m 52 #[.val (.int p1), .val (.int p2), .val (.int p3), .val (.int p4), .val (.int p3), .val (.long (((p1.toInt64) + (p2.toInt64)) + (((((p4.toUInt32 >>> ((1 : Int32) &&& 31).toUInt32).toInt32) - (((p4.toUInt32 >>> ((1 : Int32) &&& 31).toUInt32).toInt32) / (3 : Int32)) * (3 : Int32)) - (1 : Int32)).toInt64))), .second, .unset, .unset, .unset] [(.int p1), (.long (p3.toInt64))])) _
    refine XS.i2l X0.here hx rfl (hb hby at_52) rfl ?_
    show Steps p.tables e below (s₁.setTop (mkF m 53 #[.val (.int p1), .val (.int p2), .val (.int p3), .val (.int p4), .val (.int p3), .val (.long (((p1.toInt64) + (p2.toInt64)) + (((((p4.toUInt32 >>> ((1 : Int32) &&& 31).toUInt32).toInt32) - (((p4.toUInt32 >>> ((1 : Int32) &&& 31).toUInt32).toInt32) / (3 : Int32)) * (3 : Int32)) - (1 : Int32)).toInt64))), .second, .unset, .unset, .unset] [(.long (p1.toInt64)), (.long (p3.toInt64))])) _
    refine XS.lsub X0.here hx rfl (hb hby at_53) rfl ?_
    show Steps p.tables e below (s₁.setTop (mkF m 54 #[.val (.int p1), .val (.int p2), .val (.int p3), .val (.int p4), .val (.int p3), .val (.long (((p1.toInt64) + (p2.toInt64)) + (((((p4.toUInt32 >>> ((1 : Int32) &&& 31).toUInt32).toInt32) - (((p4.toUInt32 >>> ((1 : Int32) &&& 31).toUInt32).toInt32) / (3 : Int32)) * (3 : Int32)) - (1 : Int32)).toInt64))), .second, .unset, .unset, .unset] [(.long ((p3.toInt64) - (p1.toInt64)))])) _
    refine XS.iloadN X0.here hx rfl (hb hby at_54) rfl ?_
    show Steps p.tables e below (s₁.setTop (mkF m 55 #[.val (.int p1), .val (.int p2), .val (.int p3), .val (.int p4), .val (.int p3), .val (.long (((p1.toInt64) + (p2.toInt64)) + (((((p4.toUInt32 >>> ((1 : Int32) &&& 31).toUInt32).toInt32) - (((p4.toUInt32 >>> ((1 : Int32) &&& 31).toUInt32).toInt32) / (3 : Int32)) * (3 : Int32)) - (1 : Int32)).toInt64))), .second, .unset, .unset, .unset] [(.int p2), (.long ((p3.toInt64) - (p1.toInt64)))])) _
    refine XS.i2l X0.here hx rfl (hb hby at_55) rfl ?_
    show Steps p.tables e below (s₁.setTop (mkF m 56 #[.val (.int p1), .val (.int p2), .val (.int p3), .val (.int p4), .val (.int p3), .val (.long (((p1.toInt64) + (p2.toInt64)) + (((((p4.toUInt32 >>> ((1 : Int32) &&& 31).toUInt32).toInt32) - (((p4.toUInt32 >>> ((1 : Int32) &&& 31).toUInt32).toInt32) / (3 : Int32)) * (3 : Int32)) - (1 : Int32)).toInt64))), .second, .unset, .unset, .unset] [(.long (p2.toInt64)), (.long ((p3.toInt64) - (p1.toInt64)))])) _
    refine XS.lsub X0.here hx rfl (hb hby at_56) rfl ?_
    show Steps p.tables e below (s₁.setTop (mkF m 57 #[.val (.int p1), .val (.int p2), .val (.int p3), .val (.int p4), .val (.int p3), .val (.long (((p1.toInt64) + (p2.toInt64)) + (((((p4.toUInt32 >>> ((1 : Int32) &&& 31).toUInt32).toInt32) - (((p4.toUInt32 >>> ((1 : Int32) &&& 31).toUInt32).toInt32) / (3 : Int32)) * (3 : Int32)) - (1 : Int32)).toInt64))), .second, .unset, .unset, .unset] [(.long (((p3.toInt64) - (p1.toInt64)) - (p2.toInt64)))])) _
    refine XS.lstore X0.here hx rfl (hb hby at_57) rfl (l' := #[.val (.int p1), .val (.int p2), .val (.int p3), .val (.int p4), .val (.int p3), .val (.long (((p3.toInt64) - (p1.toInt64)) - (p2.toInt64))), .second, .unset, .unset, .unset]) rfl ?_
    show Steps p.tables e below (s₁.setTop (mkF m 59 #[.val (.int p1), .val (.int p2), .val (.int p3), .val (.int p4), .val (.int p3), .val (.long (((p3.toInt64) - (p1.toInt64)) - (p2.toInt64))), .second, .unset, .unset, .unset] [])) _
    refine XS.lload X0.here hx rfl (hb hby at_59) rfl ?_
    show Steps p.tables e below (s₁.setTop (mkF m 61 #[.val (.int p1), .val (.int p2), .val (.int p3), .val (.int p4), .val (.int p3), .val (.long (((p3.toInt64) - (p1.toInt64)) - (p2.toInt64))), .second, .unset, .unset, .unset] [(.long (((p3.toInt64) - (p1.toInt64)) - (p2.toInt64)))])) _
    refine XS.lconst X0.here hx rfl (hb hby at_61) ?_
    show Steps p.tables e below (s₁.setTop (mkF m 62 #[.val (.int p1), .val (.int p2), .val (.int p3), .val (.int p4), .val (.int p3), .val (.long (((p3.toInt64) - (p1.toInt64)) - (p2.toInt64))), .second, .unset, .unset, .unset] [(.long (0 : Int64)), (.long (((p3.toInt64) - (p1.toInt64)) - (p2.toInt64)))])) _
    refine XS.lcmp X0.here hx rfl (hb hby at_62) rfl ?_
    show Steps p.tables e below (s₁.setTop (mkF m 63 #[.val (.int p1), .val (.int p2), .val (.int p3), .val (.int p4), .val (.int p3), .val (.long (((p3.toInt64) - (p1.toInt64)) - (p2.toInt64))), .second, .unset, .unset, .unset] [(.int (lcmpW (((p3.toInt64) - (p1.toInt64)) - (p2.toInt64)) (0 : Int64)))])) _
    refine XS.ifNo X0.here hx rfl (hb hby at_63) rfl ((if0 _ _).trans (flt hc63).1) ?_
    show Steps p.tables e below (s₁.setTop (mkF m 66 #[.val (.int p1), .val (.int p2), .val (.int p3), .val (.int p4), .val (.int p3), .val (.long (((p3.toInt64) - (p1.toInt64)) - (p2.toInt64))), .second, .unset, .unset, .unset] [])) _
    refine XS.iconst X0.here hx rfl (hb hby at_66) ?_
    show Steps p.tables e below (s₁.setTop (mkF m 67 #[.val (.int p1), .val (.int p2), .val (.int p3), .val (.int p4), .val (.int p3), .val (.long (((p3.toInt64) - (p1.toInt64)) - (p2.toInt64))), .second, .unset, .unset, .unset] [(.int (1 : Int32))])) _
    refine XS.goto X0.here hx rfl (pc0 := 67) (pc' := 71) rfl (hb hby at_67) (by decide) (by decide) ?_
    show Steps p.tables e below (s₁.setTop (mkF m 71 #[.val (.int p1), .val (.int p2), .val (.int p3), .val (.int p4), .val (.int p3), .val (.long (((p3.toInt64) - (p1.toInt64)) - (p2.toInt64))), .second, .unset, .unset, .unset] [(.int (1 : Int32))])) _
    refine XS.istore X0.here hx rfl (hb hby at_71) rfl (l' := #[.val (.int p1), .val (.int p2), .val (.int p3), .val (.int p4), .val (.int p3), .val (.long (((p3.toInt64) - (p1.toInt64)) - (p2.toInt64))), .second, .val (.int (1 : Int32)), .unset, .unset]) rfl ?_
    show Steps p.tables e below (s₁.setTop (mkF m 73 #[.val (.int p1), .val (.int p2), .val (.int p3), .val (.int p4), .val (.int p3), .val (.long (((p3.toInt64) - (p1.toInt64)) - (p2.toInt64))), .second, .val (.int (1 : Int32)), .unset, .unset] [])) _
    refine XS.iloadN X0.here hx rfl (hb hby at_73) rfl ?_
    show Steps p.tables e below (s₁.setTop (mkF m 74 #[.val (.int p1), .val (.int p2), .val (.int p3), .val (.int p4), .val (.int p3), .val (.long (((p3.toInt64) - (p1.toInt64)) - (p2.toInt64))), .second, .val (.int (1 : Int32)), .unset, .unset] [(.int p1)])) _
    refine XS.iloadN X0.here hx rfl (hb hby at_74) rfl ?_
    show Steps p.tables e below (s₁.setTop (mkF m 75 #[.val (.int p1), .val (.int p2), .val (.int p3), .val (.int p4), .val (.int p3), .val (.long (((p3.toInt64) - (p1.toInt64)) - (p2.toInt64))), .second, .val (.int (1 : Int32)), .unset, .unset] [(.int p2), (.int p1)])) _
    refine XS.iload X0.here hx rfl (hb hby at_75) rfl ?_
    show Steps p.tables e below (s₁.setTop (mkF m 77 #[.val (.int p1), .val (.int p2), .val (.int p3), .val (.int p4), .val (.int p3), .val (.long (((p3.toInt64) - (p1.toInt64)) - (p2.toInt64))), .second, .val (.int (1 : Int32)), .unset, .unset] [(.int p3), (.int p2), (.int p1)])) _
    refine st5 _ ?_
    show Steps p.tables e below (T5.setTop (mkF m 80 #[.val (.int p1), .val (.int p2), .val (.int p3), .val (.int p4), .val (.int p3), .val (.long (((p3.toInt64) - (p1.toInt64)) - (p2.toInt64))), .second, .val (.int (1 : Int32)), .unset, .unset] [(.int (F1 p1 p2 p3))])) _
    refine XS.istore X5.here hx rfl (hb hby at_80) rfl (l' := #[.val (.int p1), .val (.int p2), .val (.int p3), .val (.int p4), .val (.int p3), .val (.long (((p3.toInt64) - (p1.toInt64)) - (p2.toInt64))), .second, .val (.int (1 : Int32)), .val (.int (F1 p1 p2 p3)), .unset]) rfl ?_
    show Steps p.tables e below (T5.setTop (mkF m 82 #[.val (.int p1), .val (.int p2), .val (.int p3), .val (.int p4), .val (.int p3), .val (.long (((p3.toInt64) - (p1.toInt64)) - (p2.toInt64))), .second, .val (.int (1 : Int32)), .val (.int (F1 p1 p2 p3)), .unset] [])) _
    refine XS.iloadN X5.here hx rfl (hb hby at_82) rfl ?_
    show Steps p.tables e below (T5.setTop (mkF m 83 #[.val (.int p1), .val (.int p2), .val (.int p3), .val (.int p4), .val (.int p3), .val (.long (((p3.toInt64) - (p1.toInt64)) - (p2.toInt64))), .second, .val (.int (1 : Int32)), .val (.int (F1 p1 p2 p3)), .unset] [(.int p2)])) _
    refine XS.iloadN X5.here hx rfl (hb hby at_83) rfl ?_
    show Steps p.tables e below (T5.setTop (mkF m 84 #[.val (.int p1), .val (.int p2), .val (.int p3), .val (.int p4), .val (.int p3), .val (.long (((p3.toInt64) - (p1.toInt64)) - (p2.toInt64))), .second, .val (.int (1 : Int32)), .val (.int (F1 p1 p2 p3)), .unset] [(.int p1), (.int p2)])) _
    refine XS.iload X5.here hx rfl (hb hby at_84) rfl ?_
    show Steps p.tables e below (T5.setTop (mkF m 86 #[.val (.int p1), .val (.int p2), .val (.int p3), .val (.int p4), .val (.int p3), .val (.long (((p3.toInt64) - (p1.toInt64)) - (p2.toInt64))), .second, .val (.int (1 : Int32)), .val (.int (F1 p1 p2 p3)), .unset] [(.int p3), (.int p1), (.int p2)])) _
    refine st6 _ ?_
    show Steps p.tables e below (T6.setTop (mkF m 89 #[.val (.int p1), .val (.int p2), .val (.int p3), .val (.int p4), .val (.int p3), .val (.long (((p3.toInt64) - (p1.toInt64)) - (p2.toInt64))), .second, .val (.int (1 : Int32)), .val (.int (F1 p1 p2 p3)), .unset] [(.int (F1 p2 p1 p3))])) _
    refine XS.istore X6.here hx rfl (hb hby at_89) rfl (l' := #[.val (.int p1), .val (.int p2), .val (.int p3), .val (.int p4), .val (.int p3), .val (.long (((p3.toInt64) - (p1.toInt64)) - (p2.toInt64))), .second, .val (.int (1 : Int32)), .val (.int (F1 p1 p2 p3)), .val (.int (F1 p2 p1 p3))]) rfl ?_
    show Steps p.tables e below (T6.setTop (mkF m 91 #[.val (.int p1), .val (.int p2), .val (.int p3), .val (.int p4), .val (.int p3), .val (.long (((p3.toInt64) - (p1.toInt64)) - (p2.toInt64))), .second, .val (.int (1 : Int32)), .val (.int (F1 p1 p2 p3)), .val (.int (F1 p2 p1 p3))] [])) _
    refine XS.iload X6.here hx rfl (hb hby at_91) rfl ?_
    show Steps p.tables e below (T6.setTop (mkF m 93 #[.val (.int p1), .val (.int p2), .val (.int p3), .val (.int p4), .val (.int p3), .val (.long (((p3.toInt64) - (p1.toInt64)) - (p2.toInt64))), .second, .val (.int (1 : Int32)), .val (.int (F1 p1 p2 p3)), .val (.int (F1 p2 p1 p3))] [(.int (F1 p1 p2 p3))])) _
    refine XS.iload X6.here hx rfl (hb hby at_93) rfl ?_
    show Steps p.tables e below (T6.setTop (mkF m 95 #[.val (.int p1), .val (.int p2), .val (.int p3), .val (.int p4), .val (.int p3), .val (.long (((p3.toInt64) - (p1.toInt64)) - (p2.toInt64))), .second, .val (.int (1 : Int32)), .val (.int (F1 p1 p2 p3)), .val (.int (F1 p2 p1 p3))] [(.int (1 : Int32)), (.int (F1 p1 p2 p3))])) _
    refine XS.icmpNo X6.here hx rfl (hb hby at_95) rfl (teq (own_pos _ _ _ hc63 : (F1 p1 p2 p3) = (1 : Int32))).2 ?_
    show Steps p.tables e below (T6.setTop (mkF m 98 #[.val (.int p1), .val (.int p2), .val (.int p3), .val (.int p4), .val (.int p3), .val (.long (((p3.toInt64) - (p1.toInt64)) - (p2.toInt64))), .second, .val (.int (1 : Int32)), .val (.int (F1 p1 p2 p3)), .val (.int (F1 p2 p1 p3))] [])) _
    refine XS.iload X6.here hx rfl (hb hby at_98) rfl ?_
    show Steps p.tables e below (T6.setTop (mkF m 100 #[.val (.int p1), .val (.int p2), .val (.int p3), .val (.int p4), .val (.int p3), .val (.long (((p3.toInt64) - (p1.toInt64)) - (p2.toInt64))), .second, .val (.int (1 : Int32)), .val (.int (F1 p1 p2 p3)), .val (.int (F1 p2 p1 p3))] [(.int (F1 p2 p1 p3))])) _
    refine XS.iload X6.here hx rfl (hb hby at_100) rfl ?_
    show Steps p.tables e below (T6.setTop (mkF m 102 #[.val (.int p1), .val (.int p2), .val (.int p3), .val (.int p4), .val (.int p3), .val (.long (((p3.toInt64) - (p1.toInt64)) - (p2.toInt64))), .second, .val (.int (1 : Int32)), .val (.int (F1 p1 p2 p3)), .val (.int (F1 p2 p1 p3))] [(.int (F1 p1 p2 p3)), (.int (F1 p2 p1 p3))])) _
    refine XS.icmpNo X6.here hx rfl (hb hby at_102) rfl (teq (own_sym _ _ _ : (F1 p2 p1 p3) = (F1 p1 p2 p3))).2 ?_
    show Steps p.tables e below (T6.setTop (mkF m 105 #[.val (.int p1), .val (.int p2), .val (.int p3), .val (.int p4), .val (.int p3), .val (.long (((p3.toInt64) - (p1.toInt64)) - (p2.toInt64))), .second, .val (.int (1 : Int32)), .val (.int (F1 p1 p2 p3)), .val (.int (F1 p2 p1 p3))] [])) _
    refine XS.iconst X6.here hx rfl (hb hby at_105) ?_
    show Steps p.tables e below (T6.setTop (mkF m 106 #[.val (.int p1), .val (.int p2), .val (.int p3), .val (.int p4), .val (.int p3), .val (.long (((p3.toInt64) - (p1.toInt64)) - (p2.toInt64))), .second, .val (.int (1 : Int32)), .val (.int (F1 p1 p2 p3)), .val (.int (F1 p2 p1 p3))] [(.int (1 : Int32))])) _
    refine XS.goto X6.here hx rfl (pc0 := 106) (pc' := 110) rfl (hb hby at_106) (by decide) (by decide) ?_
    show Steps p.tables e below (T6.setTop (mkF m 110 #[.val (.int p1), .val (.int p2), .val (.int p3), .val (.int p4), .val (.int p3), .val (.long (((p3.toInt64) - (p1.toInt64)) - (p2.toInt64))), .second, .val (.int (1 : Int32)), .val (.int (F1 p1 p2 p3)), .val (.int (F1 p2 p1 p3))] [(.int (1 : Int32))])) _
    exact retN X6 hx (t := .boolean) Bd.returns (by simp) (hb hby at_110) hr
  · show Q0 Z p1 p2 p3 p4 h0 n0 _ T6.heap _
    exact ⟨rfl, N6⟩
set_option maxRecDepth 65536 in
set_option maxHeartbeats 40000000 in
theorem rm0_ffttff (l : Launch) (Z : State) (a0 : Array Value) (hw : ∀ d ∈ tables_1, d.before a0 Z = true) (ws : List Jvm.Cond) (p1 : Int32) (p2 : Int32) (p3 : Int32) (p4 : Int32) (h0 : Heap) (n0 : Nat) (Z0 : n0 ≤ h0.size) (hc6 : ¬ ((p4 &&& (1 : Int32)) = (0 : Int32))) (hc31 : ¬ ((lcmpW (((p1.toInt64) + (p2.toInt64)) + (((((p4.toUInt32 >>> ((1 : Int32) &&& 31).toUInt32).toInt32) - (((p4.toUInt32 >>> ((1 : Int32) &&& 31).toUInt32).toInt32) / (3 : Int32)) * (3 : Int32)) - (1 : Int32)).toInt64)) (-2147483648 : Int64)) < (0 : Int32))) (hc40 : (0 : Int32) < (lcmpW (((p1.toInt64) + (p2.toInt64)) + (((((p4.toUInt32 >>> ((1 : Int32) &&& 31).toUInt32).toInt32) - (((p4.toUInt32 >>> ((1 : Int32) &&& 31).toUInt32).toInt32) / (3 : Int32)) * (3 : Int32)) - (1 : Int32)).toInt64)) (2147483647 : Int64))) (hc63 : (lcmpW (((p3.toInt64) - (p1.toInt64)) - (p2.toInt64)) (0 : Int64)) < (0 : Int32)) :
    MetFree l x (head1 (Jvm.Cond.code x code maxLocals ret :: ws) room_1) (fun a U => a = #[(.int p1), (.int p2), (.int p3), (.int p4)] ∧ Z.Warmed39 U.vm ∧ U.heap = h0) (fun _ _ _ _ _ => True) (fun _ U o U' => ∃ v L, o = .returned v ∧ Q0 Z p1 p2 p3 p4 h0 n0 v U'.heap L ∧ FrameEnd U o U' L room_1.cells room_1.slots) := by
  refine MetFree.of_bodySF (plainFor_of_name pn_0) hisR ?_
  intro p e s m args below meth c s₁ Bd hml0 hP hK
  obtain ⟨rfl, hZ, hh⟩ := hP
  have hx := Bd.exec
  have hby := Bd.bytes
  have hml : c.maxLocals = 10 := hml0
  have hown : s.vm.findClass "com/example/weather_gauge/weathergauge/game/NavalBattleScoresPinLaw" = some m.cls := findClass_of_methodNamed Bd.named
  have hnm := (name_of_methodNamed Bd.named Bd.method).1
  have X0 : Stand p l e room_1 s m #[(.int p1), (.int p2), (.int p3), (.int p4)] below meth c s₁ [] 0 0 := Stand.of_body Bd
  have e0 : s₁.heap = h0 := by rw [← hh, Bd.state]; rfl
  have N0 := Fr.nil n0
  have pre0 : ∀ t, Steps p.tables e below (s₁.setTop (mkF m 0 #[.val (.int p1), .val (.int p2), .val (.int p3), .val (.int p4), .unset, .unset, .unset, .unset, .unset, .unset] [])) t → Steps p.tables e below (s₁.setTop (entryFrame m #[(.int p1), (.int p2), (.int p3), (.int p4)] maxLocals)) t := fun t k => castTop (ef_0 m p1 p2 p3 p4) k
  -- 3. LAWS
  -- pc 77: com/example/weather_gauge/weathergauge/game/NavalBattle.scores by its contract rm1
  obtain ⟨_, _, ⟨T5, L5, k5, n5⟩, -, X5, ⟨Lc5, hQ5, l5, y5, z5⟩, st5⟩ := Jvm.LawKit.callS X0 hx (y := (⟨"com/example/weather_gauge/weathergauge/game/NavalBattle", "scores", "(III)Z"⟩ : MethodName)) hown (mvT hZ (hw _ (List.mem_of_getElem? (i := 2) rfl))) (mvT hZ (hw _ (List.mem_of_getElem? (i := 3) rfl))) (mvT hZ (hw _ (List.mem_of_getElem? (i := 4) rfl))) (mvT hZ (hw _ (List.mem_of_getElem? (i := 5) rfl))) (by decide) (backOf (W := 0) (rm1 l Z a0 hw [] p1 p2 p3 h0 n0 Z0) hZ (hw _ (List.mem_of_getElem? (i := 5) rfl)) (hw _ (List.mem_of_getElem? (i := 4) rfl)) (by decide) (by decide)) (g := (mkF m 77 #[.val (.int p1), .val (.int p2), .val (.int p3), .val (.int p4), .val (.int p3), .val (.long (((p3.toInt64) - (p1.toInt64)) - (p2.toInt64))), .second, .val (.int (0 : Int32)), .unset, .unset] [(.int p3), (.int p2), (.int p1)])) rfl (by rw [hml]; rfl) (argsL := [(.int p1), (.int p2), (.int p3)]) (rest := []) (lenOf pd_0_0 rfl) rfl (by show 2 * 0 + _ ≤ _; exact Nat.le_of_eq rfl) (hb hby at_77) (fun _ _ => ⟨rfl, e0, (by decide : 0 + 0 ≤ _), (by decide : 0 + 0 ≤ _)⟩)
  dsimp only [Pt.U, Pt.locs, Pt.cells, Pt.slots] at X5 l5 y5 z5 st5 hQ5
  subst l5 y5 z5
  obtain ⟨rfl, N5q, q5⟩ := hQ5      -- what it returned, that it wrote nothing old, and the rest of your Q1
  have H5 : n0 ≤ T5.heap.size := by rw [q5]; exact Z0
  have N5 := Fr.app N0 N5q
  -- pc 86: com/example/weather_gauge/weathergauge/game/NavalBattle.scores by its contract rm1
  obtain ⟨_, _, ⟨T6, L6, k6, n6⟩, -, X6, ⟨Lc6, hQ6, l6, y6, z6⟩, st6⟩ := Jvm.LawKit.callS X5 hx (y := (⟨"com/example/weather_gauge/weathergauge/game/NavalBattle", "scores", "(III)Z"⟩ : MethodName)) hown (mvT hZ (hw _ (List.mem_of_getElem? (i := 2) rfl))) (mvT hZ (hw _ (List.mem_of_getElem? (i := 3) rfl))) (mvT hZ (hw _ (List.mem_of_getElem? (i := 4) rfl))) (mvT hZ (hw _ (List.mem_of_getElem? (i := 5) rfl))) (by decide) (backOf (W := 0) (rm1 l Z a0 hw [] p2 p1 p3 T5.heap n0 H5) hZ (hw _ (List.mem_of_getElem? (i := 5) rfl)) (hw _ (List.mem_of_getElem? (i := 4) rfl)) (by decide) (by decide)) (g := (mkF m 86 #[.val (.int p1), .val (.int p2), .val (.int p3), .val (.int p4), .val (.int p3), .val (.long (((p3.toInt64) - (p1.toInt64)) - (p2.toInt64))), .second, .val (.int (0 : Int32)), .val (.int (F1 p1 p2 p3)), .unset] [(.int p3), (.int p1), (.int p2)])) rfl (by rw [hml]; rfl) (argsL := [(.int p2), (.int p1), (.int p3)]) (rest := []) (lenOf pd_0_0 rfl) rfl (by show 2 * 0 + _ ≤ _; exact Nat.le_of_eq rfl) (hb hby at_86) (fun _ _ => ⟨rfl, rfl, (by decide : 0 + 0 ≤ _), (by decide : 0 + 0 ≤ _)⟩)
  dsimp only [Pt.U, Pt.locs, Pt.cells, Pt.slots] at X6 l6 y6 z6 st6 hQ6
  subst l6 y6 z6
  obtain ⟨rfl, N6q, q6⟩ := hQ6      -- what it returned, that it wrote nothing old, and the rest of your Q1
  have H6 : n0 ≤ T6.heap.size := by rw [q6]; exact H5
  have N6 := Fr.app N5 N6q
  obtain ⟨fs, hr, hrun, hended, hW, hsame⟩ := X6.leave (v := some (.int (1 : Int32))) (fun h => by rw [Bd.returns] at h; cases h)
  refine ⟨_, _, pre0 _ ?_, hrun, hended, _, _, rfl, ?_, ⟨_, rfl⟩, hW, hsame.mono (by decide) (by decide)⟩
  -- 4. STEPS
  · show Steps p.tables e below (s₁.setTop (mkF m 0 #[.val (.int p1), .val (.int p2), .val (.int p3), .val (.int p4), .unset, .unset, .unset, .unset, .unset, .unset] [])) _
    refine XS.iloadN X0.here hx rfl (hb hby at_0) rfl ?_
    show Steps p.tables e below (s₁.setTop (mkF m 1 #[.val (.int p1), .val (.int p2), .val (.int p3), .val (.int p4), .unset, .unset, .unset, .unset, .unset, .unset] [(.int p3)])) _
    refine XS.istore X0.here hx rfl (hb hby at_1) rfl (l' := #[.val (.int p1), .val (.int p2), .val (.int p3), .val (.int p4), .val (.int p3), .unset, .unset, .unset, .unset, .unset]) rfl ?_
    show Steps p.tables e below (s₁.setTop (mkF m 3 #[.val (.int p1), .val (.int p2), .val (.int p3), .val (.int p4), .val (.int p3), .unset, .unset, .unset, .unset, .unset] [])) _
    refine XS.iloadN X0.here hx rfl (hb hby at_3) rfl ?_
    show Steps p.tables e below (s₁.setTop (mkF m 4 #[.val (.int p1), .val (.int p2), .val (.int p3), .val (.int p4), .val (.int p3), .unset, .unset, .unset, .unset, .unset] [(.int p4)])) _
    refine XS.iconst X0.here hx rfl (hb hby at_4) ?_
    show Steps p.tables e below (s₁.setTop (mkF m 5 #[.val (.int p1), .val (.int p2), .val (.int p3), .val (.int p4), .val (.int p3), .unset, .unset, .unset, .unset, .unset] [(.int (1 : Int32)), (.int p4)])) _
    refine XS.iand X0.here hx rfl (hb hby at_5) rfl ?_
    show Steps p.tables e below (s₁.setTop (mkF m 6 #[.val (.int p1), .val (.int p2), .val (.int p3), .val (.int p4), .val (.int p3), .unset, .unset, .unset, .unset, .unset] [(.int (p4 &&& (1 : Int32)))])) _
    refine XS.ifNo X0.here hx rfl (hb hby at_6) rfl ((if0 _ _).trans (feq hc6).1) ?_
    show Steps p.tables e below (s₁.setTop (mkF m 9 #[.val (.int p1), .val (.int p2), .val (.int p3), .val (.int p4), .val (.int p3), .unset, .unset, .unset, .unset, .unset] [])) _
    refine XS.iloadN X0.here hx rfl (hb hby at_9) rfl ?_
    show Steps p.tables e below (s₁.setTop (mkF m 10 #[.val (.int p1), .val (.int p2), .val (.int p3), .val (.int p4), .val (.int p3), .unset, .unset, .unset, .unset, .unset] [(.int p1)])) _
    refine XS.i2l X0.here hx rfl (hb hby at_10) rfl ?_
    show Steps p.tables e below (s₁.setTop (mkF m 11 #[.val (.int p1), .val (.int p2), .val (.int p3), .val (.int p4), .val (.int p3), .unset, .unset, .unset, .unset, .unset] [(.long (p1.toInt64))])) _
    refine XS.iloadN X0.here hx rfl (hb hby at_11) rfl ?_
    show Steps p.tables e below (s₁.setTop (mkF m 12 #[.val (.int p1), .val (.int p2), .val (.int p3), .val (.int p4), .val (.int p3), .unset, .unset, .unset, .unset, .unset] [(.int p2), (.long (p1.toInt64))])) _
    refine XS.i2l X0.here hx rfl (hb hby at_12) rfl ?_
    show Steps p.tables e below (s₁.setTop (mkF m 13 #[.val (.int p1), .val (.int p2), .val (.int p3), .val (.int p4), .val (.int p3), .unset, .unset, .unset, .unset, .unset] [(.long (p2.toInt64)), (.long (p1.toInt64))])) _
    refine XS.ladd X0.here hx rfl (hb hby at_13) rfl ?_
    show Steps p.tables e below (s₁.setTop (mkF m 14 #[.val (.int p1), .val (.int p2), .val (.int p3), .val (.int p4), .val (.int p3), .unset, .unset, .unset, .unset, .unset] [(.long ((p1.toInt64) + (p2.toInt64)))])) _
    refine XS.iloadN X0.here hx rfl (hb hby at_14) rfl ?_
    show Steps p.tables e below (s₁.setTop (mkF m 15 #[.val (.int p1), .val (.int p2), .val (.int p3), .val (.int p4), .val (.int p3), .unset, .unset, .unset, .unset, .unset] [(.int p4), (.long ((p1.toInt64) + (p2.toInt64)))])) _
    refine XS.iconst X0.here hx rfl (hb hby at_15) ?_
    show Steps p.tables e below (s₁.setTop (mkF m 16 #[.val (.int p1), .val (.int p2), .val (.int p3), .val (.int p4), .val (.int p3), .unset, .unset, .unset, .unset, .unset] [(.int (1 : Int32)), (.int p4), (.long ((p1.toInt64) + (p2.toInt64)))])) _
    refine XS.iushr X0.here hx rfl (hb hby at_16) rfl ?_
    show Steps p.tables e below (s₁.setTop (mkF m 17 #[.val (.int p1), .val (.int p2), .val (.int p3), .val (.int p4), .val (.int p3), .unset, .unset, .unset, .unset, .unset] [(.int ((p4.toUInt32 >>> ((1 : Int32) &&& 31).toUInt32).toInt32)), (.long ((p1.toInt64) + (p2.toInt64)))])) _
    refine XS.iconst X0.here hx rfl (hb hby at_17) ?_
    show Steps p.tables e below (s₁.setTop (mkF m 18 #[.val (.int p1), .val (.int p2), .val (.int p3), .val (.int p4), .val (.int p3), .unset, .unset, .unset, .unset, .unset] [(.int (3 : Int32)), (.int ((p4.toUInt32 >>> ((1 : Int32) &&& 31).toUInt32).toInt32)), (.long ((p1.toInt64) + (p2.toInt64)))])) _
    refine XS.irem X0.here hx rfl (hb hby at_18) rfl (by decide) ?_
    show Steps p.tables e below (s₁.setTop (mkF m 19 #[.val (.int p1), .val (.int p2), .val (.int p3), .val (.int p4), .val (.int p3), .unset, .unset, .unset, .unset, .unset] [(.int (((p4.toUInt32 >>> ((1 : Int32) &&& 31).toUInt32).toInt32) - (((p4.toUInt32 >>> ((1 : Int32) &&& 31).toUInt32).toInt32) / (3 : Int32)) * (3 : Int32))), (.long ((p1.toInt64) + (p2.toInt64)))])) _
    refine XS.iconst X0.here hx rfl (hb hby at_19) ?_
    show Steps p.tables e below (s₁.setTop (mkF m 20 #[.val (.int p1), .val (.int p2), .val (.int p3), .val (.int p4), .val (.int p3), .unset, .unset, .unset, .unset, .unset] [(.int (1 : Int32)), (.int (((p4.toUInt32 >>> ((1 : Int32) &&& 31).toUInt32).toInt32) - (((p4.toUInt32 >>> ((1 : Int32) &&& 31).toUInt32).toInt32) / (3 : Int32)) * (3 : Int32))), (.long ((p1.toInt64) + (p2.toInt64)))])) _
    refine XS.isub X0.here hx rfl (hb hby at_20) rfl ?_
    show Steps p.tables e below (s₁.setTop (mkF m 21 #[.val (.int p1), .val (.int p2), .val (.int p3), .val (.int p4), .val (.int p3), .unset, .unset, .unset, .unset, .unset] [(.int ((((p4.toUInt32 >>> ((1 : Int32) &&& 31).toUInt32).toInt32) - (((p4.toUInt32 >>> ((1 : Int32) &&& 31).toUInt32).toInt32) / (3 : Int32)) * (3 : Int32)) - (1 : Int32))), (.long ((p1.toInt64) + (p2.toInt64)))])) _
    refine XS.i2l X0.here hx rfl (hb hby at_21) rfl ?_
    show Steps p.tables e below (s₁.setTop (mkF m 22 #[.val (.int p1), .val (.int p2), .val (.int p3), .val (.int p4), .val (.int p3), .unset, .unset, .unset, .unset, .unset] [(.long (((((p4.toUInt32 >>> ((1 : Int32) &&& 31).toUInt32).toInt32) - (((p4.toUInt32 >>> ((1 : Int32) &&& 31).toUInt32).toInt32) / (3 : Int32)) * (3 : Int32)) - (1 : Int32)).toInt64)), (.long ((p1.toInt64) + (p2.toInt64)))])) _
    refine XS.ladd X0.here hx rfl (hb hby at_22) rfl ?_
    show Steps p.tables e below (s₁.setTop (mkF m 23 #[.val (.int p1), .val (.int p2), .val (.int p3), .val (.int p4), .val (.int p3), .unset, .unset, .unset, .unset, .unset] [(.long (((p1.toInt64) + (p2.toInt64)) + (((((p4.toUInt32 >>> ((1 : Int32) &&& 31).toUInt32).toInt32) - (((p4.toUInt32 >>> ((1 : Int32) &&& 31).toUInt32).toInt32) / (3 : Int32)) * (3 : Int32)) - (1 : Int32)).toInt64)))])) _
    refine XS.lstore X0.here hx rfl (hb hby at_23) rfl (l' := #[.val (.int p1), .val (.int p2), .val (.int p3), .val (.int p4), .val (.int p3), .val (.long (((p1.toInt64) + (p2.toInt64)) + (((((p4.toUInt32 >>> ((1 : Int32) &&& 31).toUInt32).toInt32) - (((p4.toUInt32 >>> ((1 : Int32) &&& 31).toUInt32).toInt32) / (3 : Int32)) * (3 : Int32)) - (1 : Int32)).toInt64))), .second, .unset, .unset, .unset]) rfl ?_
    show Steps p.tables e below (s₁.setTop (mkF m 25 #[.val (.int p1), .val (.int p2), .val (.int p3), .val (.int p4), .val (.int p3), .val (.long (((p1.toInt64) + (p2.toInt64)) + (((((p4.toUInt32 >>> ((1 : Int32) &&& 31).toUInt32).toInt32) - (((p4.toUInt32 >>> ((1 : Int32) &&& 31).toUInt32).toInt32) / (3 : Int32)) * (3 : Int32)) - (1 : Int32)).toInt64))), .second, .unset, .unset, .unset] [])) _
    refine XS.lload X0.here hx rfl (hb hby at_25) rfl ?_
    show Steps p.tables e below (s₁.setTop (mkF m 27 #[.val (.int p1), .val (.int p2), .val (.int p3), .val (.int p4), .val (.int p3), .val (.long (((p1.toInt64) + (p2.toInt64)) + (((((p4.toUInt32 >>> ((1 : Int32) &&& 31).toUInt32).toInt32) - (((p4.toUInt32 >>> ((1 : Int32) &&& 31).toUInt32).toInt32) / (3 : Int32)) * (3 : Int32)) - (1 : Int32)).toInt64))), .second, .unset, .unset, .unset] [(.long (((p1.toInt64) + (p2.toInt64)) + (((((p4.toUInt32 >>> ((1 : Int32) &&& 31).toUInt32).toInt32) - (((p4.toUInt32 >>> ((1 : Int32) &&& 31).toUInt32).toInt32) / (3 : Int32)) * (3 : Int32)) - (1 : Int32)).toInt64)))])) _
    refine X0.ldc2Long hx hown (mvT hZ (hw _ (List.mem_of_getElem? (i := 0) rfl))) (g := (mkF m 27 #[.val (.int p1), .val (.int p2), .val (.int p3), .val (.int p4), .val (.int p3), .val (.long (((p1.toInt64) + (p2.toInt64)) + (((((p4.toUInt32 >>> ((1 : Int32) &&& 31).toUInt32).toInt32) - (((p4.toUInt32 >>> ((1 : Int32) &&& 31).toUInt32).toInt32) / (3 : Int32)) * (3 : Int32)) - (1 : Int32)).toInt64))), .second, .unset, .unset, .unset] [(.long (((p1.toInt64) + (p2.toInt64)) + (((((p4.toUInt32 >>> ((1 : Int32) &&& 31).toUInt32).toInt32) - (((p4.toUInt32 >>> ((1 : Int32) &&& 31).toUInt32).toInt32) / (3 : Int32)) * (3 : Int32)) - (1 : Int32)).toInt64)))])) rfl (hb hby at_27) _ ?_
    show Steps p.tables e below (s₁.setTop (mkF m 30 #[.val (.int p1), .val (.int p2), .val (.int p3), .val (.int p4), .val (.int p3), .val (.long (((p1.toInt64) + (p2.toInt64)) + (((((p4.toUInt32 >>> ((1 : Int32) &&& 31).toUInt32).toInt32) - (((p4.toUInt32 >>> ((1 : Int32) &&& 31).toUInt32).toInt32) / (3 : Int32)) * (3 : Int32)) - (1 : Int32)).toInt64))), .second, .unset, .unset, .unset] [(.long (-2147483648 : Int64)), (.long (((p1.toInt64) + (p2.toInt64)) + (((((p4.toUInt32 >>> ((1 : Int32) &&& 31).toUInt32).toInt32) - (((p4.toUInt32 >>> ((1 : Int32) &&& 31).toUInt32).toInt32) / (3 : Int32)) * (3 : Int32)) - (1 : Int32)).toInt64)))])) _
    refine XS.lcmp X0.here hx rfl (hb hby at_30) rfl ?_
    show Steps p.tables e below (s₁.setTop (mkF m 31 #[.val (.int p1), .val (.int p2), .val (.int p3), .val (.int p4), .val (.int p3), .val (.long (((p1.toInt64) + (p2.toInt64)) + (((((p4.toUInt32 >>> ((1 : Int32) &&& 31).toUInt32).toInt32) - (((p4.toUInt32 >>> ((1 : Int32) &&& 31).toUInt32).toInt32) / (3 : Int32)) * (3 : Int32)) - (1 : Int32)).toInt64))), .second, .unset, .unset, .unset] [(.int (lcmpW (((p1.toInt64) + (p2.toInt64)) + (((((p4.toUInt32 >>> ((1 : Int32) &&& 31).toUInt32).toInt32) - (((p4.toUInt32 >>> ((1 : Int32) &&& 31).toUInt32).toInt32) / (3 : Int32)) * (3 : Int32)) - (1 : Int32)).toInt64)) (-2147483648 : Int64)))])) _
    refine XS.ifNo X0.here hx rfl (hb hby at_31) rfl ((if0 _ _).trans (flt hc31).1) ?_
    show Steps p.tables e below (s₁.setTop (mkF m 34 #[.val (.int p1), .val (.int p2), .val (.int p3), .val (.int p4), .val (.int p3), .val (.long (((p1.toInt64) + (p2.toInt64)) + (((((p4.toUInt32 >>> ((1 : Int32) &&& 31).toUInt32).toInt32) - (((p4.toUInt32 >>> ((1 : Int32) &&& 31).toUInt32).toInt32) / (3 : Int32)) * (3 : Int32)) - (1 : Int32)).toInt64))), .second, .unset, .unset, .unset] [])) _
    refine XS.lload X0.here hx rfl (hb hby at_34) rfl ?_
    show Steps p.tables e below (s₁.setTop (mkF m 36 #[.val (.int p1), .val (.int p2), .val (.int p3), .val (.int p4), .val (.int p3), .val (.long (((p1.toInt64) + (p2.toInt64)) + (((((p4.toUInt32 >>> ((1 : Int32) &&& 31).toUInt32).toInt32) - (((p4.toUInt32 >>> ((1 : Int32) &&& 31).toUInt32).toInt32) / (3 : Int32)) * (3 : Int32)) - (1 : Int32)).toInt64))), .second, .unset, .unset, .unset] [(.long (((p1.toInt64) + (p2.toInt64)) + (((((p4.toUInt32 >>> ((1 : Int32) &&& 31).toUInt32).toInt32) - (((p4.toUInt32 >>> ((1 : Int32) &&& 31).toUInt32).toInt32) / (3 : Int32)) * (3 : Int32)) - (1 : Int32)).toInt64)))])) _
    refine X0.ldc2Long hx hown (mvT hZ (hw _ (List.mem_of_getElem? (i := 1) rfl))) (g := (mkF m 36 #[.val (.int p1), .val (.int p2), .val (.int p3), .val (.int p4), .val (.int p3), .val (.long (((p1.toInt64) + (p2.toInt64)) + (((((p4.toUInt32 >>> ((1 : Int32) &&& 31).toUInt32).toInt32) - (((p4.toUInt32 >>> ((1 : Int32) &&& 31).toUInt32).toInt32) / (3 : Int32)) * (3 : Int32)) - (1 : Int32)).toInt64))), .second, .unset, .unset, .unset] [(.long (((p1.toInt64) + (p2.toInt64)) + (((((p4.toUInt32 >>> ((1 : Int32) &&& 31).toUInt32).toInt32) - (((p4.toUInt32 >>> ((1 : Int32) &&& 31).toUInt32).toInt32) / (3 : Int32)) * (3 : Int32)) - (1 : Int32)).toInt64)))])) rfl (hb hby at_36) _ ?_
    show Steps p.tables e below (s₁.setTop (mkF m 39 #[.val (.int p1), .val (.int p2), .val (.int p3), .val (.int p4), .val (.int p3), .val (.long (((p1.toInt64) + (p2.toInt64)) + (((((p4.toUInt32 >>> ((1 : Int32) &&& 31).toUInt32).toInt32) - (((p4.toUInt32 >>> ((1 : Int32) &&& 31).toUInt32).toInt32) / (3 : Int32)) * (3 : Int32)) - (1 : Int32)).toInt64))), .second, .unset, .unset, .unset] [(.long (2147483647 : Int64)), (.long (((p1.toInt64) + (p2.toInt64)) + (((((p4.toUInt32 >>> ((1 : Int32) &&& 31).toUInt32).toInt32) - (((p4.toUInt32 >>> ((1 : Int32) &&& 31).toUInt32).toInt32) / (3 : Int32)) * (3 : Int32)) - (1 : Int32)).toInt64)))])) _
    refine XS.lcmp X0.here hx rfl (hb hby at_39) rfl ?_
    show Steps p.tables e below (s₁.setTop (mkF m 40 #[.val (.int p1), .val (.int p2), .val (.int p3), .val (.int p4), .val (.int p3), .val (.long (((p1.toInt64) + (p2.toInt64)) + (((((p4.toUInt32 >>> ((1 : Int32) &&& 31).toUInt32).toInt32) - (((p4.toUInt32 >>> ((1 : Int32) &&& 31).toUInt32).toInt32) / (3 : Int32)) * (3 : Int32)) - (1 : Int32)).toInt64))), .second, .unset, .unset, .unset] [(.int (lcmpW (((p1.toInt64) + (p2.toInt64)) + (((((p4.toUInt32 >>> ((1 : Int32) &&& 31).toUInt32).toInt32) - (((p4.toUInt32 >>> ((1 : Int32) &&& 31).toUInt32).toInt32) / (3 : Int32)) * (3 : Int32)) - (1 : Int32)).toInt64)) (2147483647 : Int64)))])) _
    refine XS.ifYes X0.here hx rfl (pc0 := 40) (pc' := 48) rfl (hb hby at_40) rfl ((if0 _ _).trans (tlt hc40).2.2.1) (by decide) (by decide) ?_
    show Steps p.tables e below (s₁.setTop (mkF m 48 #[.val (.int p1), .val (.int p2), .val (.int p3), .val (.int p4), .val (.int p3), .val (.long (((p1.toInt64) + (p2.toInt64)) + (((((p4.toUInt32 >>> ((1 : Int32) &&& 31).toUInt32).toInt32) - (((p4.toUInt32 >>> ((1 : Int32) &&& 31).toUInt32).toInt32) / (3 : Int32)) * (3 : Int32)) - (1 : Int32)).toInt64))), .second, .unset, .unset, .unset] [])) _
    refine XS.iload X0.here hx rfl (hb hby at_48) rfl ?_
    show Steps p.tables e below (s₁.setTop (mkF m 50 #[.val (.int p1), .val (.int p2), .val (.int p3), .val (.int p4), .val (.int p3), .val (.long (((p1.toInt64) + (p2.toInt64)) + (((((p4.toUInt32 >>> ((1 : Int32) &&& 31).toUInt32).toInt32) - (((p4.toUInt32 >>> ((1 : Int32) &&& 31).toUInt32).toInt32) / (3 : Int32)) * (3 : Int32)) - (1 : Int32)).toInt64))), .second, .unset, .unset, .unset] [(.int p3)])) _
    refine XS.i2l X0.here hx rfl (hb hby at_50) rfl ?_
    show Steps p.tables e below (s₁.setTop (mkF m 51 #[.val (.int p1), .val (.int p2), .val (.int p3), .val (.int p4), .val (.int p3), .val (.long (((p1.toInt64) + (p2.toInt64)) + (((((p4.toUInt32 >>> ((1 : Int32) &&& 31).toUInt32).toInt32) - (((p4.toUInt32 >>> ((1 : Int32) &&& 31).toUInt32).toInt32) / (3 : Int32)) * (3 : Int32)) - (1 : Int32)).toInt64))), .second, .unset, .unset, .unset] [(.long (p3.toInt64))])) _
    refine XS.iloadN X0.here hx rfl (hb hby at_51) rfl ?_
    show Steps p.tables e below (s₁.setTop (mkF m 52 #[.val (.int p1), .val (.int p2), .val (.int p3), .val (.int p4), .val (.int p3), .val (.long (((p1.toInt64) + (p2.toInt64)) + (((((p4.toUInt32 >>> ((1 : Int32) &&& 31).toUInt32).toInt32) - (((p4.toUInt32 >>> ((1 : Int32) &&& 31).toUInt32).toInt32) / (3 : Int32)) * (3 : Int32)) - (1 : Int32)).toInt64))), .second, .unset, .unset, .unset] [(.int p1), (.long (p3.toInt64))])) _
    refine XS.i2l X0.here hx rfl (hb hby at_52) rfl ?_
    show Steps p.tables e below (s₁.setTop (mkF m 53 #[.val (.int p1), .val (.int p2), .val (.int p3), .val (.int p4), .val (.int p3), .val (.long (((p1.toInt64) + (p2.toInt64)) + (((((p4.toUInt32 >>> ((1 : Int32) &&& 31).toUInt32).toInt32) - (((p4.toUInt32 >>> ((1 : Int32) &&& 31).toUInt32).toInt32) / (3 : Int32)) * (3 : Int32)) - (1 : Int32)).toInt64))), .second, .unset, .unset, .unset] [(.long (p1.toInt64)), (.long (p3.toInt64))])) _
    refine XS.lsub X0.here hx rfl (hb hby at_53) rfl ?_
    show Steps p.tables e below (s₁.setTop (mkF m 54 #[.val (.int p1), .val (.int p2), .val (.int p3), .val (.int p4), .val (.int p3), .val (.long (((p1.toInt64) + (p2.toInt64)) + (((((p4.toUInt32 >>> ((1 : Int32) &&& 31).toUInt32).toInt32) - (((p4.toUInt32 >>> ((1 : Int32) &&& 31).toUInt32).toInt32) / (3 : Int32)) * (3 : Int32)) - (1 : Int32)).toInt64))), .second, .unset, .unset, .unset] [(.long ((p3.toInt64) - (p1.toInt64)))])) _
    refine XS.iloadN X0.here hx rfl (hb hby at_54) rfl ?_
    show Steps p.tables e below (s₁.setTop (mkF m 55 #[.val (.int p1), .val (.int p2), .val (.int p3), .val (.int p4), .val (.int p3), .val (.long (((p1.toInt64) + (p2.toInt64)) + (((((p4.toUInt32 >>> ((1 : Int32) &&& 31).toUInt32).toInt32) - (((p4.toUInt32 >>> ((1 : Int32) &&& 31).toUInt32).toInt32) / (3 : Int32)) * (3 : Int32)) - (1 : Int32)).toInt64))), .second, .unset, .unset, .unset] [(.int p2), (.long ((p3.toInt64) - (p1.toInt64)))])) _
    refine XS.i2l X0.here hx rfl (hb hby at_55) rfl ?_
    show Steps p.tables e below (s₁.setTop (mkF m 56 #[.val (.int p1), .val (.int p2), .val (.int p3), .val (.int p4), .val (.int p3), .val (.long (((p1.toInt64) + (p2.toInt64)) + (((((p4.toUInt32 >>> ((1 : Int32) &&& 31).toUInt32).toInt32) - (((p4.toUInt32 >>> ((1 : Int32) &&& 31).toUInt32).toInt32) / (3 : Int32)) * (3 : Int32)) - (1 : Int32)).toInt64))), .second, .unset, .unset, .unset] [(.long (p2.toInt64)), (.long ((p3.toInt64) - (p1.toInt64)))])) _
    refine XS.lsub X0.here hx rfl (hb hby at_56) rfl ?_
    show Steps p.tables e below (s₁.setTop (mkF m 57 #[.val (.int p1), .val (.int p2), .val (.int p3), .val (.int p4), .val (.int p3), .val (.long (((p1.toInt64) + (p2.toInt64)) + (((((p4.toUInt32 >>> ((1 : Int32) &&& 31).toUInt32).toInt32) - (((p4.toUInt32 >>> ((1 : Int32) &&& 31).toUInt32).toInt32) / (3 : Int32)) * (3 : Int32)) - (1 : Int32)).toInt64))), .second, .unset, .unset, .unset] [(.long (((p3.toInt64) - (p1.toInt64)) - (p2.toInt64)))])) _
    refine XS.lstore X0.here hx rfl (hb hby at_57) rfl (l' := #[.val (.int p1), .val (.int p2), .val (.int p3), .val (.int p4), .val (.int p3), .val (.long (((p3.toInt64) - (p1.toInt64)) - (p2.toInt64))), .second, .unset, .unset, .unset]) rfl ?_
    show Steps p.tables e below (s₁.setTop (mkF m 59 #[.val (.int p1), .val (.int p2), .val (.int p3), .val (.int p4), .val (.int p3), .val (.long (((p3.toInt64) - (p1.toInt64)) - (p2.toInt64))), .second, .unset, .unset, .unset] [])) _
    refine XS.lload X0.here hx rfl (hb hby at_59) rfl ?_
    show Steps p.tables e below (s₁.setTop (mkF m 61 #[.val (.int p1), .val (.int p2), .val (.int p3), .val (.int p4), .val (.int p3), .val (.long (((p3.toInt64) - (p1.toInt64)) - (p2.toInt64))), .second, .unset, .unset, .unset] [(.long (((p3.toInt64) - (p1.toInt64)) - (p2.toInt64)))])) _
    refine XS.lconst X0.here hx rfl (hb hby at_61) ?_
    show Steps p.tables e below (s₁.setTop (mkF m 62 #[.val (.int p1), .val (.int p2), .val (.int p3), .val (.int p4), .val (.int p3), .val (.long (((p3.toInt64) - (p1.toInt64)) - (p2.toInt64))), .second, .unset, .unset, .unset] [(.long (0 : Int64)), (.long (((p3.toInt64) - (p1.toInt64)) - (p2.toInt64)))])) _
    refine XS.lcmp X0.here hx rfl (hb hby at_62) rfl ?_
    show Steps p.tables e below (s₁.setTop (mkF m 63 #[.val (.int p1), .val (.int p2), .val (.int p3), .val (.int p4), .val (.int p3), .val (.long (((p3.toInt64) - (p1.toInt64)) - (p2.toInt64))), .second, .unset, .unset, .unset] [(.int (lcmpW (((p3.toInt64) - (p1.toInt64)) - (p2.toInt64)) (0 : Int64)))])) _
    refine XS.ifYes X0.here hx rfl (pc0 := 63) (pc' := 70) rfl (hb hby at_63) rfl ((if0 _ _).trans (tlt hc63).1) (by decide) (by decide) ?_
    show Steps p.tables e below (s₁.setTop (mkF m 70 #[.val (.int p1), .val (.int p2), .val (.int p3), .val (.int p4), .val (.int p3), .val (.long (((p3.toInt64) - (p1.toInt64)) - (p2.toInt64))), .second, .unset, .unset, .unset] [])) _
    refine XS.iconst X0.here hx rfl (hb hby at_70) ?_
    show Steps p.tables e below (s₁.setTop (mkF m 71 #[.val (.int p1), .val (.int p2), .val (.int p3), .val (.int p4), .val (.int p3), .val (.long (((p3.toInt64) - (p1.toInt64)) - (p2.toInt64))), .second, .unset, .unset, .unset] [(.int (0 : Int32))])) _
    refine XS.istore X0.here hx rfl (hb hby at_71) rfl (l' := #[.val (.int p1), .val (.int p2), .val (.int p3), .val (.int p4), .val (.int p3), .val (.long (((p3.toInt64) - (p1.toInt64)) - (p2.toInt64))), .second, .val (.int (0 : Int32)), .unset, .unset]) rfl ?_
    show Steps p.tables e below (s₁.setTop (mkF m 73 #[.val (.int p1), .val (.int p2), .val (.int p3), .val (.int p4), .val (.int p3), .val (.long (((p3.toInt64) - (p1.toInt64)) - (p2.toInt64))), .second, .val (.int (0 : Int32)), .unset, .unset] [])) _
    refine XS.iloadN X0.here hx rfl (hb hby at_73) rfl ?_
    show Steps p.tables e below (s₁.setTop (mkF m 74 #[.val (.int p1), .val (.int p2), .val (.int p3), .val (.int p4), .val (.int p3), .val (.long (((p3.toInt64) - (p1.toInt64)) - (p2.toInt64))), .second, .val (.int (0 : Int32)), .unset, .unset] [(.int p1)])) _
    refine XS.iloadN X0.here hx rfl (hb hby at_74) rfl ?_
    show Steps p.tables e below (s₁.setTop (mkF m 75 #[.val (.int p1), .val (.int p2), .val (.int p3), .val (.int p4), .val (.int p3), .val (.long (((p3.toInt64) - (p1.toInt64)) - (p2.toInt64))), .second, .val (.int (0 : Int32)), .unset, .unset] [(.int p2), (.int p1)])) _
    refine XS.iload X0.here hx rfl (hb hby at_75) rfl ?_
    show Steps p.tables e below (s₁.setTop (mkF m 77 #[.val (.int p1), .val (.int p2), .val (.int p3), .val (.int p4), .val (.int p3), .val (.long (((p3.toInt64) - (p1.toInt64)) - (p2.toInt64))), .second, .val (.int (0 : Int32)), .unset, .unset] [(.int p3), (.int p2), (.int p1)])) _
    refine st5 _ ?_
    show Steps p.tables e below (T5.setTop (mkF m 80 #[.val (.int p1), .val (.int p2), .val (.int p3), .val (.int p4), .val (.int p3), .val (.long (((p3.toInt64) - (p1.toInt64)) - (p2.toInt64))), .second, .val (.int (0 : Int32)), .unset, .unset] [(.int (F1 p1 p2 p3))])) _
    refine XS.istore X5.here hx rfl (hb hby at_80) rfl (l' := #[.val (.int p1), .val (.int p2), .val (.int p3), .val (.int p4), .val (.int p3), .val (.long (((p3.toInt64) - (p1.toInt64)) - (p2.toInt64))), .second, .val (.int (0 : Int32)), .val (.int (F1 p1 p2 p3)), .unset]) rfl ?_
    show Steps p.tables e below (T5.setTop (mkF m 82 #[.val (.int p1), .val (.int p2), .val (.int p3), .val (.int p4), .val (.int p3), .val (.long (((p3.toInt64) - (p1.toInt64)) - (p2.toInt64))), .second, .val (.int (0 : Int32)), .val (.int (F1 p1 p2 p3)), .unset] [])) _
    refine XS.iloadN X5.here hx rfl (hb hby at_82) rfl ?_
    show Steps p.tables e below (T5.setTop (mkF m 83 #[.val (.int p1), .val (.int p2), .val (.int p3), .val (.int p4), .val (.int p3), .val (.long (((p3.toInt64) - (p1.toInt64)) - (p2.toInt64))), .second, .val (.int (0 : Int32)), .val (.int (F1 p1 p2 p3)), .unset] [(.int p2)])) _
    refine XS.iloadN X5.here hx rfl (hb hby at_83) rfl ?_
    show Steps p.tables e below (T5.setTop (mkF m 84 #[.val (.int p1), .val (.int p2), .val (.int p3), .val (.int p4), .val (.int p3), .val (.long (((p3.toInt64) - (p1.toInt64)) - (p2.toInt64))), .second, .val (.int (0 : Int32)), .val (.int (F1 p1 p2 p3)), .unset] [(.int p1), (.int p2)])) _
    refine XS.iload X5.here hx rfl (hb hby at_84) rfl ?_
    show Steps p.tables e below (T5.setTop (mkF m 86 #[.val (.int p1), .val (.int p2), .val (.int p3), .val (.int p4), .val (.int p3), .val (.long (((p3.toInt64) - (p1.toInt64)) - (p2.toInt64))), .second, .val (.int (0 : Int32)), .val (.int (F1 p1 p2 p3)), .unset] [(.int p3), (.int p1), (.int p2)])) _
    refine st6 _ ?_
    show Steps p.tables e below (T6.setTop (mkF m 89 #[.val (.int p1), .val (.int p2), .val (.int p3), .val (.int p4), .val (.int p3), .val (.long (((p3.toInt64) - (p1.toInt64)) - (p2.toInt64))), .second, .val (.int (0 : Int32)), .val (.int (F1 p1 p2 p3)), .unset] [(.int (F1 p2 p1 p3))])) _
    refine XS.istore X6.here hx rfl (hb hby at_89) rfl (l' := #[.val (.int p1), .val (.int p2), .val (.int p3), .val (.int p4), .val (.int p3), .val (.long (((p3.toInt64) - (p1.toInt64)) - (p2.toInt64))), .second, .val (.int (0 : Int32)), .val (.int (F1 p1 p2 p3)), .val (.int (F1 p2 p1 p3))]) rfl ?_
    show Steps p.tables e below (T6.setTop (mkF m 91 #[.val (.int p1), .val (.int p2), .val (.int p3), .val (.int p4), .val (.int p3), .val (.long (((p3.toInt64) - (p1.toInt64)) - (p2.toInt64))), .second, .val (.int (0 : Int32)), .val (.int (F1 p1 p2 p3)), .val (.int (F1 p2 p1 p3))] [])) _
    refine XS.iload X6.here hx rfl (hb hby at_91) rfl ?_
    show Steps p.tables e below (T6.setTop (mkF m 93 #[.val (.int p1), .val (.int p2), .val (.int p3), .val (.int p4), .val (.int p3), .val (.long (((p3.toInt64) - (p1.toInt64)) - (p2.toInt64))), .second, .val (.int (0 : Int32)), .val (.int (F1 p1 p2 p3)), .val (.int (F1 p2 p1 p3))] [(.int (F1 p1 p2 p3))])) _
    refine XS.iload X6.here hx rfl (hb hby at_93) rfl ?_
    show Steps p.tables e below (T6.setTop (mkF m 95 #[.val (.int p1), .val (.int p2), .val (.int p3), .val (.int p4), .val (.int p3), .val (.long (((p3.toInt64) - (p1.toInt64)) - (p2.toInt64))), .second, .val (.int (0 : Int32)), .val (.int (F1 p1 p2 p3)), .val (.int (F1 p2 p1 p3))] [(.int (0 : Int32)), (.int (F1 p1 p2 p3))])) _
    refine XS.icmpNo X6.here hx rfl (hb hby at_95) rfl (teq (own_neg _ _ _ hc63 : (F1 p1 p2 p3) = (0 : Int32))).2 ?_
    show Steps p.tables e below (T6.setTop (mkF m 98 #[.val (.int p1), .val (.int p2), .val (.int p3), .val (.int p4), .val (.int p3), .val (.long (((p3.toInt64) - (p1.toInt64)) - (p2.toInt64))), .second, .val (.int (0 : Int32)), .val (.int (F1 p1 p2 p3)), .val (.int (F1 p2 p1 p3))] [])) _
    refine XS.iload X6.here hx rfl (hb hby at_98) rfl ?_
    show Steps p.tables e below (T6.setTop (mkF m 100 #[.val (.int p1), .val (.int p2), .val (.int p3), .val (.int p4), .val (.int p3), .val (.long (((p3.toInt64) - (p1.toInt64)) - (p2.toInt64))), .second, .val (.int (0 : Int32)), .val (.int (F1 p1 p2 p3)), .val (.int (F1 p2 p1 p3))] [(.int (F1 p2 p1 p3))])) _
    refine XS.iload X6.here hx rfl (hb hby at_100) rfl ?_
    show Steps p.tables e below (T6.setTop (mkF m 102 #[.val (.int p1), .val (.int p2), .val (.int p3), .val (.int p4), .val (.int p3), .val (.long (((p3.toInt64) - (p1.toInt64)) - (p2.toInt64))), .second, .val (.int (0 : Int32)), .val (.int (F1 p1 p2 p3)), .val (.int (F1 p2 p1 p3))] [(.int (F1 p1 p2 p3)), (.int (F1 p2 p1 p3))])) _
    refine XS.icmpNo X6.here hx rfl (hb hby at_102) rfl (teq (own_sym _ _ _ : (F1 p2 p1 p3) = (F1 p1 p2 p3))).2 ?_
    show Steps p.tables e below (T6.setTop (mkF m 105 #[.val (.int p1), .val (.int p2), .val (.int p3), .val (.int p4), .val (.int p3), .val (.long (((p3.toInt64) - (p1.toInt64)) - (p2.toInt64))), .second, .val (.int (0 : Int32)), .val (.int (F1 p1 p2 p3)), .val (.int (F1 p2 p1 p3))] [])) _
    refine XS.iconst X6.here hx rfl (hb hby at_105) ?_
    show Steps p.tables e below (T6.setTop (mkF m 106 #[.val (.int p1), .val (.int p2), .val (.int p3), .val (.int p4), .val (.int p3), .val (.long (((p3.toInt64) - (p1.toInt64)) - (p2.toInt64))), .second, .val (.int (0 : Int32)), .val (.int (F1 p1 p2 p3)), .val (.int (F1 p2 p1 p3))] [(.int (1 : Int32))])) _
    refine XS.goto X6.here hx rfl (pc0 := 106) (pc' := 110) rfl (hb hby at_106) (by decide) (by decide) ?_
    show Steps p.tables e below (T6.setTop (mkF m 110 #[.val (.int p1), .val (.int p2), .val (.int p3), .val (.int p4), .val (.int p3), .val (.long (((p3.toInt64) - (p1.toInt64)) - (p2.toInt64))), .second, .val (.int (0 : Int32)), .val (.int (F1 p1 p2 p3)), .val (.int (F1 p2 p1 p3))] [(.int (1 : Int32))])) _
    exact retN X6 hx (t := .boolean) Bd.returns (by simp) (hb hby at_110) hr
  · show Q0 Z p1 p2 p3 p4 h0 n0 _ T6.heap _
    exact ⟨rfl, N6⟩
set_option maxRecDepth 65536 in
set_option maxHeartbeats 40000000 in
theorem rm0_fftfff (l : Launch) (Z : State) (a0 : Array Value) (hw : ∀ d ∈ tables_1, d.before a0 Z = true) (ws : List Jvm.Cond) (p1 : Int32) (p2 : Int32) (p3 : Int32) (p4 : Int32) (h0 : Heap) (n0 : Nat) (Z0 : n0 ≤ h0.size) (hc6 : ¬ ((p4 &&& (1 : Int32)) = (0 : Int32))) (hc31 : ¬ ((lcmpW (((p1.toInt64) + (p2.toInt64)) + (((((p4.toUInt32 >>> ((1 : Int32) &&& 31).toUInt32).toInt32) - (((p4.toUInt32 >>> ((1 : Int32) &&& 31).toUInt32).toInt32) / (3 : Int32)) * (3 : Int32)) - (1 : Int32)).toInt64)) (-2147483648 : Int64)) < (0 : Int32))) (hc40 : (0 : Int32) < (lcmpW (((p1.toInt64) + (p2.toInt64)) + (((((p4.toUInt32 >>> ((1 : Int32) &&& 31).toUInt32).toInt32) - (((p4.toUInt32 >>> ((1 : Int32) &&& 31).toUInt32).toInt32) / (3 : Int32)) * (3 : Int32)) - (1 : Int32)).toInt64)) (2147483647 : Int64))) (hc63 : ¬ ((lcmpW (((p3.toInt64) - (p1.toInt64)) - (p2.toInt64)) (0 : Int64)) < (0 : Int32))) :
    MetFree l x (head1 (Jvm.Cond.code x code maxLocals ret :: ws) room_1) (fun a U => a = #[(.int p1), (.int p2), (.int p3), (.int p4)] ∧ Z.Warmed39 U.vm ∧ U.heap = h0) (fun _ _ _ _ _ => True) (fun _ U o U' => ∃ v L, o = .returned v ∧ Q0 Z p1 p2 p3 p4 h0 n0 v U'.heap L ∧ FrameEnd U o U' L room_1.cells room_1.slots) := by
  refine MetFree.of_bodySF (plainFor_of_name pn_0) hisR ?_
  intro p e s m args below meth c s₁ Bd hml0 hP hK
  obtain ⟨rfl, hZ, hh⟩ := hP
  have hx := Bd.exec
  have hby := Bd.bytes
  have hml : c.maxLocals = 10 := hml0
  have hown : s.vm.findClass "com/example/weather_gauge/weathergauge/game/NavalBattleScoresPinLaw" = some m.cls := findClass_of_methodNamed Bd.named
  have hnm := (name_of_methodNamed Bd.named Bd.method).1
  have X0 : Stand p l e room_1 s m #[(.int p1), (.int p2), (.int p3), (.int p4)] below meth c s₁ [] 0 0 := Stand.of_body Bd
  have e0 : s₁.heap = h0 := by rw [← hh, Bd.state]; rfl
  have N0 := Fr.nil n0
  have pre0 : ∀ t, Steps p.tables e below (s₁.setTop (mkF m 0 #[.val (.int p1), .val (.int p2), .val (.int p3), .val (.int p4), .unset, .unset, .unset, .unset, .unset, .unset] [])) t → Steps p.tables e below (s₁.setTop (entryFrame m #[(.int p1), (.int p2), (.int p3), (.int p4)] maxLocals)) t := fun t k => castTop (ef_0 m p1 p2 p3 p4) k
  -- 3. LAWS
  -- pc 77: com/example/weather_gauge/weathergauge/game/NavalBattle.scores by its contract rm1
  obtain ⟨_, _, ⟨T5, L5, k5, n5⟩, -, X5, ⟨Lc5, hQ5, l5, y5, z5⟩, st5⟩ := Jvm.LawKit.callS X0 hx (y := (⟨"com/example/weather_gauge/weathergauge/game/NavalBattle", "scores", "(III)Z"⟩ : MethodName)) hown (mvT hZ (hw _ (List.mem_of_getElem? (i := 2) rfl))) (mvT hZ (hw _ (List.mem_of_getElem? (i := 3) rfl))) (mvT hZ (hw _ (List.mem_of_getElem? (i := 4) rfl))) (mvT hZ (hw _ (List.mem_of_getElem? (i := 5) rfl))) (by decide) (backOf (W := 0) (rm1 l Z a0 hw [] p1 p2 p3 h0 n0 Z0) hZ (hw _ (List.mem_of_getElem? (i := 5) rfl)) (hw _ (List.mem_of_getElem? (i := 4) rfl)) (by decide) (by decide)) (g := (mkF m 77 #[.val (.int p1), .val (.int p2), .val (.int p3), .val (.int p4), .val (.int p3), .val (.long (((p3.toInt64) - (p1.toInt64)) - (p2.toInt64))), .second, .val (.int (1 : Int32)), .unset, .unset] [(.int p3), (.int p2), (.int p1)])) rfl (by rw [hml]; rfl) (argsL := [(.int p1), (.int p2), (.int p3)]) (rest := []) (lenOf pd_0_0 rfl) rfl (by show 2 * 0 + _ ≤ _; exact Nat.le_of_eq rfl) (hb hby at_77) (fun _ _ => ⟨rfl, e0, (by decide : 0 + 0 ≤ _), (by decide : 0 + 0 ≤ _)⟩)
  dsimp only [Pt.U, Pt.locs, Pt.cells, Pt.slots] at X5 l5 y5 z5 st5 hQ5
  subst l5 y5 z5
  obtain ⟨rfl, N5q, q5⟩ := hQ5      -- what it returned, that it wrote nothing old, and the rest of your Q1
  have H5 : n0 ≤ T5.heap.size := by rw [q5]; exact Z0
  have N5 := Fr.app N0 N5q
  -- pc 86: com/example/weather_gauge/weathergauge/game/NavalBattle.scores by its contract rm1
  obtain ⟨_, _, ⟨T6, L6, k6, n6⟩, -, X6, ⟨Lc6, hQ6, l6, y6, z6⟩, st6⟩ := Jvm.LawKit.callS X5 hx (y := (⟨"com/example/weather_gauge/weathergauge/game/NavalBattle", "scores", "(III)Z"⟩ : MethodName)) hown (mvT hZ (hw _ (List.mem_of_getElem? (i := 2) rfl))) (mvT hZ (hw _ (List.mem_of_getElem? (i := 3) rfl))) (mvT hZ (hw _ (List.mem_of_getElem? (i := 4) rfl))) (mvT hZ (hw _ (List.mem_of_getElem? (i := 5) rfl))) (by decide) (backOf (W := 0) (rm1 l Z a0 hw [] p2 p1 p3 T5.heap n0 H5) hZ (hw _ (List.mem_of_getElem? (i := 5) rfl)) (hw _ (List.mem_of_getElem? (i := 4) rfl)) (by decide) (by decide)) (g := (mkF m 86 #[.val (.int p1), .val (.int p2), .val (.int p3), .val (.int p4), .val (.int p3), .val (.long (((p3.toInt64) - (p1.toInt64)) - (p2.toInt64))), .second, .val (.int (1 : Int32)), .val (.int (F1 p1 p2 p3)), .unset] [(.int p3), (.int p1), (.int p2)])) rfl (by rw [hml]; rfl) (argsL := [(.int p2), (.int p1), (.int p3)]) (rest := []) (lenOf pd_0_0 rfl) rfl (by show 2 * 0 + _ ≤ _; exact Nat.le_of_eq rfl) (hb hby at_86) (fun _ _ => ⟨rfl, rfl, (by decide : 0 + 0 ≤ _), (by decide : 0 + 0 ≤ _)⟩)
  dsimp only [Pt.U, Pt.locs, Pt.cells, Pt.slots] at X6 l6 y6 z6 st6 hQ6
  subst l6 y6 z6
  obtain ⟨rfl, N6q, q6⟩ := hQ6      -- what it returned, that it wrote nothing old, and the rest of your Q1
  have H6 : n0 ≤ T6.heap.size := by rw [q6]; exact H5
  have N6 := Fr.app N5 N6q
  obtain ⟨fs, hr, hrun, hended, hW, hsame⟩ := X6.leave (v := some (.int (1 : Int32))) (fun h => by rw [Bd.returns] at h; cases h)
  refine ⟨_, _, pre0 _ ?_, hrun, hended, _, _, rfl, ?_, ⟨_, rfl⟩, hW, hsame.mono (by decide) (by decide)⟩
  -- 4. STEPS
  · show Steps p.tables e below (s₁.setTop (mkF m 0 #[.val (.int p1), .val (.int p2), .val (.int p3), .val (.int p4), .unset, .unset, .unset, .unset, .unset, .unset] [])) _
    refine XS.iloadN X0.here hx rfl (hb hby at_0) rfl ?_
    show Steps p.tables e below (s₁.setTop (mkF m 1 #[.val (.int p1), .val (.int p2), .val (.int p3), .val (.int p4), .unset, .unset, .unset, .unset, .unset, .unset] [(.int p3)])) _
    refine XS.istore X0.here hx rfl (hb hby at_1) rfl (l' := #[.val (.int p1), .val (.int p2), .val (.int p3), .val (.int p4), .val (.int p3), .unset, .unset, .unset, .unset, .unset]) rfl ?_
    show Steps p.tables e below (s₁.setTop (mkF m 3 #[.val (.int p1), .val (.int p2), .val (.int p3), .val (.int p4), .val (.int p3), .unset, .unset, .unset, .unset, .unset] [])) _
    refine XS.iloadN X0.here hx rfl (hb hby at_3) rfl ?_
    show Steps p.tables e below (s₁.setTop (mkF m 4 #[.val (.int p1), .val (.int p2), .val (.int p3), .val (.int p4), .val (.int p3), .unset, .unset, .unset, .unset, .unset] [(.int p4)])) _
    refine XS.iconst X0.here hx rfl (hb hby at_4) ?_
    show Steps p.tables e below (s₁.setTop (mkF m 5 #[.val (.int p1), .val (.int p2), .val (.int p3), .val (.int p4), .val (.int p3), .unset, .unset, .unset, .unset, .unset] [(.int (1 : Int32)), (.int p4)])) _
    refine XS.iand X0.here hx rfl (hb hby at_5) rfl ?_
    show Steps p.tables e below (s₁.setTop (mkF m 6 #[.val (.int p1), .val (.int p2), .val (.int p3), .val (.int p4), .val (.int p3), .unset, .unset, .unset, .unset, .unset] [(.int (p4 &&& (1 : Int32)))])) _
    refine XS.ifNo X0.here hx rfl (hb hby at_6) rfl ((if0 _ _).trans (feq hc6).1) ?_
    show Steps p.tables e below (s₁.setTop (mkF m 9 #[.val (.int p1), .val (.int p2), .val (.int p3), .val (.int p4), .val (.int p3), .unset, .unset, .unset, .unset, .unset] [])) _
    refine XS.iloadN X0.here hx rfl (hb hby at_9) rfl ?_
    show Steps p.tables e below (s₁.setTop (mkF m 10 #[.val (.int p1), .val (.int p2), .val (.int p3), .val (.int p4), .val (.int p3), .unset, .unset, .unset, .unset, .unset] [(.int p1)])) _
    refine XS.i2l X0.here hx rfl (hb hby at_10) rfl ?_
    show Steps p.tables e below (s₁.setTop (mkF m 11 #[.val (.int p1), .val (.int p2), .val (.int p3), .val (.int p4), .val (.int p3), .unset, .unset, .unset, .unset, .unset] [(.long (p1.toInt64))])) _
    refine XS.iloadN X0.here hx rfl (hb hby at_11) rfl ?_
    show Steps p.tables e below (s₁.setTop (mkF m 12 #[.val (.int p1), .val (.int p2), .val (.int p3), .val (.int p4), .val (.int p3), .unset, .unset, .unset, .unset, .unset] [(.int p2), (.long (p1.toInt64))])) _
    refine XS.i2l X0.here hx rfl (hb hby at_12) rfl ?_
    show Steps p.tables e below (s₁.setTop (mkF m 13 #[.val (.int p1), .val (.int p2), .val (.int p3), .val (.int p4), .val (.int p3), .unset, .unset, .unset, .unset, .unset] [(.long (p2.toInt64)), (.long (p1.toInt64))])) _
    refine XS.ladd X0.here hx rfl (hb hby at_13) rfl ?_
    show Steps p.tables e below (s₁.setTop (mkF m 14 #[.val (.int p1), .val (.int p2), .val (.int p3), .val (.int p4), .val (.int p3), .unset, .unset, .unset, .unset, .unset] [(.long ((p1.toInt64) + (p2.toInt64)))])) _
    refine XS.iloadN X0.here hx rfl (hb hby at_14) rfl ?_
    show Steps p.tables e below (s₁.setTop (mkF m 15 #[.val (.int p1), .val (.int p2), .val (.int p3), .val (.int p4), .val (.int p3), .unset, .unset, .unset, .unset, .unset] [(.int p4), (.long ((p1.toInt64) + (p2.toInt64)))])) _
    refine XS.iconst X0.here hx rfl (hb hby at_15) ?_
    show Steps p.tables e below (s₁.setTop (mkF m 16 #[.val (.int p1), .val (.int p2), .val (.int p3), .val (.int p4), .val (.int p3), .unset, .unset, .unset, .unset, .unset] [(.int (1 : Int32)), (.int p4), (.long ((p1.toInt64) + (p2.toInt64)))])) _
    refine XS.iushr X0.here hx rfl (hb hby at_16) rfl ?_
    show Steps p.tables e below (s₁.setTop (mkF m 17 #[.val (.int p1), .val (.int p2), .val (.int p3), .val (.int p4), .val (.int p3), .unset, .unset, .unset, .unset, .unset] [(.int ((p4.toUInt32 >>> ((1 : Int32) &&& 31).toUInt32).toInt32)), (.long ((p1.toInt64) + (p2.toInt64)))])) _
    refine XS.iconst X0.here hx rfl (hb hby at_17) ?_
    show Steps p.tables e below (s₁.setTop (mkF m 18 #[.val (.int p1), .val (.int p2), .val (.int p3), .val (.int p4), .val (.int p3), .unset, .unset, .unset, .unset, .unset] [(.int (3 : Int32)), (.int ((p4.toUInt32 >>> ((1 : Int32) &&& 31).toUInt32).toInt32)), (.long ((p1.toInt64) + (p2.toInt64)))])) _
    refine XS.irem X0.here hx rfl (hb hby at_18) rfl (by decide) ?_
    show Steps p.tables e below (s₁.setTop (mkF m 19 #[.val (.int p1), .val (.int p2), .val (.int p3), .val (.int p4), .val (.int p3), .unset, .unset, .unset, .unset, .unset] [(.int (((p4.toUInt32 >>> ((1 : Int32) &&& 31).toUInt32).toInt32) - (((p4.toUInt32 >>> ((1 : Int32) &&& 31).toUInt32).toInt32) / (3 : Int32)) * (3 : Int32))), (.long ((p1.toInt64) + (p2.toInt64)))])) _
    refine XS.iconst X0.here hx rfl (hb hby at_19) ?_
    show Steps p.tables e below (s₁.setTop (mkF m 20 #[.val (.int p1), .val (.int p2), .val (.int p3), .val (.int p4), .val (.int p3), .unset, .unset, .unset, .unset, .unset] [(.int (1 : Int32)), (.int (((p4.toUInt32 >>> ((1 : Int32) &&& 31).toUInt32).toInt32) - (((p4.toUInt32 >>> ((1 : Int32) &&& 31).toUInt32).toInt32) / (3 : Int32)) * (3 : Int32))), (.long ((p1.toInt64) + (p2.toInt64)))])) _
    refine XS.isub X0.here hx rfl (hb hby at_20) rfl ?_
    show Steps p.tables e below (s₁.setTop (mkF m 21 #[.val (.int p1), .val (.int p2), .val (.int p3), .val (.int p4), .val (.int p3), .unset, .unset, .unset, .unset, .unset] [(.int ((((p4.toUInt32 >>> ((1 : Int32) &&& 31).toUInt32).toInt32) - (((p4.toUInt32 >>> ((1 : Int32) &&& 31).toUInt32).toInt32) / (3 : Int32)) * (3 : Int32)) - (1 : Int32))), (.long ((p1.toInt64) + (p2.toInt64)))])) _
    refine XS.i2l X0.here hx rfl (hb hby at_21) rfl ?_
    show Steps p.tables e below (s₁.setTop (mkF m 22 #[.val (.int p1), .val (.int p2), .val (.int p3), .val (.int p4), .val (.int p3), .unset, .unset, .unset, .unset, .unset] [(.long (((((p4.toUInt32 >>> ((1 : Int32) &&& 31).toUInt32).toInt32) - (((p4.toUInt32 >>> ((1 : Int32) &&& 31).toUInt32).toInt32) / (3 : Int32)) * (3 : Int32)) - (1 : Int32)).toInt64)), (.long ((p1.toInt64) + (p2.toInt64)))])) _
    refine XS.ladd X0.here hx rfl (hb hby at_22) rfl ?_
    show Steps p.tables e below (s₁.setTop (mkF m 23 #[.val (.int p1), .val (.int p2), .val (.int p3), .val (.int p4), .val (.int p3), .unset, .unset, .unset, .unset, .unset] [(.long (((p1.toInt64) + (p2.toInt64)) + (((((p4.toUInt32 >>> ((1 : Int32) &&& 31).toUInt32).toInt32) - (((p4.toUInt32 >>> ((1 : Int32) &&& 31).toUInt32).toInt32) / (3 : Int32)) * (3 : Int32)) - (1 : Int32)).toInt64)))])) _
    refine XS.lstore X0.here hx rfl (hb hby at_23) rfl (l' := #[.val (.int p1), .val (.int p2), .val (.int p3), .val (.int p4), .val (.int p3), .val (.long (((p1.toInt64) + (p2.toInt64)) + (((((p4.toUInt32 >>> ((1 : Int32) &&& 31).toUInt32).toInt32) - (((p4.toUInt32 >>> ((1 : Int32) &&& 31).toUInt32).toInt32) / (3 : Int32)) * (3 : Int32)) - (1 : Int32)).toInt64))), .second, .unset, .unset, .unset]) rfl ?_
    show Steps p.tables e below (s₁.setTop (mkF m 25 #[.val (.int p1), .val (.int p2), .val (.int p3), .val (.int p4), .val (.int p3), .val (.long (((p1.toInt64) + (p2.toInt64)) + (((((p4.toUInt32 >>> ((1 : Int32) &&& 31).toUInt32).toInt32) - (((p4.toUInt32 >>> ((1 : Int32) &&& 31).toUInt32).toInt32) / (3 : Int32)) * (3 : Int32)) - (1 : Int32)).toInt64))), .second, .unset, .unset, .unset] [])) _
    refine XS.lload X0.here hx rfl (hb hby at_25) rfl ?_
    show Steps p.tables e below (s₁.setTop (mkF m 27 #[.val (.int p1), .val (.int p2), .val (.int p3), .val (.int p4), .val (.int p3), .val (.long (((p1.toInt64) + (p2.toInt64)) + (((((p4.toUInt32 >>> ((1 : Int32) &&& 31).toUInt32).toInt32) - (((p4.toUInt32 >>> ((1 : Int32) &&& 31).toUInt32).toInt32) / (3 : Int32)) * (3 : Int32)) - (1 : Int32)).toInt64))), .second, .unset, .unset, .unset] [(.long (((p1.toInt64) + (p2.toInt64)) + (((((p4.toUInt32 >>> ((1 : Int32) &&& 31).toUInt32).toInt32) - (((p4.toUInt32 >>> ((1 : Int32) &&& 31).toUInt32).toInt32) / (3 : Int32)) * (3 : Int32)) - (1 : Int32)).toInt64)))])) _
    refine X0.ldc2Long hx hown (mvT hZ (hw _ (List.mem_of_getElem? (i := 0) rfl))) (g := (mkF m 27 #[.val (.int p1), .val (.int p2), .val (.int p3), .val (.int p4), .val (.int p3), .val (.long (((p1.toInt64) + (p2.toInt64)) + (((((p4.toUInt32 >>> ((1 : Int32) &&& 31).toUInt32).toInt32) - (((p4.toUInt32 >>> ((1 : Int32) &&& 31).toUInt32).toInt32) / (3 : Int32)) * (3 : Int32)) - (1 : Int32)).toInt64))), .second, .unset, .unset, .unset] [(.long (((p1.toInt64) + (p2.toInt64)) + (((((p4.toUInt32 >>> ((1 : Int32) &&& 31).toUInt32).toInt32) - (((p4.toUInt32 >>> ((1 : Int32) &&& 31).toUInt32).toInt32) / (3 : Int32)) * (3 : Int32)) - (1 : Int32)).toInt64)))])) rfl (hb hby at_27) _ ?_
    show Steps p.tables e below (s₁.setTop (mkF m 30 #[.val (.int p1), .val (.int p2), .val (.int p3), .val (.int p4), .val (.int p3), .val (.long (((p1.toInt64) + (p2.toInt64)) + (((((p4.toUInt32 >>> ((1 : Int32) &&& 31).toUInt32).toInt32) - (((p4.toUInt32 >>> ((1 : Int32) &&& 31).toUInt32).toInt32) / (3 : Int32)) * (3 : Int32)) - (1 : Int32)).toInt64))), .second, .unset, .unset, .unset] [(.long (-2147483648 : Int64)), (.long (((p1.toInt64) + (p2.toInt64)) + (((((p4.toUInt32 >>> ((1 : Int32) &&& 31).toUInt32).toInt32) - (((p4.toUInt32 >>> ((1 : Int32) &&& 31).toUInt32).toInt32) / (3 : Int32)) * (3 : Int32)) - (1 : Int32)).toInt64)))])) _
    refine XS.lcmp X0.here hx rfl (hb hby at_30) rfl ?_
    show Steps p.tables e below (s₁.setTop (mkF m 31 #[.val (.int p1), .val (.int p2), .val (.int p3), .val (.int p4), .val (.int p3), .val (.long (((p1.toInt64) + (p2.toInt64)) + (((((p4.toUInt32 >>> ((1 : Int32) &&& 31).toUInt32).toInt32) - (((p4.toUInt32 >>> ((1 : Int32) &&& 31).toUInt32).toInt32) / (3 : Int32)) * (3 : Int32)) - (1 : Int32)).toInt64))), .second, .unset, .unset, .unset] [(.int (lcmpW (((p1.toInt64) + (p2.toInt64)) + (((((p4.toUInt32 >>> ((1 : Int32) &&& 31).toUInt32).toInt32) - (((p4.toUInt32 >>> ((1 : Int32) &&& 31).toUInt32).toInt32) / (3 : Int32)) * (3 : Int32)) - (1 : Int32)).toInt64)) (-2147483648 : Int64)))])) _
    refine XS.ifNo X0.here hx rfl (hb hby at_31) rfl ((if0 _ _).trans (flt hc31).1) ?_
    show Steps p.tables e below (s₁.setTop (mkF m 34 #[.val (.int p1), .val (.int p2), .val (.int p3), .val (.int p4), .val (.int p3), .val (.long (((p1.toInt64) + (p2.toInt64)) + (((((p4.toUInt32 >>> ((1 : Int32) &&& 31).toUInt32).toInt32) - (((p4.toUInt32 >>> ((1 : Int32) &&& 31).toUInt32).toInt32) / (3 : Int32)) * (3 : Int32)) - (1 : Int32)).toInt64))), .second, .unset, .unset, .unset] [])) _
    refine XS.lload X0.here hx rfl (hb hby at_34) rfl ?_
    show Steps p.tables e below (s₁.setTop (mkF m 36 #[.val (.int p1), .val (.int p2), .val (.int p3), .val (.int p4), .val (.int p3), .val (.long (((p1.toInt64) + (p2.toInt64)) + (((((p4.toUInt32 >>> ((1 : Int32) &&& 31).toUInt32).toInt32) - (((p4.toUInt32 >>> ((1 : Int32) &&& 31).toUInt32).toInt32) / (3 : Int32)) * (3 : Int32)) - (1 : Int32)).toInt64))), .second, .unset, .unset, .unset] [(.long (((p1.toInt64) + (p2.toInt64)) + (((((p4.toUInt32 >>> ((1 : Int32) &&& 31).toUInt32).toInt32) - (((p4.toUInt32 >>> ((1 : Int32) &&& 31).toUInt32).toInt32) / (3 : Int32)) * (3 : Int32)) - (1 : Int32)).toInt64)))])) _
    refine X0.ldc2Long hx hown (mvT hZ (hw _ (List.mem_of_getElem? (i := 1) rfl))) (g := (mkF m 36 #[.val (.int p1), .val (.int p2), .val (.int p3), .val (.int p4), .val (.int p3), .val (.long (((p1.toInt64) + (p2.toInt64)) + (((((p4.toUInt32 >>> ((1 : Int32) &&& 31).toUInt32).toInt32) - (((p4.toUInt32 >>> ((1 : Int32) &&& 31).toUInt32).toInt32) / (3 : Int32)) * (3 : Int32)) - (1 : Int32)).toInt64))), .second, .unset, .unset, .unset] [(.long (((p1.toInt64) + (p2.toInt64)) + (((((p4.toUInt32 >>> ((1 : Int32) &&& 31).toUInt32).toInt32) - (((p4.toUInt32 >>> ((1 : Int32) &&& 31).toUInt32).toInt32) / (3 : Int32)) * (3 : Int32)) - (1 : Int32)).toInt64)))])) rfl (hb hby at_36) _ ?_
    show Steps p.tables e below (s₁.setTop (mkF m 39 #[.val (.int p1), .val (.int p2), .val (.int p3), .val (.int p4), .val (.int p3), .val (.long (((p1.toInt64) + (p2.toInt64)) + (((((p4.toUInt32 >>> ((1 : Int32) &&& 31).toUInt32).toInt32) - (((p4.toUInt32 >>> ((1 : Int32) &&& 31).toUInt32).toInt32) / (3 : Int32)) * (3 : Int32)) - (1 : Int32)).toInt64))), .second, .unset, .unset, .unset] [(.long (2147483647 : Int64)), (.long (((p1.toInt64) + (p2.toInt64)) + (((((p4.toUInt32 >>> ((1 : Int32) &&& 31).toUInt32).toInt32) - (((p4.toUInt32 >>> ((1 : Int32) &&& 31).toUInt32).toInt32) / (3 : Int32)) * (3 : Int32)) - (1 : Int32)).toInt64)))])) _
    refine XS.lcmp X0.here hx rfl (hb hby at_39) rfl ?_
    show Steps p.tables e below (s₁.setTop (mkF m 40 #[.val (.int p1), .val (.int p2), .val (.int p3), .val (.int p4), .val (.int p3), .val (.long (((p1.toInt64) + (p2.toInt64)) + (((((p4.toUInt32 >>> ((1 : Int32) &&& 31).toUInt32).toInt32) - (((p4.toUInt32 >>> ((1 : Int32) &&& 31).toUInt32).toInt32) / (3 : Int32)) * (3 : Int32)) - (1 : Int32)).toInt64))), .second, .unset, .unset, .unset] [(.int (lcmpW (((p1.toInt64) + (p2.toInt64)) + (((((p4.toUInt32 >>> ((1 : Int32) &&& 31).toUInt32).toInt32) - (((p4.toUInt32 >>> ((1 : Int32) &&& 31).toUInt32).toInt32) / (3 : Int32)) * (3 : Int32)) - (1 : Int32)).toInt64)) (2147483647 : Int64)))])) _
    refine XS.ifYes X0.here hx rfl (pc0 := 40) (pc' := 48) rfl (hb hby at_40) rfl ((if0 _ _).trans (tlt hc40).2.2.1) (by decide) (by decide) ?_
    show Steps p.tables e below (s₁.setTop (mkF m 48 #[.val (.int p1), .val (.int p2), .val (.int p3), .val (.int p4), .val (.int p3), .val (.long (((p1.toInt64) + (p2.toInt64)) + (((((p4.toUInt32 >>> ((1 : Int32) &&& 31).toUInt32).toInt32) - (((p4.toUInt32 >>> ((1 : Int32) &&& 31).toUInt32).toInt32) / (3 : Int32)) * (3 : Int32)) - (1 : Int32)).toInt64))), .second, .unset, .unset, .unset] [])) _
    refine XS.iload X0.here hx rfl (hb hby at_48) rfl ?_
    show Steps p.tables e below (s₁.setTop (mkF m 50 #[.val (.int p1), .val (.int p2), .val (.int p3), .val (.int p4), .val (.int p3), .val (.long (((p1.toInt64) + (p2.toInt64)) + (((((p4.toUInt32 >>> ((1 : Int32) &&& 31).toUInt32).toInt32) - (((p4.toUInt32 >>> ((1 : Int32) &&& 31).toUInt32).toInt32) / (3 : Int32)) * (3 : Int32)) - (1 : Int32)).toInt64))), .second, .unset, .unset, .unset] [(.int p3)])) _
    refine XS.i2l X0.here hx rfl (hb hby at_50) rfl ?_
    show Steps p.tables e below (s₁.setTop (mkF m 51 #[.val (.int p1), .val (.int p2), .val (.int p3), .val (.int p4), .val (.int p3), .val (.long (((p1.toInt64) + (p2.toInt64)) + (((((p4.toUInt32 >>> ((1 : Int32) &&& 31).toUInt32).toInt32) - (((p4.toUInt32 >>> ((1 : Int32) &&& 31).toUInt32).toInt32) / (3 : Int32)) * (3 : Int32)) - (1 : Int32)).toInt64))), .second, .unset, .unset, .unset] [(.long (p3.toInt64))])) _
    refine XS.iloadN X0.here hx rfl (hb hby at_51) rfl ?_
    show Steps p.tables e below (s₁.setTop (mkF m 52 #[.val (.int p1), .val (.int p2), .val (.int p3), .val (.int p4), .val (.int p3), .val (.long (((p1.toInt64) + (p2.toInt64)) + (((((p4.toUInt32 >>> ((1 : Int32) &&& 31).toUInt32).toInt32) - (((p4.toUInt32 >>> ((1 : Int32) &&& 31).toUInt32).toInt32) / (3 : Int32)) * (3 : Int32)) - (1 : Int32)).toInt64))), .second, .unset, .unset, .unset] [(.int p1), (.long (p3.toInt64))])) _
    refine XS.i2l X0.here hx rfl (hb hby at_52) rfl ?_
    show Steps p.tables e below (s₁.setTop (mkF m 53 #[.val (.int p1), .val (.int p2), .val (.int p3), .val (.int p4), .val (.int p3), .val (.long (((p1.toInt64) + (p2.toInt64)) + (((((p4.toUInt32 >>> ((1 : Int32) &&& 31).toUInt32).toInt32) - (((p4.toUInt32 >>> ((1 : Int32) &&& 31).toUInt32).toInt32) / (3 : Int32)) * (3 : Int32)) - (1 : Int32)).toInt64))), .second, .unset, .unset, .unset] [(.long (p1.toInt64)), (.long (p3.toInt64))])) _
    refine XS.lsub X0.here hx rfl (hb hby at_53) rfl ?_
    show Steps p.tables e below (s₁.setTop (mkF m 54 #[.val (.int p1), .val (.int p2), .val (.int p3), .val (.int p4), .val (.int p3), .val (.long (((p1.toInt64) + (p2.toInt64)) + (((((p4.toUInt32 >>> ((1 : Int32) &&& 31).toUInt32).toInt32) - (((p4.toUInt32 >>> ((1 : Int32) &&& 31).toUInt32).toInt32) / (3 : Int32)) * (3 : Int32)) - (1 : Int32)).toInt64))), .second, .unset, .unset, .unset] [(.long ((p3.toInt64) - (p1.toInt64)))])) _
    refine XS.iloadN X0.here hx rfl (hb hby at_54) rfl ?_
    show Steps p.tables e below (s₁.setTop (mkF m 55 #[.val (.int p1), .val (.int p2), .val (.int p3), .val (.int p4), .val (.int p3), .val (.long (((p1.toInt64) + (p2.toInt64)) + (((((p4.toUInt32 >>> ((1 : Int32) &&& 31).toUInt32).toInt32) - (((p4.toUInt32 >>> ((1 : Int32) &&& 31).toUInt32).toInt32) / (3 : Int32)) * (3 : Int32)) - (1 : Int32)).toInt64))), .second, .unset, .unset, .unset] [(.int p2), (.long ((p3.toInt64) - (p1.toInt64)))])) _
    refine XS.i2l X0.here hx rfl (hb hby at_55) rfl ?_
    show Steps p.tables e below (s₁.setTop (mkF m 56 #[.val (.int p1), .val (.int p2), .val (.int p3), .val (.int p4), .val (.int p3), .val (.long (((p1.toInt64) + (p2.toInt64)) + (((((p4.toUInt32 >>> ((1 : Int32) &&& 31).toUInt32).toInt32) - (((p4.toUInt32 >>> ((1 : Int32) &&& 31).toUInt32).toInt32) / (3 : Int32)) * (3 : Int32)) - (1 : Int32)).toInt64))), .second, .unset, .unset, .unset] [(.long (p2.toInt64)), (.long ((p3.toInt64) - (p1.toInt64)))])) _
    refine XS.lsub X0.here hx rfl (hb hby at_56) rfl ?_
    show Steps p.tables e below (s₁.setTop (mkF m 57 #[.val (.int p1), .val (.int p2), .val (.int p3), .val (.int p4), .val (.int p3), .val (.long (((p1.toInt64) + (p2.toInt64)) + (((((p4.toUInt32 >>> ((1 : Int32) &&& 31).toUInt32).toInt32) - (((p4.toUInt32 >>> ((1 : Int32) &&& 31).toUInt32).toInt32) / (3 : Int32)) * (3 : Int32)) - (1 : Int32)).toInt64))), .second, .unset, .unset, .unset] [(.long (((p3.toInt64) - (p1.toInt64)) - (p2.toInt64)))])) _
    refine XS.lstore X0.here hx rfl (hb hby at_57) rfl (l' := #[.val (.int p1), .val (.int p2), .val (.int p3), .val (.int p4), .val (.int p3), .val (.long (((p3.toInt64) - (p1.toInt64)) - (p2.toInt64))), .second, .unset, .unset, .unset]) rfl ?_
    show Steps p.tables e below (s₁.setTop (mkF m 59 #[.val (.int p1), .val (.int p2), .val (.int p3), .val (.int p4), .val (.int p3), .val (.long (((p3.toInt64) - (p1.toInt64)) - (p2.toInt64))), .second, .unset, .unset, .unset] [])) _
    refine XS.lload X0.here hx rfl (hb hby at_59) rfl ?_
    show Steps p.tables e below (s₁.setTop (mkF m 61 #[.val (.int p1), .val (.int p2), .val (.int p3), .val (.int p4), .val (.int p3), .val (.long (((p3.toInt64) - (p1.toInt64)) - (p2.toInt64))), .second, .unset, .unset, .unset] [(.long (((p3.toInt64) - (p1.toInt64)) - (p2.toInt64)))])) _
    refine XS.lconst X0.here hx rfl (hb hby at_61) ?_
    show Steps p.tables e below (s₁.setTop (mkF m 62 #[.val (.int p1), .val (.int p2), .val (.int p3), .val (.int p4), .val (.int p3), .val (.long (((p3.toInt64) - (p1.toInt64)) - (p2.toInt64))), .second, .unset, .unset, .unset] [(.long (0 : Int64)), (.long (((p3.toInt64) - (p1.toInt64)) - (p2.toInt64)))])) _
    refine XS.lcmp X0.here hx rfl (hb hby at_62) rfl ?_
    show Steps p.tables e below (s₁.setTop (mkF m 63 #[.val (.int p1), .val (.int p2), .val (.int p3), .val (.int p4), .val (.int p3), .val (.long (((p3.toInt64) - (p1.toInt64)) - (p2.toInt64))), .second, .unset, .unset, .unset] [(.int (lcmpW (((p3.toInt64) - (p1.toInt64)) - (p2.toInt64)) (0 : Int64)))])) _
    refine XS.ifNo X0.here hx rfl (hb hby at_63) rfl ((if0 _ _).trans (flt hc63).1) ?_
    show Steps p.tables e below (s₁.setTop (mkF m 66 #[.val (.int p1), .val (.int p2), .val (.int p3), .val (.int p4), .val (.int p3), .val (.long (((p3.toInt64) - (p1.toInt64)) - (p2.toInt64))), .second, .unset, .unset, .unset] [])) _
    refine XS.iconst X0.here hx rfl (hb hby at_66) ?_
    show Steps p.tables e below (s₁.setTop (mkF m 67 #[.val (.int p1), .val (.int p2), .val (.int p3), .val (.int p4), .val (.int p3), .val (.long (((p3.toInt64) - (p1.toInt64)) - (p2.toInt64))), .second, .unset, .unset, .unset] [(.int (1 : Int32))])) _
    refine XS.goto X0.here hx rfl (pc0 := 67) (pc' := 71) rfl (hb hby at_67) (by decide) (by decide) ?_
    show Steps p.tables e below (s₁.setTop (mkF m 71 #[.val (.int p1), .val (.int p2), .val (.int p3), .val (.int p4), .val (.int p3), .val (.long (((p3.toInt64) - (p1.toInt64)) - (p2.toInt64))), .second, .unset, .unset, .unset] [(.int (1 : Int32))])) _
    refine XS.istore X0.here hx rfl (hb hby at_71) rfl (l' := #[.val (.int p1), .val (.int p2), .val (.int p3), .val (.int p4), .val (.int p3), .val (.long (((p3.toInt64) - (p1.toInt64)) - (p2.toInt64))), .second, .val (.int (1 : Int32)), .unset, .unset]) rfl ?_
    show Steps p.tables e below (s₁.setTop (mkF m 73 #[.val (.int p1), .val (.int p2), .val (.int p3), .val (.int p4), .val (.int p3), .val (.long (((p3.toInt64) - (p1.toInt64)) - (p2.toInt64))), .second, .val (.int (1 : Int32)), .unset, .unset] [])) _
    refine XS.iloadN X0.here hx rfl (hb hby at_73) rfl ?_
    show Steps p.tables e below (s₁.setTop (mkF m 74 #[.val (.int p1), .val (.int p2), .val (.int p3), .val (.int p4), .val (.int p3), .val (.long (((p3.toInt64) - (p1.toInt64)) - (p2.toInt64))), .second, .val (.int (1 : Int32)), .unset, .unset] [(.int p1)])) _
    refine XS.iloadN X0.here hx rfl (hb hby at_74) rfl ?_
    show Steps p.tables e below (s₁.setTop (mkF m 75 #[.val (.int p1), .val (.int p2), .val (.int p3), .val (.int p4), .val (.int p3), .val (.long (((p3.toInt64) - (p1.toInt64)) - (p2.toInt64))), .second, .val (.int (1 : Int32)), .unset, .unset] [(.int p2), (.int p1)])) _
    refine XS.iload X0.here hx rfl (hb hby at_75) rfl ?_
    show Steps p.tables e below (s₁.setTop (mkF m 77 #[.val (.int p1), .val (.int p2), .val (.int p3), .val (.int p4), .val (.int p3), .val (.long (((p3.toInt64) - (p1.toInt64)) - (p2.toInt64))), .second, .val (.int (1 : Int32)), .unset, .unset] [(.int p3), (.int p2), (.int p1)])) _
    refine st5 _ ?_
    show Steps p.tables e below (T5.setTop (mkF m 80 #[.val (.int p1), .val (.int p2), .val (.int p3), .val (.int p4), .val (.int p3), .val (.long (((p3.toInt64) - (p1.toInt64)) - (p2.toInt64))), .second, .val (.int (1 : Int32)), .unset, .unset] [(.int (F1 p1 p2 p3))])) _
    refine XS.istore X5.here hx rfl (hb hby at_80) rfl (l' := #[.val (.int p1), .val (.int p2), .val (.int p3), .val (.int p4), .val (.int p3), .val (.long (((p3.toInt64) - (p1.toInt64)) - (p2.toInt64))), .second, .val (.int (1 : Int32)), .val (.int (F1 p1 p2 p3)), .unset]) rfl ?_
    show Steps p.tables e below (T5.setTop (mkF m 82 #[.val (.int p1), .val (.int p2), .val (.int p3), .val (.int p4), .val (.int p3), .val (.long (((p3.toInt64) - (p1.toInt64)) - (p2.toInt64))), .second, .val (.int (1 : Int32)), .val (.int (F1 p1 p2 p3)), .unset] [])) _
    refine XS.iloadN X5.here hx rfl (hb hby at_82) rfl ?_
    show Steps p.tables e below (T5.setTop (mkF m 83 #[.val (.int p1), .val (.int p2), .val (.int p3), .val (.int p4), .val (.int p3), .val (.long (((p3.toInt64) - (p1.toInt64)) - (p2.toInt64))), .second, .val (.int (1 : Int32)), .val (.int (F1 p1 p2 p3)), .unset] [(.int p2)])) _
    refine XS.iloadN X5.here hx rfl (hb hby at_83) rfl ?_
    show Steps p.tables e below (T5.setTop (mkF m 84 #[.val (.int p1), .val (.int p2), .val (.int p3), .val (.int p4), .val (.int p3), .val (.long (((p3.toInt64) - (p1.toInt64)) - (p2.toInt64))), .second, .val (.int (1 : Int32)), .val (.int (F1 p1 p2 p3)), .unset] [(.int p1), (.int p2)])) _
    refine XS.iload X5.here hx rfl (hb hby at_84) rfl ?_
    show Steps p.tables e below (T5.setTop (mkF m 86 #[.val (.int p1), .val (.int p2), .val (.int p3), .val (.int p4), .val (.int p3), .val (.long (((p3.toInt64) - (p1.toInt64)) - (p2.toInt64))), .second, .val (.int (1 : Int32)), .val (.int (F1 p1 p2 p3)), .unset] [(.int p3), (.int p1), (.int p2)])) _
    refine st6 _ ?_
    show Steps p.tables e below (T6.setTop (mkF m 89 #[.val (.int p1), .val (.int p2), .val (.int p3), .val (.int p4), .val (.int p3), .val (.long (((p3.toInt64) - (p1.toInt64)) - (p2.toInt64))), .second, .val (.int (1 : Int32)), .val (.int (F1 p1 p2 p3)), .unset] [(.int (F1 p2 p1 p3))])) _
    refine XS.istore X6.here hx rfl (hb hby at_89) rfl (l' := #[.val (.int p1), .val (.int p2), .val (.int p3), .val (.int p4), .val (.int p3), .val (.long (((p3.toInt64) - (p1.toInt64)) - (p2.toInt64))), .second, .val (.int (1 : Int32)), .val (.int (F1 p1 p2 p3)), .val (.int (F1 p2 p1 p3))]) rfl ?_
    show Steps p.tables e below (T6.setTop (mkF m 91 #[.val (.int p1), .val (.int p2), .val (.int p3), .val (.int p4), .val (.int p3), .val (.long (((p3.toInt64) - (p1.toInt64)) - (p2.toInt64))), .second, .val (.int (1 : Int32)), .val (.int (F1 p1 p2 p3)), .val (.int (F1 p2 p1 p3))] [])) _
    refine XS.iload X6.here hx rfl (hb hby at_91) rfl ?_
    show Steps p.tables e below (T6.setTop (mkF m 93 #[.val (.int p1), .val (.int p2), .val (.int p3), .val (.int p4), .val (.int p3), .val (.long (((p3.toInt64) - (p1.toInt64)) - (p2.toInt64))), .second, .val (.int (1 : Int32)), .val (.int (F1 p1 p2 p3)), .val (.int (F1 p2 p1 p3))] [(.int (F1 p1 p2 p3))])) _
    refine XS.iload X6.here hx rfl (hb hby at_93) rfl ?_
    show Steps p.tables e below (T6.setTop (mkF m 95 #[.val (.int p1), .val (.int p2), .val (.int p3), .val (.int p4), .val (.int p3), .val (.long (((p3.toInt64) - (p1.toInt64)) - (p2.toInt64))), .second, .val (.int (1 : Int32)), .val (.int (F1 p1 p2 p3)), .val (.int (F1 p2 p1 p3))] [(.int (1 : Int32)), (.int (F1 p1 p2 p3))])) _
    refine XS.icmpNo X6.here hx rfl (hb hby at_95) rfl (teq (own_pos _ _ _ hc63 : (F1 p1 p2 p3) = (1 : Int32))).2 ?_
    show Steps p.tables e below (T6.setTop (mkF m 98 #[.val (.int p1), .val (.int p2), .val (.int p3), .val (.int p4), .val (.int p3), .val (.long (((p3.toInt64) - (p1.toInt64)) - (p2.toInt64))), .second, .val (.int (1 : Int32)), .val (.int (F1 p1 p2 p3)), .val (.int (F1 p2 p1 p3))] [])) _
    refine XS.iload X6.here hx rfl (hb hby at_98) rfl ?_
    show Steps p.tables e below (T6.setTop (mkF m 100 #[.val (.int p1), .val (.int p2), .val (.int p3), .val (.int p4), .val (.int p3), .val (.long (((p3.toInt64) - (p1.toInt64)) - (p2.toInt64))), .second, .val (.int (1 : Int32)), .val (.int (F1 p1 p2 p3)), .val (.int (F1 p2 p1 p3))] [(.int (F1 p2 p1 p3))])) _
    refine XS.iload X6.here hx rfl (hb hby at_100) rfl ?_
    show Steps p.tables e below (T6.setTop (mkF m 102 #[.val (.int p1), .val (.int p2), .val (.int p3), .val (.int p4), .val (.int p3), .val (.long (((p3.toInt64) - (p1.toInt64)) - (p2.toInt64))), .second, .val (.int (1 : Int32)), .val (.int (F1 p1 p2 p3)), .val (.int (F1 p2 p1 p3))] [(.int (F1 p1 p2 p3)), (.int (F1 p2 p1 p3))])) _
    refine XS.icmpNo X6.here hx rfl (hb hby at_102) rfl (teq (own_sym _ _ _ : (F1 p2 p1 p3) = (F1 p1 p2 p3))).2 ?_
    show Steps p.tables e below (T6.setTop (mkF m 105 #[.val (.int p1), .val (.int p2), .val (.int p3), .val (.int p4), .val (.int p3), .val (.long (((p3.toInt64) - (p1.toInt64)) - (p2.toInt64))), .second, .val (.int (1 : Int32)), .val (.int (F1 p1 p2 p3)), .val (.int (F1 p2 p1 p3))] [])) _
    refine XS.iconst X6.here hx rfl (hb hby at_105) ?_
    show Steps p.tables e below (T6.setTop (mkF m 106 #[.val (.int p1), .val (.int p2), .val (.int p3), .val (.int p4), .val (.int p3), .val (.long (((p3.toInt64) - (p1.toInt64)) - (p2.toInt64))), .second, .val (.int (1 : Int32)), .val (.int (F1 p1 p2 p3)), .val (.int (F1 p2 p1 p3))] [(.int (1 : Int32))])) _
    refine XS.goto X6.here hx rfl (pc0 := 106) (pc' := 110) rfl (hb hby at_106) (by decide) (by decide) ?_
    show Steps p.tables e below (T6.setTop (mkF m 110 #[.val (.int p1), .val (.int p2), .val (.int p3), .val (.int p4), .val (.int p3), .val (.long (((p3.toInt64) - (p1.toInt64)) - (p2.toInt64))), .second, .val (.int (1 : Int32)), .val (.int (F1 p1 p2 p3)), .val (.int (F1 p2 p1 p3))] [(.int (1 : Int32))])) _
    exact retN X6 hx (t := .boolean) Bd.returns (by simp) (hb hby at_110) hr
  · show Q0 Z p1 p2 p3 p4 h0 n0 _ T6.heap _
    exact ⟨rfl, N6⟩
set_option maxRecDepth 65536 in
set_option maxHeartbeats 40000000 in
theorem rm0_ffftff (l : Launch) (Z : State) (a0 : Array Value) (hw : ∀ d ∈ tables_1, d.before a0 Z = true) (ws : List Jvm.Cond) (p1 : Int32) (p2 : Int32) (p3 : Int32) (p4 : Int32) (h0 : Heap) (n0 : Nat) (Z0 : n0 ≤ h0.size) (hc6 : ¬ ((p4 &&& (1 : Int32)) = (0 : Int32))) (hc31 : ¬ ((lcmpW (((p1.toInt64) + (p2.toInt64)) + (((((p4.toUInt32 >>> ((1 : Int32) &&& 31).toUInt32).toInt32) - (((p4.toUInt32 >>> ((1 : Int32) &&& 31).toUInt32).toInt32) / (3 : Int32)) * (3 : Int32)) - (1 : Int32)).toInt64)) (-2147483648 : Int64)) < (0 : Int32))) (hc40 : ¬ ((0 : Int32) < (lcmpW (((p1.toInt64) + (p2.toInt64)) + (((((p4.toUInt32 >>> ((1 : Int32) &&& 31).toUInt32).toInt32) - (((p4.toUInt32 >>> ((1 : Int32) &&& 31).toUInt32).toInt32) / (3 : Int32)) * (3 : Int32)) - (1 : Int32)).toInt64)) (2147483647 : Int64)))) (hc63 : (lcmpW (((((((p1.toInt64) + (p2.toInt64)) + (((((p4.toUInt32 >>> ((1 : Int32) &&& 31).toUInt32).toInt32) - (((p4.toUInt32 >>> ((1 : Int32) &&& 31).toUInt32).toInt32) / (3 : Int32)) * (3 : Int32)) - (1 : Int32)).toInt64)).toInt32).toInt64) - (p1.toInt64)) - (p2.toInt64)) (0 : Int64)) < (0 : Int32)) :
    MetFree l x (head1 (Jvm.Cond.code x code maxLocals ret :: ws) room_1) (fun a U => a = #[(.int p1), (.int p2), (.int p3), (.int p4)] ∧ Z.Warmed39 U.vm ∧ U.heap = h0) (fun _ _ _ _ _ => True) (fun _ U o U' => ∃ v L, o = .returned v ∧ Q0 Z p1 p2 p3 p4 h0 n0 v U'.heap L ∧ FrameEnd U o U' L room_1.cells room_1.slots) := by
  refine MetFree.of_bodySF (plainFor_of_name pn_0) hisR ?_
  intro p e s m args below meth c s₁ Bd hml0 hP hK
  obtain ⟨rfl, hZ, hh⟩ := hP
  have hx := Bd.exec
  have hby := Bd.bytes
  have hml : c.maxLocals = 10 := hml0
  have hown : s.vm.findClass "com/example/weather_gauge/weathergauge/game/NavalBattleScoresPinLaw" = some m.cls := findClass_of_methodNamed Bd.named
  have hnm := (name_of_methodNamed Bd.named Bd.method).1
  have X0 : Stand p l e room_1 s m #[(.int p1), (.int p2), (.int p3), (.int p4)] below meth c s₁ [] 0 0 := Stand.of_body Bd
  have e0 : s₁.heap = h0 := by rw [← hh, Bd.state]; rfl
  have N0 := Fr.nil n0
  have pre0 : ∀ t, Steps p.tables e below (s₁.setTop (mkF m 0 #[.val (.int p1), .val (.int p2), .val (.int p3), .val (.int p4), .unset, .unset, .unset, .unset, .unset, .unset] [])) t → Steps p.tables e below (s₁.setTop (entryFrame m #[(.int p1), (.int p2), (.int p3), (.int p4)] maxLocals)) t := fun t k => castTop (ef_0 m p1 p2 p3 p4) k
  -- 3. LAWS
  -- pc 77: com/example/weather_gauge/weathergauge/game/NavalBattle.scores by its contract rm1
  obtain ⟨_, _, ⟨T5, L5, k5, n5⟩, -, X5, ⟨Lc5, hQ5, l5, y5, z5⟩, st5⟩ := Jvm.LawKit.callS X0 hx (y := (⟨"com/example/weather_gauge/weathergauge/game/NavalBattle", "scores", "(III)Z"⟩ : MethodName)) hown (mvT hZ (hw _ (List.mem_of_getElem? (i := 2) rfl))) (mvT hZ (hw _ (List.mem_of_getElem? (i := 3) rfl))) (mvT hZ (hw _ (List.mem_of_getElem? (i := 4) rfl))) (mvT hZ (hw _ (List.mem_of_getElem? (i := 5) rfl))) (by decide) (backOf (W := 0) (rm1 l Z a0 hw [] p1 p2 ((((p1.toInt64) + (p2.toInt64)) + (((((p4.toUInt32 >>> ((1 : Int32) &&& 31).toUInt32).toInt32) - (((p4.toUInt32 >>> ((1 : Int32) &&& 31).toUInt32).toInt32) / (3 : Int32)) * (3 : Int32)) - (1 : Int32)).toInt64)).toInt32) h0 n0 Z0) hZ (hw _ (List.mem_of_getElem? (i := 5) rfl)) (hw _ (List.mem_of_getElem? (i := 4) rfl)) (by decide) (by decide)) (g := (mkF m 77 #[.val (.int p1), .val (.int p2), .val (.int p3), .val (.int p4), .val (.int ((((p1.toInt64) + (p2.toInt64)) + (((((p4.toUInt32 >>> ((1 : Int32) &&& 31).toUInt32).toInt32) - (((p4.toUInt32 >>> ((1 : Int32) &&& 31).toUInt32).toInt32) / (3 : Int32)) * (3 : Int32)) - (1 : Int32)).toInt64)).toInt32)), .val (.long (((((((p1.toInt64) + (p2.toInt64)) + (((((p4.toUInt32 >>> ((1 : Int32) &&& 31).toUInt32).toInt32) - (((p4.toUInt32 >>> ((1 : Int32) &&& 31).toUInt32).toInt32) / (3 : Int32)) * (3 : Int32)) - (1 : Int32)).toInt64)).toInt32).toInt64) - (p1.toInt64)) - (p2.toInt64))), .second, .val (.int (0 : Int32)), .unset, .unset] [(.int ((((p1.toInt64) + (p2.toInt64)) + (((((p4.toUInt32 >>> ((1 : Int32) &&& 31).toUInt32).toInt32) - (((p4.toUInt32 >>> ((1 : Int32) &&& 31).toUInt32).toInt32) / (3 : Int32)) * (3 : Int32)) - (1 : Int32)).toInt64)).toInt32)), (.int p2), (.int p1)])) rfl (by rw [hml]; rfl) (argsL := [(.int p1), (.int p2), (.int ((((p1.toInt64) + (p2.toInt64)) + (((((p4.toUInt32 >>> ((1 : Int32) &&& 31).toUInt32).toInt32) - (((p4.toUInt32 >>> ((1 : Int32) &&& 31).toUInt32).toInt32) / (3 : Int32)) * (3 : Int32)) - (1 : Int32)).toInt64)).toInt32))]) (rest := []) (lenOf pd_0_0 rfl) rfl (by show 2 * 0 + _ ≤ _; exact Nat.le_of_eq rfl) (hb hby at_77) (fun _ _ => ⟨rfl, e0, (by decide : 0 + 0 ≤ _), (by decide : 0 + 0 ≤ _)⟩)
  dsimp only [Pt.U, Pt.locs, Pt.cells, Pt.slots] at X5 l5 y5 z5 st5 hQ5
  subst l5 y5 z5
  obtain ⟨rfl, N5q, q5⟩ := hQ5      -- what it returned, that it wrote nothing old, and the rest of your Q1
  have H5 : n0 ≤ T5.heap.size := by rw [q5]; exact Z0
  have N5 := Fr.app N0 N5q
  -- pc 86: com/example/weather_gauge/weathergauge/game/NavalBattle.scores by its contract rm1
  obtain ⟨_, _, ⟨T6, L6, k6, n6⟩, -, X6, ⟨Lc6, hQ6, l6, y6, z6⟩, st6⟩ := Jvm.LawKit.callS X5 hx (y := (⟨"com/example/weather_gauge/weathergauge/game/NavalBattle", "scores", "(III)Z"⟩ : MethodName)) hown (mvT hZ (hw _ (List.mem_of_getElem? (i := 2) rfl))) (mvT hZ (hw _ (List.mem_of_getElem? (i := 3) rfl))) (mvT hZ (hw _ (List.mem_of_getElem? (i := 4) rfl))) (mvT hZ (hw _ (List.mem_of_getElem? (i := 5) rfl))) (by decide) (backOf (W := 0) (rm1 l Z a0 hw [] p2 p1 ((((p1.toInt64) + (p2.toInt64)) + (((((p4.toUInt32 >>> ((1 : Int32) &&& 31).toUInt32).toInt32) - (((p4.toUInt32 >>> ((1 : Int32) &&& 31).toUInt32).toInt32) / (3 : Int32)) * (3 : Int32)) - (1 : Int32)).toInt64)).toInt32) T5.heap n0 H5) hZ (hw _ (List.mem_of_getElem? (i := 5) rfl)) (hw _ (List.mem_of_getElem? (i := 4) rfl)) (by decide) (by decide)) (g := (mkF m 86 #[.val (.int p1), .val (.int p2), .val (.int p3), .val (.int p4), .val (.int ((((p1.toInt64) + (p2.toInt64)) + (((((p4.toUInt32 >>> ((1 : Int32) &&& 31).toUInt32).toInt32) - (((p4.toUInt32 >>> ((1 : Int32) &&& 31).toUInt32).toInt32) / (3 : Int32)) * (3 : Int32)) - (1 : Int32)).toInt64)).toInt32)), .val (.long (((((((p1.toInt64) + (p2.toInt64)) + (((((p4.toUInt32 >>> ((1 : Int32) &&& 31).toUInt32).toInt32) - (((p4.toUInt32 >>> ((1 : Int32) &&& 31).toUInt32).toInt32) / (3 : Int32)) * (3 : Int32)) - (1 : Int32)).toInt64)).toInt32).toInt64) - (p1.toInt64)) - (p2.toInt64))), .second, .val (.int (0 : Int32)), .val (.int (F1 p1 p2 ((((p1.toInt64) + (p2.toInt64)) + (((((p4.toUInt32 >>> ((1 : Int32) &&& 31).toUInt32).toInt32) - (((p4.toUInt32 >>> ((1 : Int32) &&& 31).toUInt32).toInt32) / (3 : Int32)) * (3 : Int32)) - (1 : Int32)).toInt64)).toInt32))), .unset] [(.int ((((p1.toInt64) + (p2.toInt64)) + (((((p4.toUInt32 >>> ((1 : Int32) &&& 31).toUInt32).toInt32) - (((p4.toUInt32 >>> ((1 : Int32) &&& 31).toUInt32).toInt32) / (3 : Int32)) * (3 : Int32)) - (1 : Int32)).toInt64)).toInt32)), (.int p1), (.int p2)])) rfl (by rw [hml]; rfl) (argsL := [(.int p2), (.int p1), (.int ((((p1.toInt64) + (p2.toInt64)) + (((((p4.toUInt32 >>> ((1 : Int32) &&& 31).toUInt32).toInt32) - (((p4.toUInt32 >>> ((1 : Int32) &&& 31).toUInt32).toInt32) / (3 : Int32)) * (3 : Int32)) - (1 : Int32)).toInt64)).toInt32))]) (rest := []) (lenOf pd_0_0 rfl) rfl (by show 2 * 0 + _ ≤ _; exact Nat.le_of_eq rfl) (hb hby at_86) (fun _ _ => ⟨rfl, rfl, (by decide : 0 + 0 ≤ _), (by decide : 0 + 0 ≤ _)⟩)
  dsimp only [Pt.U, Pt.locs, Pt.cells, Pt.slots] at X6 l6 y6 z6 st6 hQ6
  subst l6 y6 z6
  obtain ⟨rfl, N6q, q6⟩ := hQ6      -- what it returned, that it wrote nothing old, and the rest of your Q1
  have H6 : n0 ≤ T6.heap.size := by rw [q6]; exact H5
  have N6 := Fr.app N5 N6q
  obtain ⟨fs, hr, hrun, hended, hW, hsame⟩ := X6.leave (v := some (.int (1 : Int32))) (fun h => by rw [Bd.returns] at h; cases h)
  refine ⟨_, _, pre0 _ ?_, hrun, hended, _, _, rfl, ?_, ⟨_, rfl⟩, hW, hsame.mono (by decide) (by decide)⟩
  -- 4. STEPS
  · show Steps p.tables e below (s₁.setTop (mkF m 0 #[.val (.int p1), .val (.int p2), .val (.int p3), .val (.int p4), .unset, .unset, .unset, .unset, .unset, .unset] [])) _
    refine XS.iloadN X0.here hx rfl (hb hby at_0) rfl ?_
    show Steps p.tables e below (s₁.setTop (mkF m 1 #[.val (.int p1), .val (.int p2), .val (.int p3), .val (.int p4), .unset, .unset, .unset, .unset, .unset, .unset] [(.int p3)])) _
    refine XS.istore X0.here hx rfl (hb hby at_1) rfl (l' := #[.val (.int p1), .val (.int p2), .val (.int p3), .val (.int p4), .val (.int p3), .unset, .unset, .unset, .unset, .unset]) rfl ?_
    show Steps p.tables e below (s₁.setTop (mkF m 3 #[.val (.int p1), .val (.int p2), .val (.int p3), .val (.int p4), .val (.int p3), .unset, .unset, .unset, .unset, .unset] [])) _
    refine XS.iloadN X0.here hx rfl (hb hby at_3) rfl ?_
    show Steps p.tables e below (s₁.setTop (mkF m 4 #[.val (.int p1), .val (.int p2), .val (.int p3), .val (.int p4), .val (.int p3), .unset, .unset, .unset, .unset, .unset] [(.int p4)])) _
    refine XS.iconst X0.here hx rfl (hb hby at_4) ?_
    show Steps p.tables e below (s₁.setTop (mkF m 5 #[.val (.int p1), .val (.int p2), .val (.int p3), .val (.int p4), .val (.int p3), .unset, .unset, .unset, .unset, .unset] [(.int (1 : Int32)), (.int p4)])) _
    refine XS.iand X0.here hx rfl (hb hby at_5) rfl ?_
    show Steps p.tables e below (s₁.setTop (mkF m 6 #[.val (.int p1), .val (.int p2), .val (.int p3), .val (.int p4), .val (.int p3), .unset, .unset, .unset, .unset, .unset] [(.int (p4 &&& (1 : Int32)))])) _
    refine XS.ifNo X0.here hx rfl (hb hby at_6) rfl ((if0 _ _).trans (feq hc6).1) ?_
    show Steps p.tables e below (s₁.setTop (mkF m 9 #[.val (.int p1), .val (.int p2), .val (.int p3), .val (.int p4), .val (.int p3), .unset, .unset, .unset, .unset, .unset] [])) _
    refine XS.iloadN X0.here hx rfl (hb hby at_9) rfl ?_
    show Steps p.tables e below (s₁.setTop (mkF m 10 #[.val (.int p1), .val (.int p2), .val (.int p3), .val (.int p4), .val (.int p3), .unset, .unset, .unset, .unset, .unset] [(.int p1)])) _
    refine XS.i2l X0.here hx rfl (hb hby at_10) rfl ?_
    show Steps p.tables e below (s₁.setTop (mkF m 11 #[.val (.int p1), .val (.int p2), .val (.int p3), .val (.int p4), .val (.int p3), .unset, .unset, .unset, .unset, .unset] [(.long (p1.toInt64))])) _
    refine XS.iloadN X0.here hx rfl (hb hby at_11) rfl ?_
    show Steps p.tables e below (s₁.setTop (mkF m 12 #[.val (.int p1), .val (.int p2), .val (.int p3), .val (.int p4), .val (.int p3), .unset, .unset, .unset, .unset, .unset] [(.int p2), (.long (p1.toInt64))])) _
    refine XS.i2l X0.here hx rfl (hb hby at_12) rfl ?_
    show Steps p.tables e below (s₁.setTop (mkF m 13 #[.val (.int p1), .val (.int p2), .val (.int p3), .val (.int p4), .val (.int p3), .unset, .unset, .unset, .unset, .unset] [(.long (p2.toInt64)), (.long (p1.toInt64))])) _
    refine XS.ladd X0.here hx rfl (hb hby at_13) rfl ?_
    show Steps p.tables e below (s₁.setTop (mkF m 14 #[.val (.int p1), .val (.int p2), .val (.int p3), .val (.int p4), .val (.int p3), .unset, .unset, .unset, .unset, .unset] [(.long ((p1.toInt64) + (p2.toInt64)))])) _
    refine XS.iloadN X0.here hx rfl (hb hby at_14) rfl ?_
    show Steps p.tables e below (s₁.setTop (mkF m 15 #[.val (.int p1), .val (.int p2), .val (.int p3), .val (.int p4), .val (.int p3), .unset, .unset, .unset, .unset, .unset] [(.int p4), (.long ((p1.toInt64) + (p2.toInt64)))])) _
    refine XS.iconst X0.here hx rfl (hb hby at_15) ?_
    show Steps p.tables e below (s₁.setTop (mkF m 16 #[.val (.int p1), .val (.int p2), .val (.int p3), .val (.int p4), .val (.int p3), .unset, .unset, .unset, .unset, .unset] [(.int (1 : Int32)), (.int p4), (.long ((p1.toInt64) + (p2.toInt64)))])) _
    refine XS.iushr X0.here hx rfl (hb hby at_16) rfl ?_
    show Steps p.tables e below (s₁.setTop (mkF m 17 #[.val (.int p1), .val (.int p2), .val (.int p3), .val (.int p4), .val (.int p3), .unset, .unset, .unset, .unset, .unset] [(.int ((p4.toUInt32 >>> ((1 : Int32) &&& 31).toUInt32).toInt32)), (.long ((p1.toInt64) + (p2.toInt64)))])) _
    refine XS.iconst X0.here hx rfl (hb hby at_17) ?_
    show Steps p.tables e below (s₁.setTop (mkF m 18 #[.val (.int p1), .val (.int p2), .val (.int p3), .val (.int p4), .val (.int p3), .unset, .unset, .unset, .unset, .unset] [(.int (3 : Int32)), (.int ((p4.toUInt32 >>> ((1 : Int32) &&& 31).toUInt32).toInt32)), (.long ((p1.toInt64) + (p2.toInt64)))])) _
    refine XS.irem X0.here hx rfl (hb hby at_18) rfl (by decide) ?_
    show Steps p.tables e below (s₁.setTop (mkF m 19 #[.val (.int p1), .val (.int p2), .val (.int p3), .val (.int p4), .val (.int p3), .unset, .unset, .unset, .unset, .unset] [(.int (((p4.toUInt32 >>> ((1 : Int32) &&& 31).toUInt32).toInt32) - (((p4.toUInt32 >>> ((1 : Int32) &&& 31).toUInt32).toInt32) / (3 : Int32)) * (3 : Int32))), (.long ((p1.toInt64) + (p2.toInt64)))])) _
    refine XS.iconst X0.here hx rfl (hb hby at_19) ?_
    show Steps p.tables e below (s₁.setTop (mkF m 20 #[.val (.int p1), .val (.int p2), .val (.int p3), .val (.int p4), .val (.int p3), .unset, .unset, .unset, .unset, .unset] [(.int (1 : Int32)), (.int (((p4.toUInt32 >>> ((1 : Int32) &&& 31).toUInt32).toInt32) - (((p4.toUInt32 >>> ((1 : Int32) &&& 31).toUInt32).toInt32) / (3 : Int32)) * (3 : Int32))), (.long ((p1.toInt64) + (p2.toInt64)))])) _
    refine XS.isub X0.here hx rfl (hb hby at_20) rfl ?_
    show Steps p.tables e below (s₁.setTop (mkF m 21 #[.val (.int p1), .val (.int p2), .val (.int p3), .val (.int p4), .val (.int p3), .unset, .unset, .unset, .unset, .unset] [(.int ((((p4.toUInt32 >>> ((1 : Int32) &&& 31).toUInt32).toInt32) - (((p4.toUInt32 >>> ((1 : Int32) &&& 31).toUInt32).toInt32) / (3 : Int32)) * (3 : Int32)) - (1 : Int32))), (.long ((p1.toInt64) + (p2.toInt64)))])) _
    refine XS.i2l X0.here hx rfl (hb hby at_21) rfl ?_
    show Steps p.tables e below (s₁.setTop (mkF m 22 #[.val (.int p1), .val (.int p2), .val (.int p3), .val (.int p4), .val (.int p3), .unset, .unset, .unset, .unset, .unset] [(.long (((((p4.toUInt32 >>> ((1 : Int32) &&& 31).toUInt32).toInt32) - (((p4.toUInt32 >>> ((1 : Int32) &&& 31).toUInt32).toInt32) / (3 : Int32)) * (3 : Int32)) - (1 : Int32)).toInt64)), (.long ((p1.toInt64) + (p2.toInt64)))])) _
    refine XS.ladd X0.here hx rfl (hb hby at_22) rfl ?_
    show Steps p.tables e below (s₁.setTop (mkF m 23 #[.val (.int p1), .val (.int p2), .val (.int p3), .val (.int p4), .val (.int p3), .unset, .unset, .unset, .unset, .unset] [(.long (((p1.toInt64) + (p2.toInt64)) + (((((p4.toUInt32 >>> ((1 : Int32) &&& 31).toUInt32).toInt32) - (((p4.toUInt32 >>> ((1 : Int32) &&& 31).toUInt32).toInt32) / (3 : Int32)) * (3 : Int32)) - (1 : Int32)).toInt64)))])) _
    refine XS.lstore X0.here hx rfl (hb hby at_23) rfl (l' := #[.val (.int p1), .val (.int p2), .val (.int p3), .val (.int p4), .val (.int p3), .val (.long (((p1.toInt64) + (p2.toInt64)) + (((((p4.toUInt32 >>> ((1 : Int32) &&& 31).toUInt32).toInt32) - (((p4.toUInt32 >>> ((1 : Int32) &&& 31).toUInt32).toInt32) / (3 : Int32)) * (3 : Int32)) - (1 : Int32)).toInt64))), .second, .unset, .unset, .unset]) rfl ?_
    show Steps p.tables e below (s₁.setTop (mkF m 25 #[.val (.int p1), .val (.int p2), .val (.int p3), .val (.int p4), .val (.int p3), .val (.long (((p1.toInt64) + (p2.toInt64)) + (((((p4.toUInt32 >>> ((1 : Int32) &&& 31).toUInt32).toInt32) - (((p4.toUInt32 >>> ((1 : Int32) &&& 31).toUInt32).toInt32) / (3 : Int32)) * (3 : Int32)) - (1 : Int32)).toInt64))), .second, .unset, .unset, .unset] [])) _
    refine XS.lload X0.here hx rfl (hb hby at_25) rfl ?_
    show Steps p.tables e below (s₁.setTop (mkF m 27 #[.val (.int p1), .val (.int p2), .val (.int p3), .val (.int p4), .val (.int p3), .val (.long (((p1.toInt64) + (p2.toInt64)) + (((((p4.toUInt32 >>> ((1 : Int32) &&& 31).toUInt32).toInt32) - (((p4.toUInt32 >>> ((1 : Int32) &&& 31).toUInt32).toInt32) / (3 : Int32)) * (3 : Int32)) - (1 : Int32)).toInt64))), .second, .unset, .unset, .unset] [(.long (((p1.toInt64) + (p2.toInt64)) + (((((p4.toUInt32 >>> ((1 : Int32) &&& 31).toUInt32).toInt32) - (((p4.toUInt32 >>> ((1 : Int32) &&& 31).toUInt32).toInt32) / (3 : Int32)) * (3 : Int32)) - (1 : Int32)).toInt64)))])) _
    refine X0.ldc2Long hx hown (mvT hZ (hw _ (List.mem_of_getElem? (i := 0) rfl))) (g := (mkF m 27 #[.val (.int p1), .val (.int p2), .val (.int p3), .val (.int p4), .val (.int p3), .val (.long (((p1.toInt64) + (p2.toInt64)) + (((((p4.toUInt32 >>> ((1 : Int32) &&& 31).toUInt32).toInt32) - (((p4.toUInt32 >>> ((1 : Int32) &&& 31).toUInt32).toInt32) / (3 : Int32)) * (3 : Int32)) - (1 : Int32)).toInt64))), .second, .unset, .unset, .unset] [(.long (((p1.toInt64) + (p2.toInt64)) + (((((p4.toUInt32 >>> ((1 : Int32) &&& 31).toUInt32).toInt32) - (((p4.toUInt32 >>> ((1 : Int32) &&& 31).toUInt32).toInt32) / (3 : Int32)) * (3 : Int32)) - (1 : Int32)).toInt64)))])) rfl (hb hby at_27) _ ?_
    show Steps p.tables e below (s₁.setTop (mkF m 30 #[.val (.int p1), .val (.int p2), .val (.int p3), .val (.int p4), .val (.int p3), .val (.long (((p1.toInt64) + (p2.toInt64)) + (((((p4.toUInt32 >>> ((1 : Int32) &&& 31).toUInt32).toInt32) - (((p4.toUInt32 >>> ((1 : Int32) &&& 31).toUInt32).toInt32) / (3 : Int32)) * (3 : Int32)) - (1 : Int32)).toInt64))), .second, .unset, .unset, .unset] [(.long (-2147483648 : Int64)), (.long (((p1.toInt64) + (p2.toInt64)) + (((((p4.toUInt32 >>> ((1 : Int32) &&& 31).toUInt32).toInt32) - (((p4.toUInt32 >>> ((1 : Int32) &&& 31).toUInt32).toInt32) / (3 : Int32)) * (3 : Int32)) - (1 : Int32)).toInt64)))])) _
    refine XS.lcmp X0.here hx rfl (hb hby at_30) rfl ?_
    show Steps p.tables e below (s₁.setTop (mkF m 31 #[.val (.int p1), .val (.int p2), .val (.int p3), .val (.int p4), .val (.int p3), .val (.long (((p1.toInt64) + (p2.toInt64)) + (((((p4.toUInt32 >>> ((1 : Int32) &&& 31).toUInt32).toInt32) - (((p4.toUInt32 >>> ((1 : Int32) &&& 31).toUInt32).toInt32) / (3 : Int32)) * (3 : Int32)) - (1 : Int32)).toInt64))), .second, .unset, .unset, .unset] [(.int (lcmpW (((p1.toInt64) + (p2.toInt64)) + (((((p4.toUInt32 >>> ((1 : Int32) &&& 31).toUInt32).toInt32) - (((p4.toUInt32 >>> ((1 : Int32) &&& 31).toUInt32).toInt32) / (3 : Int32)) * (3 : Int32)) - (1 : Int32)).toInt64)) (-2147483648 : Int64)))])) _
    refine XS.ifNo X0.here hx rfl (hb hby at_31) rfl ((if0 _ _).trans (flt hc31).1) ?_
    show Steps p.tables e below (s₁.setTop (mkF m 34 #[.val (.int p1), .val (.int p2), .val (.int p3), .val (.int p4), .val (.int p3), .val (.long (((p1.toInt64) + (p2.toInt64)) + (((((p4.toUInt32 >>> ((1 : Int32) &&& 31).toUInt32).toInt32) - (((p4.toUInt32 >>> ((1 : Int32) &&& 31).toUInt32).toInt32) / (3 : Int32)) * (3 : Int32)) - (1 : Int32)).toInt64))), .second, .unset, .unset, .unset] [])) _
    refine XS.lload X0.here hx rfl (hb hby at_34) rfl ?_
    show Steps p.tables e below (s₁.setTop (mkF m 36 #[.val (.int p1), .val (.int p2), .val (.int p3), .val (.int p4), .val (.int p3), .val (.long (((p1.toInt64) + (p2.toInt64)) + (((((p4.toUInt32 >>> ((1 : Int32) &&& 31).toUInt32).toInt32) - (((p4.toUInt32 >>> ((1 : Int32) &&& 31).toUInt32).toInt32) / (3 : Int32)) * (3 : Int32)) - (1 : Int32)).toInt64))), .second, .unset, .unset, .unset] [(.long (((p1.toInt64) + (p2.toInt64)) + (((((p4.toUInt32 >>> ((1 : Int32) &&& 31).toUInt32).toInt32) - (((p4.toUInt32 >>> ((1 : Int32) &&& 31).toUInt32).toInt32) / (3 : Int32)) * (3 : Int32)) - (1 : Int32)).toInt64)))])) _
    refine X0.ldc2Long hx hown (mvT hZ (hw _ (List.mem_of_getElem? (i := 1) rfl))) (g := (mkF m 36 #[.val (.int p1), .val (.int p2), .val (.int p3), .val (.int p4), .val (.int p3), .val (.long (((p1.toInt64) + (p2.toInt64)) + (((((p4.toUInt32 >>> ((1 : Int32) &&& 31).toUInt32).toInt32) - (((p4.toUInt32 >>> ((1 : Int32) &&& 31).toUInt32).toInt32) / (3 : Int32)) * (3 : Int32)) - (1 : Int32)).toInt64))), .second, .unset, .unset, .unset] [(.long (((p1.toInt64) + (p2.toInt64)) + (((((p4.toUInt32 >>> ((1 : Int32) &&& 31).toUInt32).toInt32) - (((p4.toUInt32 >>> ((1 : Int32) &&& 31).toUInt32).toInt32) / (3 : Int32)) * (3 : Int32)) - (1 : Int32)).toInt64)))])) rfl (hb hby at_36) _ ?_
    show Steps p.tables e below (s₁.setTop (mkF m 39 #[.val (.int p1), .val (.int p2), .val (.int p3), .val (.int p4), .val (.int p3), .val (.long (((p1.toInt64) + (p2.toInt64)) + (((((p4.toUInt32 >>> ((1 : Int32) &&& 31).toUInt32).toInt32) - (((p4.toUInt32 >>> ((1 : Int32) &&& 31).toUInt32).toInt32) / (3 : Int32)) * (3 : Int32)) - (1 : Int32)).toInt64))), .second, .unset, .unset, .unset] [(.long (2147483647 : Int64)), (.long (((p1.toInt64) + (p2.toInt64)) + (((((p4.toUInt32 >>> ((1 : Int32) &&& 31).toUInt32).toInt32) - (((p4.toUInt32 >>> ((1 : Int32) &&& 31).toUInt32).toInt32) / (3 : Int32)) * (3 : Int32)) - (1 : Int32)).toInt64)))])) _
    refine XS.lcmp X0.here hx rfl (hb hby at_39) rfl ?_
    show Steps p.tables e below (s₁.setTop (mkF m 40 #[.val (.int p1), .val (.int p2), .val (.int p3), .val (.int p4), .val (.int p3), .val (.long (((p1.toInt64) + (p2.toInt64)) + (((((p4.toUInt32 >>> ((1 : Int32) &&& 31).toUInt32).toInt32) - (((p4.toUInt32 >>> ((1 : Int32) &&& 31).toUInt32).toInt32) / (3 : Int32)) * (3 : Int32)) - (1 : Int32)).toInt64))), .second, .unset, .unset, .unset] [(.int (lcmpW (((p1.toInt64) + (p2.toInt64)) + (((((p4.toUInt32 >>> ((1 : Int32) &&& 31).toUInt32).toInt32) - (((p4.toUInt32 >>> ((1 : Int32) &&& 31).toUInt32).toInt32) / (3 : Int32)) * (3 : Int32)) - (1 : Int32)).toInt64)) (2147483647 : Int64)))])) _
    refine XS.ifNo X0.here hx rfl (hb hby at_40) rfl ((if0 _ _).trans (flt hc40).2.2.1) ?_
    show Steps p.tables e below (s₁.setTop (mkF m 43 #[.val (.int p1), .val (.int p2), .val (.int p3), .val (.int p4), .val (.int p3), .val (.long (((p1.toInt64) + (p2.toInt64)) + (((((p4.toUInt32 >>> ((1 : Int32) &&& 31).toUInt32).toInt32) - (((p4.toUInt32 >>> ((1 : Int32) &&& 31).toUInt32).toInt32) / (3 : Int32)) * (3 : Int32)) - (1 : Int32)).toInt64))), .second, .unset, .unset, .unset] [])) _
    refine XS.lload X0.here hx rfl (hb hby at_43) rfl ?_
    show Steps p.tables e below (s₁.setTop (mkF m 45 #[.val (.int p1), .val (.int p2), .val (.int p3), .val (.int p4), .val (.int p3), .val (.long (((p1.toInt64) + (p2.toInt64)) + (((((p4.toUInt32 >>> ((1 : Int32) &&& 31).toUInt32).toInt32) - (((p4.toUInt32 >>> ((1 : Int32) &&& 31).toUInt32).toInt32) / (3 : Int32)) * (3 : Int32)) - (1 : Int32)).toInt64))), .second, .unset, .unset, .unset] [(.long (((p1.toInt64) + (p2.toInt64)) + (((((p4.toUInt32 >>> ((1 : Int32) &&& 31).toUInt32).toInt32) - (((p4.toUInt32 >>> ((1 : Int32) &&& 31).toUInt32).toInt32) / (3 : Int32)) * (3 : Int32)) - (1 : Int32)).toInt64)))])) _
    refine XS.l2i X0.here hx rfl (hb hby at_45) rfl ?_
    show Steps p.tables e below (s₁.setTop (mkF m 46 #[.val (.int p1), .val (.int p2), .val (.int p3), .val (.int p4), .val (.int p3), .val (.long (((p1.toInt64) + (p2.toInt64)) + (((((p4.toUInt32 >>> ((1 : Int32) &&& 31).toUInt32).toInt32) - (((p4.toUInt32 >>> ((1 : Int32) &&& 31).toUInt32).toInt32) / (3 : Int32)) * (3 : Int32)) - (1 : Int32)).toInt64))), .second, .unset, .unset, .unset] [(.int ((((p1.toInt64) + (p2.toInt64)) + (((((p4.toUInt32 >>> ((1 : Int32) &&& 31).toUInt32).toInt32) - (((p4.toUInt32 >>> ((1 : Int32) &&& 31).toUInt32).toInt32) / (3 : Int32)) * (3 : Int32)) - (1 : Int32)).toInt64)).toInt32))])) _
    refine XS.istore X0.here hx rfl (hb hby at_46) rfl (l' := #[.val (.int p1), .val (.int p2), .val (.int p3), .val (.int p4), .val (.int ((((p1.toInt64) + (p2.toInt64)) + (((((p4.toUInt32 >>> ((1 : Int32) &&& 31).toUInt32).toInt32) - (((p4.toUInt32 >>> ((1 : Int32) &&& 31).toUInt32).toInt32) / (3 : Int32)) * (3 : Int32)) - (1 : Int32)).toInt64)).toInt32)), .val (.long (((p1.toInt64) + (p2.toInt64)) + (((((p4.toUInt32 >>> ((1 : Int32) &&& 31).toUInt32).toInt32) - (((p4.toUInt32 >>> ((1 : Int32) &&& 31).toUInt32).toInt32) / (3 : Int32)) * (3 : Int32)) - (1 : Int32)).toInt64))), .second, .unset, .unset, .unset]) rfl ?_
    show Steps p.tables e below (s₁.setTop (mkF m 48 #[.val (.int p1), .val (.int p2), .val (.int p3), .val (.int p4), .val (.int ((((p1.toInt64) + (p2.toInt64)) + (((((p4.toUInt32 >>> ((1 : Int32) &&& 31).toUInt32).toInt32) - (((p4.toUInt32 >>> ((1 : Int32) &&& 31).toUInt32).toInt32) / (3 : Int32)) * (3 : Int32)) - (1 : Int32)).toInt64)).toInt32)), .val (.long (((p1.toInt64) + (p2.toInt64)) + (((((p4.toUInt32 >>> ((1 : Int32) &&& 31).toUInt32).toInt32) - (((p4.toUInt32 >>> ((1 : Int32) &&& 31).toUInt32).toInt32) / (3 : Int32)) * (3 : Int32)) - (1 : Int32)).toInt64))), .second, .unset, .unset, .unset] [])) _
    refine XS.iload X0.here hx rfl (hb hby at_48) rfl ?_
    show Steps p.tables e below (s₁.setTop (mkF m 50 #[.val (.int p1), .val (.int p2), .val (.int p3), .val (.int p4), .val (.int ((((p1.toInt64) + (p2.toInt64)) + (((((p4.toUInt32 >>> ((1 : Int32) &&& 31).toUInt32).toInt32) - (((p4.toUInt32 >>> ((1 : Int32) &&& 31).toUInt32).toInt32) / (3 : Int32)) * (3 : Int32)) - (1 : Int32)).toInt64)).toInt32)), .val (.long (((p1.toInt64) + (p2.toInt64)) + (((((p4.toUInt32 >>> ((1 : Int32) &&& 31).toUInt32).toInt32) - (((p4.toUInt32 >>> ((1 : Int32) &&& 31).toUInt32).toInt32) / (3 : Int32)) * (3 : Int32)) - (1 : Int32)).toInt64))), .second, .unset, .unset, .unset] [(.int ((((p1.toInt64) + (p2.toInt64)) + (((((p4.toUInt32 >>> ((1 : Int32) &&& 31).toUInt32).toInt32) - (((p4.toUInt32 >>> ((1 : Int32) &&& 31).toUInt32).toInt32) / (3 : Int32)) * (3 : Int32)) - (1 : Int32)).toInt64)).toInt32))])) _
    refine XS.i2l X0.here hx rfl (hb hby at_50) rfl ?_
    show Steps p.tables e below (s₁.setTop (mkF m 51 #[.val (.int p1), .val (.int p2), .val (.int p3), .val (.int p4), .val (.int ((((p1.toInt64) + (p2.toInt64)) + (((((p4.toUInt32 >>> ((1 : Int32) &&& 31).toUInt32).toInt32) - (((p4.toUInt32 >>> ((1 : Int32) &&& 31).toUInt32).toInt32) / (3 : Int32)) * (3 : Int32)) - (1 : Int32)).toInt64)).toInt32)), .val (.long (((p1.toInt64) + (p2.toInt64)) + (((((p4.toUInt32 >>> ((1 : Int32) &&& 31).toUInt32).toInt32) - (((p4.toUInt32 >>> ((1 : Int32) &&& 31).toUInt32).toInt32) / (3 : Int32)) * (3 : Int32)) - (1 : Int32)).toInt64))), .second, .unset, .unset, .unset] [(.long (((((p1.toInt64) + (p2.toInt64)) + (((((p4.toUInt32 >>> ((1 : Int32) &&& 31).toUInt32).toInt32) - (((p4.toUInt32 >>> ((1 : Int32) &&& 31).toUInt32).toInt32) / (3 : Int32)) * (3 : Int32)) - (1 : Int32)).toInt64)).toInt32).toInt64))])) _
    refine XS.iloadN X0.here hx rfl (hb hby at_51) rfl ?_
    show Steps p.tables e below (s₁.setTop (mkF m 52 #[.val (.int p1), .val (.int p2), .val (.int p3), .val (.int p4), .val (.int ((((p1.toInt64) + (p2.toInt64)) + (((((p4.toUInt32 >>> ((1 : Int32) &&& 31).toUInt32).toInt32) - (((p4.toUInt32 >>> ((1 : Int32) &&& 31).toUInt32).toInt32) / (3 : Int32)) * (3 : Int32)) - (1 : Int32)).toInt64)).toInt32)), .val (.long (((p1.toInt64) + (p2.toInt64)) + (((((p4.toUInt32 >>> ((1 : Int32) &&& 31).toUInt32).toInt32) - (((p4.toUInt32 >>> ((1 : Int32) &&& 31).toUInt32).toInt32) / (3 : Int32)) * (3 : Int32)) - (1 : Int32)).toInt64))), .second, .unset, .unset, .unset] [(.int p1), (.long (((((p1.toInt64) + (p2.toInt64)) + (((((p4.toUInt32 >>> ((1 : Int32) &&& 31).toUInt32).toInt32) - (((p4.toUInt32 >>> ((1 : Int32) &&& 31).toUInt32).toInt32) / (3 : Int32)) * (3 : Int32)) - (1 : Int32)).toInt64)).toInt32).toInt64))])) _
    refine XS.i2l X0.here hx rfl (hb hby at_52) rfl ?_
    show Steps p.tables e below (s₁.setTop (mkF m 53 #[.val (.int p1), .val (.int p2), .val (.int p3), .val (.int p4), .val (.int ((((p1.toInt64) + (p2.toInt64)) + (((((p4.toUInt32 >>> ((1 : Int32) &&& 31).toUInt32).toInt32) - (((p4.toUInt32 >>> ((1 : Int32) &&& 31).toUInt32).toInt32) / (3 : Int32)) * (3 : Int32)) - (1 : Int32)).toInt64)).toInt32)), .val (.long (((p1.toInt64) + (p2.toInt64)) + (((((p4.toUInt32 >>> ((1 : Int32) &&& 31).toUInt32).toInt32) - (((p4.toUInt32 >>> ((1 : Int32) &&& 31).toUInt32).toInt32) / (3 : Int32)) * (3 : Int32)) - (1 : Int32)).toInt64))), .second, .unset, .unset, .unset] [(.long (p1.toInt64)), (.long (((((p1.toInt64) + (p2.toInt64)) + (((((p4.toUInt32 >>> ((1 : Int32) &&& 31).toUInt32).toInt32) - (((p4.toUInt32 >>> ((1 : Int32) &&& 31).toUInt32).toInt32) / (3 : Int32)) * (3 : Int32)) - (1 : Int32)).toInt64)).toInt32).toInt64))])) _
    refine XS.lsub X0.here hx rfl (hb hby at_53) rfl ?_
    show Steps p.tables e below (s₁.setTop (mkF m 54 #[.val (.int p1), .val (.int p2), .val (.int p3), .val (.int p4), .val (.int ((((p1.toInt64) + (p2.toInt64)) + (((((p4.toUInt32 >>> ((1 : Int32) &&& 31).toUInt32).toInt32) - (((p4.toUInt32 >>> ((1 : Int32) &&& 31).toUInt32).toInt32) / (3 : Int32)) * (3 : Int32)) - (1 : Int32)).toInt64)).toInt32)), .val (.long (((p1.toInt64) + (p2.toInt64)) + (((((p4.toUInt32 >>> ((1 : Int32) &&& 31).toUInt32).toInt32) - (((p4.toUInt32 >>> ((1 : Int32) &&& 31).toUInt32).toInt32) / (3 : Int32)) * (3 : Int32)) - (1 : Int32)).toInt64))), .second, .unset, .unset, .unset] [(.long ((((((p1.toInt64) + (p2.toInt64)) + (((((p4.toUInt32 >>> ((1 : Int32) &&& 31).toUInt32).toInt32) - (((p4.toUInt32 >>> ((1 : Int32) &&& 31).toUInt32).toInt32) / (3 : Int32)) * (3 : Int32)) - (1 : Int32)).toInt64)).toInt32).toInt64) - (p1.toInt64)))])) _
    refine XS.iloadN X0.here hx rfl (hb hby at_54) rfl ?_
    show Steps p.tables e below (s₁.setTop (mkF m 55 #[.val (.int p1), .val (.int p2), .val (.int p3), .val (.int p4), .val (.int ((((p1.toInt64) + (p2.toInt64)) + (((((p4.toUInt32 >>> ((1 : Int32) &&& 31).toUInt32).toInt32) - (((p4.toUInt32 >>> ((1 : Int32) &&& 31).toUInt32).toInt32) / (3 : Int32)) * (3 : Int32)) - (1 : Int32)).toInt64)).toInt32)), .val (.long (((p1.toInt64) + (p2.toInt64)) + (((((p4.toUInt32 >>> ((1 : Int32) &&& 31).toUInt32).toInt32) - (((p4.toUInt32 >>> ((1 : Int32) &&& 31).toUInt32).toInt32) / (3 : Int32)) * (3 : Int32)) - (1 : Int32)).toInt64))), .second, .unset, .unset, .unset] [(.int p2), (.long ((((((p1.toInt64) + (p2.toInt64)) + (((((p4.toUInt32 >>> ((1 : Int32) &&& 31).toUInt32).toInt32) - (((p4.toUInt32 >>> ((1 : Int32) &&& 31).toUInt32).toInt32) / (3 : Int32)) * (3 : Int32)) - (1 : Int32)).toInt64)).toInt32).toInt64) - (p1.toInt64)))])) _
    refine XS.i2l X0.here hx rfl (hb hby at_55) rfl ?_
    show Steps p.tables e below (s₁.setTop (mkF m 56 #[.val (.int p1), .val (.int p2), .val (.int p3), .val (.int p4), .val (.int ((((p1.toInt64) + (p2.toInt64)) + (((((p4.toUInt32 >>> ((1 : Int32) &&& 31).toUInt32).toInt32) - (((p4.toUInt32 >>> ((1 : Int32) &&& 31).toUInt32).toInt32) / (3 : Int32)) * (3 : Int32)) - (1 : Int32)).toInt64)).toInt32)), .val (.long (((p1.toInt64) + (p2.toInt64)) + (((((p4.toUInt32 >>> ((1 : Int32) &&& 31).toUInt32).toInt32) - (((p4.toUInt32 >>> ((1 : Int32) &&& 31).toUInt32).toInt32) / (3 : Int32)) * (3 : Int32)) - (1 : Int32)).toInt64))), .second, .unset, .unset, .unset] [(.long (p2.toInt64)), (.long ((((((p1.toInt64) + (p2.toInt64)) + (((((p4.toUInt32 >>> ((1 : Int32) &&& 31).toUInt32).toInt32) - (((p4.toUInt32 >>> ((1 : Int32) &&& 31).toUInt32).toInt32) / (3 : Int32)) * (3 : Int32)) - (1 : Int32)).toInt64)).toInt32).toInt64) - (p1.toInt64)))])) _
    refine XS.lsub X0.here hx rfl (hb hby at_56) rfl ?_
    show Steps p.tables e below (s₁.setTop (mkF m 57 #[.val (.int p1), .val (.int p2), .val (.int p3), .val (.int p4), .val (.int ((((p1.toInt64) + (p2.toInt64)) + (((((p4.toUInt32 >>> ((1 : Int32) &&& 31).toUInt32).toInt32) - (((p4.toUInt32 >>> ((1 : Int32) &&& 31).toUInt32).toInt32) / (3 : Int32)) * (3 : Int32)) - (1 : Int32)).toInt64)).toInt32)), .val (.long (((p1.toInt64) + (p2.toInt64)) + (((((p4.toUInt32 >>> ((1 : Int32) &&& 31).toUInt32).toInt32) - (((p4.toUInt32 >>> ((1 : Int32) &&& 31).toUInt32).toInt32) / (3 : Int32)) * (3 : Int32)) - (1 : Int32)).toInt64))), .second, .unset, .unset, .unset] [(.long (((((((p1.toInt64) + (p2.toInt64)) + (((((p4.toUInt32 >>> ((1 : Int32) &&& 31).toUInt32).toInt32) - (((p4.toUInt32 >>> ((1 : Int32) &&& 31).toUInt32).toInt32) / (3 : Int32)) * (3 : Int32)) - (1 : Int32)).toInt64)).toInt32).toInt64) - (p1.toInt64)) - (p2.toInt64)))])) _
    refine XS.lstore X0.here hx rfl (hb hby at_57) rfl (l' := #[.val (.int p1), .val (.int p2), .val (.int p3), .val (.int p4), .val (.int ((((p1.toInt64) + (p2.toInt64)) + (((((p4.toUInt32 >>> ((1 : Int32) &&& 31).toUInt32).toInt32) - (((p4.toUInt32 >>> ((1 : Int32) &&& 31).toUInt32).toInt32) / (3 : Int32)) * (3 : Int32)) - (1 : Int32)).toInt64)).toInt32)), .val (.long (((((((p1.toInt64) + (p2.toInt64)) + (((((p4.toUInt32 >>> ((1 : Int32) &&& 31).toUInt32).toInt32) - (((p4.toUInt32 >>> ((1 : Int32) &&& 31).toUInt32).toInt32) / (3 : Int32)) * (3 : Int32)) - (1 : Int32)).toInt64)).toInt32).toInt64) - (p1.toInt64)) - (p2.toInt64))), .second, .unset, .unset, .unset]) rfl ?_
    show Steps p.tables e below (s₁.setTop (mkF m 59 #[.val (.int p1), .val (.int p2), .val (.int p3), .val (.int p4), .val (.int ((((p1.toInt64) + (p2.toInt64)) + (((((p4.toUInt32 >>> ((1 : Int32) &&& 31).toUInt32).toInt32) - (((p4.toUInt32 >>> ((1 : Int32) &&& 31).toUInt32).toInt32) / (3 : Int32)) * (3 : Int32)) - (1 : Int32)).toInt64)).toInt32)), .val (.long (((((((p1.toInt64) + (p2.toInt64)) + (((((p4.toUInt32 >>> ((1 : Int32) &&& 31).toUInt32).toInt32) - (((p4.toUInt32 >>> ((1 : Int32) &&& 31).toUInt32).toInt32) / (3 : Int32)) * (3 : Int32)) - (1 : Int32)).toInt64)).toInt32).toInt64) - (p1.toInt64)) - (p2.toInt64))), .second, .unset, .unset, .unset] [])) _
    refine XS.lload X0.here hx rfl (hb hby at_59) rfl ?_
    show Steps p.tables e below (s₁.setTop (mkF m 61 #[.val (.int p1), .val (.int p2), .val (.int p3), .val (.int p4), .val (.int ((((p1.toInt64) + (p2.toInt64)) + (((((p4.toUInt32 >>> ((1 : Int32) &&& 31).toUInt32).toInt32) - (((p4.toUInt32 >>> ((1 : Int32) &&& 31).toUInt32).toInt32) / (3 : Int32)) * (3 : Int32)) - (1 : Int32)).toInt64)).toInt32)), .val (.long (((((((p1.toInt64) + (p2.toInt64)) + (((((p4.toUInt32 >>> ((1 : Int32) &&& 31).toUInt32).toInt32) - (((p4.toUInt32 >>> ((1 : Int32) &&& 31).toUInt32).toInt32) / (3 : Int32)) * (3 : Int32)) - (1 : Int32)).toInt64)).toInt32).toInt64) - (p1.toInt64)) - (p2.toInt64))), .second, .unset, .unset, .unset] [(.long (((((((p1.toInt64) + (p2.toInt64)) + (((((p4.toUInt32 >>> ((1 : Int32) &&& 31).toUInt32).toInt32) - (((p4.toUInt32 >>> ((1 : Int32) &&& 31).toUInt32).toInt32) / (3 : Int32)) * (3 : Int32)) - (1 : Int32)).toInt64)).toInt32).toInt64) - (p1.toInt64)) - (p2.toInt64)))])) _
    refine XS.lconst X0.here hx rfl (hb hby at_61) ?_
    show Steps p.tables e below (s₁.setTop (mkF m 62 #[.val (.int p1), .val (.int p2), .val (.int p3), .val (.int p4), .val (.int ((((p1.toInt64) + (p2.toInt64)) + (((((p4.toUInt32 >>> ((1 : Int32) &&& 31).toUInt32).toInt32) - (((p4.toUInt32 >>> ((1 : Int32) &&& 31).toUInt32).toInt32) / (3 : Int32)) * (3 : Int32)) - (1 : Int32)).toInt64)).toInt32)), .val (.long (((((((p1.toInt64) + (p2.toInt64)) + (((((p4.toUInt32 >>> ((1 : Int32) &&& 31).toUInt32).toInt32) - (((p4.toUInt32 >>> ((1 : Int32) &&& 31).toUInt32).toInt32) / (3 : Int32)) * (3 : Int32)) - (1 : Int32)).toInt64)).toInt32).toInt64) - (p1.toInt64)) - (p2.toInt64))), .second, .unset, .unset, .unset] [(.long (0 : Int64)), (.long (((((((p1.toInt64) + (p2.toInt64)) + (((((p4.toUInt32 >>> ((1 : Int32) &&& 31).toUInt32).toInt32) - (((p4.toUInt32 >>> ((1 : Int32) &&& 31).toUInt32).toInt32) / (3 : Int32)) * (3 : Int32)) - (1 : Int32)).toInt64)).toInt32).toInt64) - (p1.toInt64)) - (p2.toInt64)))])) _
    refine XS.lcmp X0.here hx rfl (hb hby at_62) rfl ?_
    show Steps p.tables e below (s₁.setTop (mkF m 63 #[.val (.int p1), .val (.int p2), .val (.int p3), .val (.int p4), .val (.int ((((p1.toInt64) + (p2.toInt64)) + (((((p4.toUInt32 >>> ((1 : Int32) &&& 31).toUInt32).toInt32) - (((p4.toUInt32 >>> ((1 : Int32) &&& 31).toUInt32).toInt32) / (3 : Int32)) * (3 : Int32)) - (1 : Int32)).toInt64)).toInt32)), .val (.long (((((((p1.toInt64) + (p2.toInt64)) + (((((p4.toUInt32 >>> ((1 : Int32) &&& 31).toUInt32).toInt32) - (((p4.toUInt32 >>> ((1 : Int32) &&& 31).toUInt32).toInt32) / (3 : Int32)) * (3 : Int32)) - (1 : Int32)).toInt64)).toInt32).toInt64) - (p1.toInt64)) - (p2.toInt64))), .second, .unset, .unset, .unset] [(.int (lcmpW (((((((p1.toInt64) + (p2.toInt64)) + (((((p4.toUInt32 >>> ((1 : Int32) &&& 31).toUInt32).toInt32) - (((p4.toUInt32 >>> ((1 : Int32) &&& 31).toUInt32).toInt32) / (3 : Int32)) * (3 : Int32)) - (1 : Int32)).toInt64)).toInt32).toInt64) - (p1.toInt64)) - (p2.toInt64)) (0 : Int64)))])) _
    refine XS.ifYes X0.here hx rfl (pc0 := 63) (pc' := 70) rfl (hb hby at_63) rfl ((if0 _ _).trans (tlt hc63).1) (by decide) (by decide) ?_
    show Steps p.tables e below (s₁.setTop (mkF m 70 #[.val (.int p1), .val (.int p2), .val (.int p3), .val (.int p4), .val (.int ((((p1.toInt64) + (p2.toInt64)) + (((((p4.toUInt32 >>> ((1 : Int32) &&& 31).toUInt32).toInt32) - (((p4.toUInt32 >>> ((1 : Int32) &&& 31).toUInt32).toInt32) / (3 : Int32)) * (3 : Int32)) - (1 : Int32)).toInt64)).toInt32)), .val (.long (((((((p1.toInt64) + (p2.toInt64)) + (((((p4.toUInt32 >>> ((1 : Int32) &&& 31).toUInt32).toInt32) - (((p4.toUInt32 >>> ((1 : Int32) &&& 31).toUInt32).toInt32) / (3 : Int32)) * (3 : Int32)) - (1 : Int32)).toInt64)).toInt32).toInt64) - (p1.toInt64)) - (p2.toInt64))), .second, .unset, .unset, .unset] [])) _
    refine XS.iconst X0.here hx rfl (hb hby at_70) ?_
    show Steps p.tables e below (s₁.setTop (mkF m 71 #[.val (.int p1), .val (.int p2), .val (.int p3), .val (.int p4), .val (.int ((((p1.toInt64) + (p2.toInt64)) + (((((p4.toUInt32 >>> ((1 : Int32) &&& 31).toUInt32).toInt32) - (((p4.toUInt32 >>> ((1 : Int32) &&& 31).toUInt32).toInt32) / (3 : Int32)) * (3 : Int32)) - (1 : Int32)).toInt64)).toInt32)), .val (.long (((((((p1.toInt64) + (p2.toInt64)) + (((((p4.toUInt32 >>> ((1 : Int32) &&& 31).toUInt32).toInt32) - (((p4.toUInt32 >>> ((1 : Int32) &&& 31).toUInt32).toInt32) / (3 : Int32)) * (3 : Int32)) - (1 : Int32)).toInt64)).toInt32).toInt64) - (p1.toInt64)) - (p2.toInt64))), .second, .unset, .unset, .unset] [(.int (0 : Int32))])) _
    refine XS.istore X0.here hx rfl (hb hby at_71) rfl (l' := #[.val (.int p1), .val (.int p2), .val (.int p3), .val (.int p4), .val (.int ((((p1.toInt64) + (p2.toInt64)) + (((((p4.toUInt32 >>> ((1 : Int32) &&& 31).toUInt32).toInt32) - (((p4.toUInt32 >>> ((1 : Int32) &&& 31).toUInt32).toInt32) / (3 : Int32)) * (3 : Int32)) - (1 : Int32)).toInt64)).toInt32)), .val (.long (((((((p1.toInt64) + (p2.toInt64)) + (((((p4.toUInt32 >>> ((1 : Int32) &&& 31).toUInt32).toInt32) - (((p4.toUInt32 >>> ((1 : Int32) &&& 31).toUInt32).toInt32) / (3 : Int32)) * (3 : Int32)) - (1 : Int32)).toInt64)).toInt32).toInt64) - (p1.toInt64)) - (p2.toInt64))), .second, .val (.int (0 : Int32)), .unset, .unset]) rfl ?_
    show Steps p.tables e below (s₁.setTop (mkF m 73 #[.val (.int p1), .val (.int p2), .val (.int p3), .val (.int p4), .val (.int ((((p1.toInt64) + (p2.toInt64)) + (((((p4.toUInt32 >>> ((1 : Int32) &&& 31).toUInt32).toInt32) - (((p4.toUInt32 >>> ((1 : Int32) &&& 31).toUInt32).toInt32) / (3 : Int32)) * (3 : Int32)) - (1 : Int32)).toInt64)).toInt32)), .val (.long (((((((p1.toInt64) + (p2.toInt64)) + (((((p4.toUInt32 >>> ((1 : Int32) &&& 31).toUInt32).toInt32) - (((p4.toUInt32 >>> ((1 : Int32) &&& 31).toUInt32).toInt32) / (3 : Int32)) * (3 : Int32)) - (1 : Int32)).toInt64)).toInt32).toInt64) - (p1.toInt64)) - (p2.toInt64))), .second, .val (.int (0 : Int32)), .unset, .unset] [])) _
    refine XS.iloadN X0.here hx rfl (hb hby at_73) rfl ?_
    show Steps p.tables e below (s₁.setTop (mkF m 74 #[.val (.int p1), .val (.int p2), .val (.int p3), .val (.int p4), .val (.int ((((p1.toInt64) + (p2.toInt64)) + (((((p4.toUInt32 >>> ((1 : Int32) &&& 31).toUInt32).toInt32) - (((p4.toUInt32 >>> ((1 : Int32) &&& 31).toUInt32).toInt32) / (3 : Int32)) * (3 : Int32)) - (1 : Int32)).toInt64)).toInt32)), .val (.long (((((((p1.toInt64) + (p2.toInt64)) + (((((p4.toUInt32 >>> ((1 : Int32) &&& 31).toUInt32).toInt32) - (((p4.toUInt32 >>> ((1 : Int32) &&& 31).toUInt32).toInt32) / (3 : Int32)) * (3 : Int32)) - (1 : Int32)).toInt64)).toInt32).toInt64) - (p1.toInt64)) - (p2.toInt64))), .second, .val (.int (0 : Int32)), .unset, .unset] [(.int p1)])) _
    refine XS.iloadN X0.here hx rfl (hb hby at_74) rfl ?_
    show Steps p.tables e below (s₁.setTop (mkF m 75 #[.val (.int p1), .val (.int p2), .val (.int p3), .val (.int p4), .val (.int ((((p1.toInt64) + (p2.toInt64)) + (((((p4.toUInt32 >>> ((1 : Int32) &&& 31).toUInt32).toInt32) - (((p4.toUInt32 >>> ((1 : Int32) &&& 31).toUInt32).toInt32) / (3 : Int32)) * (3 : Int32)) - (1 : Int32)).toInt64)).toInt32)), .val (.long (((((((p1.toInt64) + (p2.toInt64)) + (((((p4.toUInt32 >>> ((1 : Int32) &&& 31).toUInt32).toInt32) - (((p4.toUInt32 >>> ((1 : Int32) &&& 31).toUInt32).toInt32) / (3 : Int32)) * (3 : Int32)) - (1 : Int32)).toInt64)).toInt32).toInt64) - (p1.toInt64)) - (p2.toInt64))), .second, .val (.int (0 : Int32)), .unset, .unset] [(.int p2), (.int p1)])) _
    refine XS.iload X0.here hx rfl (hb hby at_75) rfl ?_
    show Steps p.tables e below (s₁.setTop (mkF m 77 #[.val (.int p1), .val (.int p2), .val (.int p3), .val (.int p4), .val (.int ((((p1.toInt64) + (p2.toInt64)) + (((((p4.toUInt32 >>> ((1 : Int32) &&& 31).toUInt32).toInt32) - (((p4.toUInt32 >>> ((1 : Int32) &&& 31).toUInt32).toInt32) / (3 : Int32)) * (3 : Int32)) - (1 : Int32)).toInt64)).toInt32)), .val (.long (((((((p1.toInt64) + (p2.toInt64)) + (((((p4.toUInt32 >>> ((1 : Int32) &&& 31).toUInt32).toInt32) - (((p4.toUInt32 >>> ((1 : Int32) &&& 31).toUInt32).toInt32) / (3 : Int32)) * (3 : Int32)) - (1 : Int32)).toInt64)).toInt32).toInt64) - (p1.toInt64)) - (p2.toInt64))), .second, .val (.int (0 : Int32)), .unset, .unset] [(.int ((((p1.toInt64) + (p2.toInt64)) + (((((p4.toUInt32 >>> ((1 : Int32) &&& 31).toUInt32).toInt32) - (((p4.toUInt32 >>> ((1 : Int32) &&& 31).toUInt32).toInt32) / (3 : Int32)) * (3 : Int32)) - (1 : Int32)).toInt64)).toInt32)), (.int p2), (.int p1)])) _
    refine st5 _ ?_
    show Steps p.tables e below (T5.setTop (mkF m 80 #[.val (.int p1), .val (.int p2), .val (.int p3), .val (.int p4), .val (.int ((((p1.toInt64) + (p2.toInt64)) + (((((p4.toUInt32 >>> ((1 : Int32) &&& 31).toUInt32).toInt32) - (((p4.toUInt32 >>> ((1 : Int32) &&& 31).toUInt32).toInt32) / (3 : Int32)) * (3 : Int32)) - (1 : Int32)).toInt64)).toInt32)), .val (.long (((((((p1.toInt64) + (p2.toInt64)) + (((((p4.toUInt32 >>> ((1 : Int32) &&& 31).toUInt32).toInt32) - (((p4.toUInt32 >>> ((1 : Int32) &&& 31).toUInt32).toInt32) / (3 : Int32)) * (3 : Int32)) - (1 : Int32)).toInt64)).toInt32).toInt64) - (p1.toInt64)) - (p2.toInt64))), .second, .val (.int (0 : Int32)), .unset, .unset] [(.int (F1 p1 p2 ((((p1.toInt64) + (p2.toInt64)) + (((((p4.toUInt32 >>> ((1 : Int32) &&& 31).toUInt32).toInt32) - (((p4.toUInt32 >>> ((1 : Int32) &&& 31).toUInt32).toInt32) / (3 : Int32)) * (3 : Int32)) - (1 : Int32)).toInt64)).toInt32)))])) _
    refine XS.istore X5.here hx rfl (hb hby at_80) rfl (l' := #[.val (.int p1), .val (.int p2), .val (.int p3), .val (.int p4), .val (.int ((((p1.toInt64) + (p2.toInt64)) + (((((p4.toUInt32 >>> ((1 : Int32) &&& 31).toUInt32).toInt32) - (((p4.toUInt32 >>> ((1 : Int32) &&& 31).toUInt32).toInt32) / (3 : Int32)) * (3 : Int32)) - (1 : Int32)).toInt64)).toInt32)), .val (.long (((((((p1.toInt64) + (p2.toInt64)) + (((((p4.toUInt32 >>> ((1 : Int32) &&& 31).toUInt32).toInt32) - (((p4.toUInt32 >>> ((1 : Int32) &&& 31).toUInt32).toInt32) / (3 : Int32)) * (3 : Int32)) - (1 : Int32)).toInt64)).toInt32).toInt64) - (p1.toInt64)) - (p2.toInt64))), .second, .val (.int (0 : Int32)), .val (.int (F1 p1 p2 ((((p1.toInt64) + (p2.toInt64)) + (((((p4.toUInt32 >>> ((1 : Int32) &&& 31).toUInt32).toInt32) - (((p4.toUInt32 >>> ((1 : Int32) &&& 31).toUInt32).toInt32) / (3 : Int32)) * (3 : Int32)) - (1 : Int32)).toInt64)).toInt32))), .unset]) rfl ?_
    show Steps p.tables e below (T5.setTop (mkF m 82 #[.val (.int p1), .val (.int p2), .val (.int p3), .val (.int p4), .val (.int ((((p1.toInt64) + (p2.toInt64)) + (((((p4.toUInt32 >>> ((1 : Int32) &&& 31).toUInt32).toInt32) - (((p4.toUInt32 >>> ((1 : Int32) &&& 31).toUInt32).toInt32) / (3 : Int32)) * (3 : Int32)) - (1 : Int32)).toInt64)).toInt32)), .val (.long (((((((p1.toInt64) + (p2.toInt64)) + (((((p4.toUInt32 >>> ((1 : Int32) &&& 31).toUInt32).toInt32) - (((p4.toUInt32 >>> ((1 : Int32) &&& 31).toUInt32).toInt32) / (3 : Int32)) * (3 : Int32)) - (1 : Int32)).toInt64)).toInt32).toInt64) - (p1.toInt64)) - (p2.toInt64))), .second, .val (.int (0 : Int32)), .val (.int (F1 p1 p2 ((((p1.toInt64) + (p2.toInt64)) + (((((p4.toUInt32 >>> ((1 : Int32) &&& 31).toUInt32).toInt32) - (((p4.toUInt32 >>> ((1 : Int32) &&& 31).toUInt32).toInt32) / (3 : Int32)) * (3 : Int32)) - (1 : Int32)).toInt64)).toInt32))), .unset] [])) _
    refine XS.iloadN X5.here hx rfl (hb hby at_82) rfl ?_
    show Steps p.tables e below (T5.setTop (mkF m 83 #[.val (.int p1), .val (.int p2), .val (.int p3), .val (.int p4), .val (.int ((((p1.toInt64) + (p2.toInt64)) + (((((p4.toUInt32 >>> ((1 : Int32) &&& 31).toUInt32).toInt32) - (((p4.toUInt32 >>> ((1 : Int32) &&& 31).toUInt32).toInt32) / (3 : Int32)) * (3 : Int32)) - (1 : Int32)).toInt64)).toInt32)), .val (.long (((((((p1.toInt64) + (p2.toInt64)) + (((((p4.toUInt32 >>> ((1 : Int32) &&& 31).toUInt32).toInt32) - (((p4.toUInt32 >>> ((1 : Int32) &&& 31).toUInt32).toInt32) / (3 : Int32)) * (3 : Int32)) - (1 : Int32)).toInt64)).toInt32).toInt64) - (p1.toInt64)) - (p2.toInt64))), .second, .val (.int (0 : Int32)), .val (.int (F1 p1 p2 ((((p1.toInt64) + (p2.toInt64)) + (((((p4.toUInt32 >>> ((1 : Int32) &&& 31).toUInt32).toInt32) - (((p4.toUInt32 >>> ((1 : Int32) &&& 31).toUInt32).toInt32) / (3 : Int32)) * (3 : Int32)) - (1 : Int32)).toInt64)).toInt32))), .unset] [(.int p2)])) _
    refine XS.iloadN X5.here hx rfl (hb hby at_83) rfl ?_
    show Steps p.tables e below (T5.setTop (mkF m 84 #[.val (.int p1), .val (.int p2), .val (.int p3), .val (.int p4), .val (.int ((((p1.toInt64) + (p2.toInt64)) + (((((p4.toUInt32 >>> ((1 : Int32) &&& 31).toUInt32).toInt32) - (((p4.toUInt32 >>> ((1 : Int32) &&& 31).toUInt32).toInt32) / (3 : Int32)) * (3 : Int32)) - (1 : Int32)).toInt64)).toInt32)), .val (.long (((((((p1.toInt64) + (p2.toInt64)) + (((((p4.toUInt32 >>> ((1 : Int32) &&& 31).toUInt32).toInt32) - (((p4.toUInt32 >>> ((1 : Int32) &&& 31).toUInt32).toInt32) / (3 : Int32)) * (3 : Int32)) - (1 : Int32)).toInt64)).toInt32).toInt64) - (p1.toInt64)) - (p2.toInt64))), .second, .val (.int (0 : Int32)), .val (.int (F1 p1 p2 ((((p1.toInt64) + (p2.toInt64)) + (((((p4.toUInt32 >>> ((1 : Int32) &&& 31).toUInt32).toInt32) - (((p4.toUInt32 >>> ((1 : Int32) &&& 31).toUInt32).toInt32) / (3 : Int32)) * (3 : Int32)) - (1 : Int32)).toInt64)).toInt32))), .unset] [(.int p1), (.int p2)])) _
    refine XS.iload X5.here hx rfl (hb hby at_84) rfl ?_
    show Steps p.tables e below (T5.setTop (mkF m 86 #[.val (.int p1), .val (.int p2), .val (.int p3), .val (.int p4), .val (.int ((((p1.toInt64) + (p2.toInt64)) + (((((p4.toUInt32 >>> ((1 : Int32) &&& 31).toUInt32).toInt32) - (((p4.toUInt32 >>> ((1 : Int32) &&& 31).toUInt32).toInt32) / (3 : Int32)) * (3 : Int32)) - (1 : Int32)).toInt64)).toInt32)), .val (.long (((((((p1.toInt64) + (p2.toInt64)) + (((((p4.toUInt32 >>> ((1 : Int32) &&& 31).toUInt32).toInt32) - (((p4.toUInt32 >>> ((1 : Int32) &&& 31).toUInt32).toInt32) / (3 : Int32)) * (3 : Int32)) - (1 : Int32)).toInt64)).toInt32).toInt64) - (p1.toInt64)) - (p2.toInt64))), .second, .val (.int (0 : Int32)), .val (.int (F1 p1 p2 ((((p1.toInt64) + (p2.toInt64)) + (((((p4.toUInt32 >>> ((1 : Int32) &&& 31).toUInt32).toInt32) - (((p4.toUInt32 >>> ((1 : Int32) &&& 31).toUInt32).toInt32) / (3 : Int32)) * (3 : Int32)) - (1 : Int32)).toInt64)).toInt32))), .unset] [(.int ((((p1.toInt64) + (p2.toInt64)) + (((((p4.toUInt32 >>> ((1 : Int32) &&& 31).toUInt32).toInt32) - (((p4.toUInt32 >>> ((1 : Int32) &&& 31).toUInt32).toInt32) / (3 : Int32)) * (3 : Int32)) - (1 : Int32)).toInt64)).toInt32)), (.int p1), (.int p2)])) _
    refine st6 _ ?_
    show Steps p.tables e below (T6.setTop (mkF m 89 #[.val (.int p1), .val (.int p2), .val (.int p3), .val (.int p4), .val (.int ((((p1.toInt64) + (p2.toInt64)) + (((((p4.toUInt32 >>> ((1 : Int32) &&& 31).toUInt32).toInt32) - (((p4.toUInt32 >>> ((1 : Int32) &&& 31).toUInt32).toInt32) / (3 : Int32)) * (3 : Int32)) - (1 : Int32)).toInt64)).toInt32)), .val (.long (((((((p1.toInt64) + (p2.toInt64)) + (((((p4.toUInt32 >>> ((1 : Int32) &&& 31).toUInt32).toInt32) - (((p4.toUInt32 >>> ((1 : Int32) &&& 31).toUInt32).toInt32) / (3 : Int32)) * (3 : Int32)) - (1 : Int32)).toInt64)).toInt32).toInt64) - (p1.toInt64)) - (p2.toInt64))), .second, .val (.int (0 : Int32)), .val (.int (F1 p1 p2 ((((p1.toInt64) + (p2.toInt64)) + (((((p4.toUInt32 >>> ((1 : Int32) &&& 31).toUInt32).toInt32) - (((p4.toUInt32 >>> ((1 : Int32) &&& 31).toUInt32).toInt32) / (3 : Int32)) * (3 : Int32)) - (1 : Int32)).toInt64)).toInt32))), .unset] [(.int (F1 p2 p1 ((((p1.toInt64) + (p2.toInt64)) + (((((p4.toUInt32 >>> ((1 : Int32) &&& 31).toUInt32).toInt32) - (((p4.toUInt32 >>> ((1 : Int32) &&& 31).toUInt32).toInt32) / (3 : Int32)) * (3 : Int32)) - (1 : Int32)).toInt64)).toInt32)))])) _
    refine XS.istore X6.here hx rfl (hb hby at_89) rfl (l' := #[.val (.int p1), .val (.int p2), .val (.int p3), .val (.int p4), .val (.int ((((p1.toInt64) + (p2.toInt64)) + (((((p4.toUInt32 >>> ((1 : Int32) &&& 31).toUInt32).toInt32) - (((p4.toUInt32 >>> ((1 : Int32) &&& 31).toUInt32).toInt32) / (3 : Int32)) * (3 : Int32)) - (1 : Int32)).toInt64)).toInt32)), .val (.long (((((((p1.toInt64) + (p2.toInt64)) + (((((p4.toUInt32 >>> ((1 : Int32) &&& 31).toUInt32).toInt32) - (((p4.toUInt32 >>> ((1 : Int32) &&& 31).toUInt32).toInt32) / (3 : Int32)) * (3 : Int32)) - (1 : Int32)).toInt64)).toInt32).toInt64) - (p1.toInt64)) - (p2.toInt64))), .second, .val (.int (0 : Int32)), .val (.int (F1 p1 p2 ((((p1.toInt64) + (p2.toInt64)) + (((((p4.toUInt32 >>> ((1 : Int32) &&& 31).toUInt32).toInt32) - (((p4.toUInt32 >>> ((1 : Int32) &&& 31).toUInt32).toInt32) / (3 : Int32)) * (3 : Int32)) - (1 : Int32)).toInt64)).toInt32))), .val (.int (F1 p2 p1 ((((p1.toInt64) + (p2.toInt64)) + (((((p4.toUInt32 >>> ((1 : Int32) &&& 31).toUInt32).toInt32) - (((p4.toUInt32 >>> ((1 : Int32) &&& 31).toUInt32).toInt32) / (3 : Int32)) * (3 : Int32)) - (1 : Int32)).toInt64)).toInt32)))]) rfl ?_
    show Steps p.tables e below (T6.setTop (mkF m 91 #[.val (.int p1), .val (.int p2), .val (.int p3), .val (.int p4), .val (.int ((((p1.toInt64) + (p2.toInt64)) + (((((p4.toUInt32 >>> ((1 : Int32) &&& 31).toUInt32).toInt32) - (((p4.toUInt32 >>> ((1 : Int32) &&& 31).toUInt32).toInt32) / (3 : Int32)) * (3 : Int32)) - (1 : Int32)).toInt64)).toInt32)), .val (.long (((((((p1.toInt64) + (p2.toInt64)) + (((((p4.toUInt32 >>> ((1 : Int32) &&& 31).toUInt32).toInt32) - (((p4.toUInt32 >>> ((1 : Int32) &&& 31).toUInt32).toInt32) / (3 : Int32)) * (3 : Int32)) - (1 : Int32)).toInt64)).toInt32).toInt64) - (p1.toInt64)) - (p2.toInt64))), .second, .val (.int (0 : Int32)), .val (.int (F1 p1 p2 ((((p1.toInt64) + (p2.toInt64)) + (((((p4.toUInt32 >>> ((1 : Int32) &&& 31).toUInt32).toInt32) - (((p4.toUInt32 >>> ((1 : Int32) &&& 31).toUInt32).toInt32) / (3 : Int32)) * (3 : Int32)) - (1 : Int32)).toInt64)).toInt32))), .val (.int (F1 p2 p1 ((((p1.toInt64) + (p2.toInt64)) + (((((p4.toUInt32 >>> ((1 : Int32) &&& 31).toUInt32).toInt32) - (((p4.toUInt32 >>> ((1 : Int32) &&& 31).toUInt32).toInt32) / (3 : Int32)) * (3 : Int32)) - (1 : Int32)).toInt64)).toInt32)))] [])) _
    refine XS.iload X6.here hx rfl (hb hby at_91) rfl ?_
    show Steps p.tables e below (T6.setTop (mkF m 93 #[.val (.int p1), .val (.int p2), .val (.int p3), .val (.int p4), .val (.int ((((p1.toInt64) + (p2.toInt64)) + (((((p4.toUInt32 >>> ((1 : Int32) &&& 31).toUInt32).toInt32) - (((p4.toUInt32 >>> ((1 : Int32) &&& 31).toUInt32).toInt32) / (3 : Int32)) * (3 : Int32)) - (1 : Int32)).toInt64)).toInt32)), .val (.long (((((((p1.toInt64) + (p2.toInt64)) + (((((p4.toUInt32 >>> ((1 : Int32) &&& 31).toUInt32).toInt32) - (((p4.toUInt32 >>> ((1 : Int32) &&& 31).toUInt32).toInt32) / (3 : Int32)) * (3 : Int32)) - (1 : Int32)).toInt64)).toInt32).toInt64) - (p1.toInt64)) - (p2.toInt64))), .second, .val (.int (0 : Int32)), .val (.int (F1 p1 p2 ((((p1.toInt64) + (p2.toInt64)) + (((((p4.toUInt32 >>> ((1 : Int32) &&& 31).toUInt32).toInt32) - (((p4.toUInt32 >>> ((1 : Int32) &&& 31).toUInt32).toInt32) / (3 : Int32)) * (3 : Int32)) - (1 : Int32)).toInt64)).toInt32))), .val (.int (F1 p2 p1 ((((p1.toInt64) + (p2.toInt64)) + (((((p4.toUInt32 >>> ((1 : Int32) &&& 31).toUInt32).toInt32) - (((p4.toUInt32 >>> ((1 : Int32) &&& 31).toUInt32).toInt32) / (3 : Int32)) * (3 : Int32)) - (1 : Int32)).toInt64)).toInt32)))] [(.int (F1 p1 p2 ((((p1.toInt64) + (p2.toInt64)) + (((((p4.toUInt32 >>> ((1 : Int32) &&& 31).toUInt32).toInt32) - (((p4.toUInt32 >>> ((1 : Int32) &&& 31).toUInt32).toInt32) / (3 : Int32)) * (3 : Int32)) - (1 : Int32)).toInt64)).toInt32)))])) _
    refine XS.iload X6.here hx rfl (hb hby at_93) rfl ?_
    show Steps p.tables e below (T6.setTop (mkF m 95 #[.val (.int p1), .val (.int p2), .val (.int p3), .val (.int p4), .val (.int ((((p1.toInt64) + (p2.toInt64)) + (((((p4.toUInt32 >>> ((1 : Int32) &&& 31).toUInt32).toInt32) - (((p4.toUInt32 >>> ((1 : Int32) &&& 31).toUInt32).toInt32) / (3 : Int32)) * (3 : Int32)) - (1 : Int32)).toInt64)).toInt32)), .val (.long (((((((p1.toInt64) + (p2.toInt64)) + (((((p4.toUInt32 >>> ((1 : Int32) &&& 31).toUInt32).toInt32) - (((p4.toUInt32 >>> ((1 : Int32) &&& 31).toUInt32).toInt32) / (3 : Int32)) * (3 : Int32)) - (1 : Int32)).toInt64)).toInt32).toInt64) - (p1.toInt64)) - (p2.toInt64))), .second, .val (.int (0 : Int32)), .val (.int (F1 p1 p2 ((((p1.toInt64) + (p2.toInt64)) + (((((p4.toUInt32 >>> ((1 : Int32) &&& 31).toUInt32).toInt32) - (((p4.toUInt32 >>> ((1 : Int32) &&& 31).toUInt32).toInt32) / (3 : Int32)) * (3 : Int32)) - (1 : Int32)).toInt64)).toInt32))), .val (.int (F1 p2 p1 ((((p1.toInt64) + (p2.toInt64)) + (((((p4.toUInt32 >>> ((1 : Int32) &&& 31).toUInt32).toInt32) - (((p4.toUInt32 >>> ((1 : Int32) &&& 31).toUInt32).toInt32) / (3 : Int32)) * (3 : Int32)) - (1 : Int32)).toInt64)).toInt32)))] [(.int (0 : Int32)), (.int (F1 p1 p2 ((((p1.toInt64) + (p2.toInt64)) + (((((p4.toUInt32 >>> ((1 : Int32) &&& 31).toUInt32).toInt32) - (((p4.toUInt32 >>> ((1 : Int32) &&& 31).toUInt32).toInt32) / (3 : Int32)) * (3 : Int32)) - (1 : Int32)).toInt64)).toInt32)))])) _
    refine XS.icmpNo X6.here hx rfl (hb hby at_95) rfl (teq (own_neg _ _ _ hc63 : (F1 p1 p2 ((((p1.toInt64) + (p2.toInt64)) + (((((p4.toUInt32 >>> ((1 : Int32) &&& 31).toUInt32).toInt32) - (((p4.toUInt32 >>> ((1 : Int32) &&& 31).toUInt32).toInt32) / (3 : Int32)) * (3 : Int32)) - (1 : Int32)).toInt64)).toInt32)) = (0 : Int32))).2 ?_
    show Steps p.tables e below (T6.setTop (mkF m 98 #[.val (.int p1), .val (.int p2), .val (.int p3), .val (.int p4), .val (.int ((((p1.toInt64) + (p2.toInt64)) + (((((p4.toUInt32 >>> ((1 : Int32) &&& 31).toUInt32).toInt32) - (((p4.toUInt32 >>> ((1 : Int32) &&& 31).toUInt32).toInt32) / (3 : Int32)) * (3 : Int32)) - (1 : Int32)).toInt64)).toInt32)), .val (.long (((((((p1.toInt64) + (p2.toInt64)) + (((((p4.toUInt32 >>> ((1 : Int32) &&& 31).toUInt32).toInt32) - (((p4.toUInt32 >>> ((1 : Int32) &&& 31).toUInt32).toInt32) / (3 : Int32)) * (3 : Int32)) - (1 : Int32)).toInt64)).toInt32).toInt64) - (p1.toInt64)) - (p2.toInt64))), .second, .val (.int (0 : Int32)), .val (.int (F1 p1 p2 ((((p1.toInt64) + (p2.toInt64)) + (((((p4.toUInt32 >>> ((1 : Int32) &&& 31).toUInt32).toInt32) - (((p4.toUInt32 >>> ((1 : Int32) &&& 31).toUInt32).toInt32) / (3 : Int32)) * (3 : Int32)) - (1 : Int32)).toInt64)).toInt32))), .val (.int (F1 p2 p1 ((((p1.toInt64) + (p2.toInt64)) + (((((p4.toUInt32 >>> ((1 : Int32) &&& 31).toUInt32).toInt32) - (((p4.toUInt32 >>> ((1 : Int32) &&& 31).toUInt32).toInt32) / (3 : Int32)) * (3 : Int32)) - (1 : Int32)).toInt64)).toInt32)))] [])) _
    refine XS.iload X6.here hx rfl (hb hby at_98) rfl ?_
    show Steps p.tables e below (T6.setTop (mkF m 100 #[.val (.int p1), .val (.int p2), .val (.int p3), .val (.int p4), .val (.int ((((p1.toInt64) + (p2.toInt64)) + (((((p4.toUInt32 >>> ((1 : Int32) &&& 31).toUInt32).toInt32) - (((p4.toUInt32 >>> ((1 : Int32) &&& 31).toUInt32).toInt32) / (3 : Int32)) * (3 : Int32)) - (1 : Int32)).toInt64)).toInt32)), .val (.long (((((((p1.toInt64) + (p2.toInt64)) + (((((p4.toUInt32 >>> ((1 : Int32) &&& 31).toUInt32).toInt32) - (((p4.toUInt32 >>> ((1 : Int32) &&& 31).toUInt32).toInt32) / (3 : Int32)) * (3 : Int32)) - (1 : Int32)).toInt64)).toInt32).toInt64) - (p1.toInt64)) - (p2.toInt64))), .second, .val (.int (0 : Int32)), .val (.int (F1 p1 p2 ((((p1.toInt64) + (p2.toInt64)) + (((((p4.toUInt32 >>> ((1 : Int32) &&& 31).toUInt32).toInt32) - (((p4.toUInt32 >>> ((1 : Int32) &&& 31).toUInt32).toInt32) / (3 : Int32)) * (3 : Int32)) - (1 : Int32)).toInt64)).toInt32))), .val (.int (F1 p2 p1 ((((p1.toInt64) + (p2.toInt64)) + (((((p4.toUInt32 >>> ((1 : Int32) &&& 31).toUInt32).toInt32) - (((p4.toUInt32 >>> ((1 : Int32) &&& 31).toUInt32).toInt32) / (3 : Int32)) * (3 : Int32)) - (1 : Int32)).toInt64)).toInt32)))] [(.int (F1 p2 p1 ((((p1.toInt64) + (p2.toInt64)) + (((((p4.toUInt32 >>> ((1 : Int32) &&& 31).toUInt32).toInt32) - (((p4.toUInt32 >>> ((1 : Int32) &&& 31).toUInt32).toInt32) / (3 : Int32)) * (3 : Int32)) - (1 : Int32)).toInt64)).toInt32)))])) _
    refine XS.iload X6.here hx rfl (hb hby at_100) rfl ?_
    show Steps p.tables e below (T6.setTop (mkF m 102 #[.val (.int p1), .val (.int p2), .val (.int p3), .val (.int p4), .val (.int ((((p1.toInt64) + (p2.toInt64)) + (((((p4.toUInt32 >>> ((1 : Int32) &&& 31).toUInt32).toInt32) - (((p4.toUInt32 >>> ((1 : Int32) &&& 31).toUInt32).toInt32) / (3 : Int32)) * (3 : Int32)) - (1 : Int32)).toInt64)).toInt32)), .val (.long (((((((p1.toInt64) + (p2.toInt64)) + (((((p4.toUInt32 >>> ((1 : Int32) &&& 31).toUInt32).toInt32) - (((p4.toUInt32 >>> ((1 : Int32) &&& 31).toUInt32).toInt32) / (3 : Int32)) * (3 : Int32)) - (1 : Int32)).toInt64)).toInt32).toInt64) - (p1.toInt64)) - (p2.toInt64))), .second, .val (.int (0 : Int32)), .val (.int (F1 p1 p2 ((((p1.toInt64) + (p2.toInt64)) + (((((p4.toUInt32 >>> ((1 : Int32) &&& 31).toUInt32).toInt32) - (((p4.toUInt32 >>> ((1 : Int32) &&& 31).toUInt32).toInt32) / (3 : Int32)) * (3 : Int32)) - (1 : Int32)).toInt64)).toInt32))), .val (.int (F1 p2 p1 ((((p1.toInt64) + (p2.toInt64)) + (((((p4.toUInt32 >>> ((1 : Int32) &&& 31).toUInt32).toInt32) - (((p4.toUInt32 >>> ((1 : Int32) &&& 31).toUInt32).toInt32) / (3 : Int32)) * (3 : Int32)) - (1 : Int32)).toInt64)).toInt32)))] [(.int (F1 p1 p2 ((((p1.toInt64) + (p2.toInt64)) + (((((p4.toUInt32 >>> ((1 : Int32) &&& 31).toUInt32).toInt32) - (((p4.toUInt32 >>> ((1 : Int32) &&& 31).toUInt32).toInt32) / (3 : Int32)) * (3 : Int32)) - (1 : Int32)).toInt64)).toInt32))), (.int (F1 p2 p1 ((((p1.toInt64) + (p2.toInt64)) + (((((p4.toUInt32 >>> ((1 : Int32) &&& 31).toUInt32).toInt32) - (((p4.toUInt32 >>> ((1 : Int32) &&& 31).toUInt32).toInt32) / (3 : Int32)) * (3 : Int32)) - (1 : Int32)).toInt64)).toInt32)))])) _
    refine XS.icmpNo X6.here hx rfl (hb hby at_102) rfl (teq (own_sym _ _ _ : (F1 p2 p1 ((((p1.toInt64) + (p2.toInt64)) + (((((p4.toUInt32 >>> ((1 : Int32) &&& 31).toUInt32).toInt32) - (((p4.toUInt32 >>> ((1 : Int32) &&& 31).toUInt32).toInt32) / (3 : Int32)) * (3 : Int32)) - (1 : Int32)).toInt64)).toInt32)) = (F1 p1 p2 ((((p1.toInt64) + (p2.toInt64)) + (((((p4.toUInt32 >>> ((1 : Int32) &&& 31).toUInt32).toInt32) - (((p4.toUInt32 >>> ((1 : Int32) &&& 31).toUInt32).toInt32) / (3 : Int32)) * (3 : Int32)) - (1 : Int32)).toInt64)).toInt32)))).2 ?_
    show Steps p.tables e below (T6.setTop (mkF m 105 #[.val (.int p1), .val (.int p2), .val (.int p3), .val (.int p4), .val (.int ((((p1.toInt64) + (p2.toInt64)) + (((((p4.toUInt32 >>> ((1 : Int32) &&& 31).toUInt32).toInt32) - (((p4.toUInt32 >>> ((1 : Int32) &&& 31).toUInt32).toInt32) / (3 : Int32)) * (3 : Int32)) - (1 : Int32)).toInt64)).toInt32)), .val (.long (((((((p1.toInt64) + (p2.toInt64)) + (((((p4.toUInt32 >>> ((1 : Int32) &&& 31).toUInt32).toInt32) - (((p4.toUInt32 >>> ((1 : Int32) &&& 31).toUInt32).toInt32) / (3 : Int32)) * (3 : Int32)) - (1 : Int32)).toInt64)).toInt32).toInt64) - (p1.toInt64)) - (p2.toInt64))), .second, .val (.int (0 : Int32)), .val (.int (F1 p1 p2 ((((p1.toInt64) + (p2.toInt64)) + (((((p4.toUInt32 >>> ((1 : Int32) &&& 31).toUInt32).toInt32) - (((p4.toUInt32 >>> ((1 : Int32) &&& 31).toUInt32).toInt32) / (3 : Int32)) * (3 : Int32)) - (1 : Int32)).toInt64)).toInt32))), .val (.int (F1 p2 p1 ((((p1.toInt64) + (p2.toInt64)) + (((((p4.toUInt32 >>> ((1 : Int32) &&& 31).toUInt32).toInt32) - (((p4.toUInt32 >>> ((1 : Int32) &&& 31).toUInt32).toInt32) / (3 : Int32)) * (3 : Int32)) - (1 : Int32)).toInt64)).toInt32)))] [])) _
    refine XS.iconst X6.here hx rfl (hb hby at_105) ?_
    show Steps p.tables e below (T6.setTop (mkF m 106 #[.val (.int p1), .val (.int p2), .val (.int p3), .val (.int p4), .val (.int ((((p1.toInt64) + (p2.toInt64)) + (((((p4.toUInt32 >>> ((1 : Int32) &&& 31).toUInt32).toInt32) - (((p4.toUInt32 >>> ((1 : Int32) &&& 31).toUInt32).toInt32) / (3 : Int32)) * (3 : Int32)) - (1 : Int32)).toInt64)).toInt32)), .val (.long (((((((p1.toInt64) + (p2.toInt64)) + (((((p4.toUInt32 >>> ((1 : Int32) &&& 31).toUInt32).toInt32) - (((p4.toUInt32 >>> ((1 : Int32) &&& 31).toUInt32).toInt32) / (3 : Int32)) * (3 : Int32)) - (1 : Int32)).toInt64)).toInt32).toInt64) - (p1.toInt64)) - (p2.toInt64))), .second, .val (.int (0 : Int32)), .val (.int (F1 p1 p2 ((((p1.toInt64) + (p2.toInt64)) + (((((p4.toUInt32 >>> ((1 : Int32) &&& 31).toUInt32).toInt32) - (((p4.toUInt32 >>> ((1 : Int32) &&& 31).toUInt32).toInt32) / (3 : Int32)) * (3 : Int32)) - (1 : Int32)).toInt64)).toInt32))), .val (.int (F1 p2 p1 ((((p1.toInt64) + (p2.toInt64)) + (((((p4.toUInt32 >>> ((1 : Int32) &&& 31).toUInt32).toInt32) - (((p4.toUInt32 >>> ((1 : Int32) &&& 31).toUInt32).toInt32) / (3 : Int32)) * (3 : Int32)) - (1 : Int32)).toInt64)).toInt32)))] [(.int (1 : Int32))])) _
    refine XS.goto X6.here hx rfl (pc0 := 106) (pc' := 110) rfl (hb hby at_106) (by decide) (by decide) ?_
    show Steps p.tables e below (T6.setTop (mkF m 110 #[.val (.int p1), .val (.int p2), .val (.int p3), .val (.int p4), .val (.int ((((p1.toInt64) + (p2.toInt64)) + (((((p4.toUInt32 >>> ((1 : Int32) &&& 31).toUInt32).toInt32) - (((p4.toUInt32 >>> ((1 : Int32) &&& 31).toUInt32).toInt32) / (3 : Int32)) * (3 : Int32)) - (1 : Int32)).toInt64)).toInt32)), .val (.long (((((((p1.toInt64) + (p2.toInt64)) + (((((p4.toUInt32 >>> ((1 : Int32) &&& 31).toUInt32).toInt32) - (((p4.toUInt32 >>> ((1 : Int32) &&& 31).toUInt32).toInt32) / (3 : Int32)) * (3 : Int32)) - (1 : Int32)).toInt64)).toInt32).toInt64) - (p1.toInt64)) - (p2.toInt64))), .second, .val (.int (0 : Int32)), .val (.int (F1 p1 p2 ((((p1.toInt64) + (p2.toInt64)) + (((((p4.toUInt32 >>> ((1 : Int32) &&& 31).toUInt32).toInt32) - (((p4.toUInt32 >>> ((1 : Int32) &&& 31).toUInt32).toInt32) / (3 : Int32)) * (3 : Int32)) - (1 : Int32)).toInt64)).toInt32))), .val (.int (F1 p2 p1 ((((p1.toInt64) + (p2.toInt64)) + (((((p4.toUInt32 >>> ((1 : Int32) &&& 31).toUInt32).toInt32) - (((p4.toUInt32 >>> ((1 : Int32) &&& 31).toUInt32).toInt32) / (3 : Int32)) * (3 : Int32)) - (1 : Int32)).toInt64)).toInt32)))] [(.int (1 : Int32))])) _
    exact retN X6 hx (t := .boolean) Bd.returns (by simp) (hb hby at_110) hr
  · show Q0 Z p1 p2 p3 p4 h0 n0 _ T6.heap _
    exact ⟨rfl, N6⟩
set_option maxRecDepth 65536 in
set_option maxHeartbeats 40000000 in
theorem rm0_ffffff (l : Launch) (Z : State) (a0 : Array Value) (hw : ∀ d ∈ tables_1, d.before a0 Z = true) (ws : List Jvm.Cond) (p1 : Int32) (p2 : Int32) (p3 : Int32) (p4 : Int32) (h0 : Heap) (n0 : Nat) (Z0 : n0 ≤ h0.size) (hc6 : ¬ ((p4 &&& (1 : Int32)) = (0 : Int32))) (hc31 : ¬ ((lcmpW (((p1.toInt64) + (p2.toInt64)) + (((((p4.toUInt32 >>> ((1 : Int32) &&& 31).toUInt32).toInt32) - (((p4.toUInt32 >>> ((1 : Int32) &&& 31).toUInt32).toInt32) / (3 : Int32)) * (3 : Int32)) - (1 : Int32)).toInt64)) (-2147483648 : Int64)) < (0 : Int32))) (hc40 : ¬ ((0 : Int32) < (lcmpW (((p1.toInt64) + (p2.toInt64)) + (((((p4.toUInt32 >>> ((1 : Int32) &&& 31).toUInt32).toInt32) - (((p4.toUInt32 >>> ((1 : Int32) &&& 31).toUInt32).toInt32) / (3 : Int32)) * (3 : Int32)) - (1 : Int32)).toInt64)) (2147483647 : Int64)))) (hc63 : ¬ ((lcmpW (((((((p1.toInt64) + (p2.toInt64)) + (((((p4.toUInt32 >>> ((1 : Int32) &&& 31).toUInt32).toInt32) - (((p4.toUInt32 >>> ((1 : Int32) &&& 31).toUInt32).toInt32) / (3 : Int32)) * (3 : Int32)) - (1 : Int32)).toInt64)).toInt32).toInt64) - (p1.toInt64)) - (p2.toInt64)) (0 : Int64)) < (0 : Int32))) :
    MetFree l x (head1 (Jvm.Cond.code x code maxLocals ret :: ws) room_1) (fun a U => a = #[(.int p1), (.int p2), (.int p3), (.int p4)] ∧ Z.Warmed39 U.vm ∧ U.heap = h0) (fun _ _ _ _ _ => True) (fun _ U o U' => ∃ v L, o = .returned v ∧ Q0 Z p1 p2 p3 p4 h0 n0 v U'.heap L ∧ FrameEnd U o U' L room_1.cells room_1.slots) := by
  refine MetFree.of_bodySF (plainFor_of_name pn_0) hisR ?_
  intro p e s m args below meth c s₁ Bd hml0 hP hK
  obtain ⟨rfl, hZ, hh⟩ := hP
  have hx := Bd.exec
  have hby := Bd.bytes
  have hml : c.maxLocals = 10 := hml0
  have hown : s.vm.findClass "com/example/weather_gauge/weathergauge/game/NavalBattleScoresPinLaw" = some m.cls := findClass_of_methodNamed Bd.named
  have hnm := (name_of_methodNamed Bd.named Bd.method).1
  have X0 : Stand p l e room_1 s m #[(.int p1), (.int p2), (.int p3), (.int p4)] below meth c s₁ [] 0 0 := Stand.of_body Bd
  have e0 : s₁.heap = h0 := by rw [← hh, Bd.state]; rfl
  have N0 := Fr.nil n0
  have pre0 : ∀ t, Steps p.tables e below (s₁.setTop (mkF m 0 #[.val (.int p1), .val (.int p2), .val (.int p3), .val (.int p4), .unset, .unset, .unset, .unset, .unset, .unset] [])) t → Steps p.tables e below (s₁.setTop (entryFrame m #[(.int p1), (.int p2), (.int p3), (.int p4)] maxLocals)) t := fun t k => castTop (ef_0 m p1 p2 p3 p4) k
  -- 3. LAWS
  -- pc 77: com/example/weather_gauge/weathergauge/game/NavalBattle.scores by its contract rm1
  obtain ⟨_, _, ⟨T5, L5, k5, n5⟩, -, X5, ⟨Lc5, hQ5, l5, y5, z5⟩, st5⟩ := Jvm.LawKit.callS X0 hx (y := (⟨"com/example/weather_gauge/weathergauge/game/NavalBattle", "scores", "(III)Z"⟩ : MethodName)) hown (mvT hZ (hw _ (List.mem_of_getElem? (i := 2) rfl))) (mvT hZ (hw _ (List.mem_of_getElem? (i := 3) rfl))) (mvT hZ (hw _ (List.mem_of_getElem? (i := 4) rfl))) (mvT hZ (hw _ (List.mem_of_getElem? (i := 5) rfl))) (by decide) (backOf (W := 0) (rm1 l Z a0 hw [] p1 p2 ((((p1.toInt64) + (p2.toInt64)) + (((((p4.toUInt32 >>> ((1 : Int32) &&& 31).toUInt32).toInt32) - (((p4.toUInt32 >>> ((1 : Int32) &&& 31).toUInt32).toInt32) / (3 : Int32)) * (3 : Int32)) - (1 : Int32)).toInt64)).toInt32) h0 n0 Z0) hZ (hw _ (List.mem_of_getElem? (i := 5) rfl)) (hw _ (List.mem_of_getElem? (i := 4) rfl)) (by decide) (by decide)) (g := (mkF m 77 #[.val (.int p1), .val (.int p2), .val (.int p3), .val (.int p4), .val (.int ((((p1.toInt64) + (p2.toInt64)) + (((((p4.toUInt32 >>> ((1 : Int32) &&& 31).toUInt32).toInt32) - (((p4.toUInt32 >>> ((1 : Int32) &&& 31).toUInt32).toInt32) / (3 : Int32)) * (3 : Int32)) - (1 : Int32)).toInt64)).toInt32)), .val (.long (((((((p1.toInt64) + (p2.toInt64)) + (((((p4.toUInt32 >>> ((1 : Int32) &&& 31).toUInt32).toInt32) - (((p4.toUInt32 >>> ((1 : Int32) &&& 31).toUInt32).toInt32) / (3 : Int32)) * (3 : Int32)) - (1 : Int32)).toInt64)).toInt32).toInt64) - (p1.toInt64)) - (p2.toInt64))), .second, .val (.int (1 : Int32)), .unset, .unset] [(.int ((((p1.toInt64) + (p2.toInt64)) + (((((p4.toUInt32 >>> ((1 : Int32) &&& 31).toUInt32).toInt32) - (((p4.toUInt32 >>> ((1 : Int32) &&& 31).toUInt32).toInt32) / (3 : Int32)) * (3 : Int32)) - (1 : Int32)).toInt64)).toInt32)), (.int p2), (.int p1)])) rfl (by rw [hml]; rfl) (argsL := [(.int p1), (.int p2), (.int ((((p1.toInt64) + (p2.toInt64)) + (((((p4.toUInt32 >>> ((1 : Int32) &&& 31).toUInt32).toInt32) - (((p4.toUInt32 >>> ((1 : Int32) &&& 31).toUInt32).toInt32) / (3 : Int32)) * (3 : Int32)) - (1 : Int32)).toInt64)).toInt32))]) (rest := []) (lenOf pd_0_0 rfl) rfl (by show 2 * 0 + _ ≤ _; exact Nat.le_of_eq rfl) (hb hby at_77) (fun _ _ => ⟨rfl, e0, (by decide : 0 + 0 ≤ _), (by decide : 0 + 0 ≤ _)⟩)
  dsimp only [Pt.U, Pt.locs, Pt.cells, Pt.slots] at X5 l5 y5 z5 st5 hQ5
  subst l5 y5 z5
  obtain ⟨rfl, N5q, q5⟩ := hQ5      -- what it returned, that it wrote nothing old, and the rest of your Q1
  have H5 : n0 ≤ T5.heap.size := by rw [q5]; exact Z0
  have N5 := Fr.app N0 N5q
  -- pc 86: com/example/weather_gauge/weathergauge/game/NavalBattle.scores by its contract rm1
  obtain ⟨_, _, ⟨T6, L6, k6, n6⟩, -, X6, ⟨Lc6, hQ6, l6, y6, z6⟩, st6⟩ := Jvm.LawKit.callS X5 hx (y := (⟨"com/example/weather_gauge/weathergauge/game/NavalBattle", "scores", "(III)Z"⟩ : MethodName)) hown (mvT hZ (hw _ (List.mem_of_getElem? (i := 2) rfl))) (mvT hZ (hw _ (List.mem_of_getElem? (i := 3) rfl))) (mvT hZ (hw _ (List.mem_of_getElem? (i := 4) rfl))) (mvT hZ (hw _ (List.mem_of_getElem? (i := 5) rfl))) (by decide) (backOf (W := 0) (rm1 l Z a0 hw [] p2 p1 ((((p1.toInt64) + (p2.toInt64)) + (((((p4.toUInt32 >>> ((1 : Int32) &&& 31).toUInt32).toInt32) - (((p4.toUInt32 >>> ((1 : Int32) &&& 31).toUInt32).toInt32) / (3 : Int32)) * (3 : Int32)) - (1 : Int32)).toInt64)).toInt32) T5.heap n0 H5) hZ (hw _ (List.mem_of_getElem? (i := 5) rfl)) (hw _ (List.mem_of_getElem? (i := 4) rfl)) (by decide) (by decide)) (g := (mkF m 86 #[.val (.int p1), .val (.int p2), .val (.int p3), .val (.int p4), .val (.int ((((p1.toInt64) + (p2.toInt64)) + (((((p4.toUInt32 >>> ((1 : Int32) &&& 31).toUInt32).toInt32) - (((p4.toUInt32 >>> ((1 : Int32) &&& 31).toUInt32).toInt32) / (3 : Int32)) * (3 : Int32)) - (1 : Int32)).toInt64)).toInt32)), .val (.long (((((((p1.toInt64) + (p2.toInt64)) + (((((p4.toUInt32 >>> ((1 : Int32) &&& 31).toUInt32).toInt32) - (((p4.toUInt32 >>> ((1 : Int32) &&& 31).toUInt32).toInt32) / (3 : Int32)) * (3 : Int32)) - (1 : Int32)).toInt64)).toInt32).toInt64) - (p1.toInt64)) - (p2.toInt64))), .second, .val (.int (1 : Int32)), .val (.int (F1 p1 p2 ((((p1.toInt64) + (p2.toInt64)) + (((((p4.toUInt32 >>> ((1 : Int32) &&& 31).toUInt32).toInt32) - (((p4.toUInt32 >>> ((1 : Int32) &&& 31).toUInt32).toInt32) / (3 : Int32)) * (3 : Int32)) - (1 : Int32)).toInt64)).toInt32))), .unset] [(.int ((((p1.toInt64) + (p2.toInt64)) + (((((p4.toUInt32 >>> ((1 : Int32) &&& 31).toUInt32).toInt32) - (((p4.toUInt32 >>> ((1 : Int32) &&& 31).toUInt32).toInt32) / (3 : Int32)) * (3 : Int32)) - (1 : Int32)).toInt64)).toInt32)), (.int p1), (.int p2)])) rfl (by rw [hml]; rfl) (argsL := [(.int p2), (.int p1), (.int ((((p1.toInt64) + (p2.toInt64)) + (((((p4.toUInt32 >>> ((1 : Int32) &&& 31).toUInt32).toInt32) - (((p4.toUInt32 >>> ((1 : Int32) &&& 31).toUInt32).toInt32) / (3 : Int32)) * (3 : Int32)) - (1 : Int32)).toInt64)).toInt32))]) (rest := []) (lenOf pd_0_0 rfl) rfl (by show 2 * 0 + _ ≤ _; exact Nat.le_of_eq rfl) (hb hby at_86) (fun _ _ => ⟨rfl, rfl, (by decide : 0 + 0 ≤ _), (by decide : 0 + 0 ≤ _)⟩)
  dsimp only [Pt.U, Pt.locs, Pt.cells, Pt.slots] at X6 l6 y6 z6 st6 hQ6
  subst l6 y6 z6
  obtain ⟨rfl, N6q, q6⟩ := hQ6      -- what it returned, that it wrote nothing old, and the rest of your Q1
  have H6 : n0 ≤ T6.heap.size := by rw [q6]; exact H5
  have N6 := Fr.app N5 N6q
  obtain ⟨fs, hr, hrun, hended, hW, hsame⟩ := X6.leave (v := some (.int (1 : Int32))) (fun h => by rw [Bd.returns] at h; cases h)
  refine ⟨_, _, pre0 _ ?_, hrun, hended, _, _, rfl, ?_, ⟨_, rfl⟩, hW, hsame.mono (by decide) (by decide)⟩
  -- 4. STEPS
  · show Steps p.tables e below (s₁.setTop (mkF m 0 #[.val (.int p1), .val (.int p2), .val (.int p3), .val (.int p4), .unset, .unset, .unset, .unset, .unset, .unset] [])) _
    refine XS.iloadN X0.here hx rfl (hb hby at_0) rfl ?_
    show Steps p.tables e below (s₁.setTop (mkF m 1 #[.val (.int p1), .val (.int p2), .val (.int p3), .val (.int p4), .unset, .unset, .unset, .unset, .unset, .unset] [(.int p3)])) _
    refine XS.istore X0.here hx rfl (hb hby at_1) rfl (l' := #[.val (.int p1), .val (.int p2), .val (.int p3), .val (.int p4), .val (.int p3), .unset, .unset, .unset, .unset, .unset]) rfl ?_
    show Steps p.tables e below (s₁.setTop (mkF m 3 #[.val (.int p1), .val (.int p2), .val (.int p3), .val (.int p4), .val (.int p3), .unset, .unset, .unset, .unset, .unset] [])) _
    refine XS.iloadN X0.here hx rfl (hb hby at_3) rfl ?_
    show Steps p.tables e below (s₁.setTop (mkF m 4 #[.val (.int p1), .val (.int p2), .val (.int p3), .val (.int p4), .val (.int p3), .unset, .unset, .unset, .unset, .unset] [(.int p4)])) _
    refine XS.iconst X0.here hx rfl (hb hby at_4) ?_
    show Steps p.tables e below (s₁.setTop (mkF m 5 #[.val (.int p1), .val (.int p2), .val (.int p3), .val (.int p4), .val (.int p3), .unset, .unset, .unset, .unset, .unset] [(.int (1 : Int32)), (.int p4)])) _
    refine XS.iand X0.here hx rfl (hb hby at_5) rfl ?_
    show Steps p.tables e below (s₁.setTop (mkF m 6 #[.val (.int p1), .val (.int p2), .val (.int p3), .val (.int p4), .val (.int p3), .unset, .unset, .unset, .unset, .unset] [(.int (p4 &&& (1 : Int32)))])) _
    refine XS.ifNo X0.here hx rfl (hb hby at_6) rfl ((if0 _ _).trans (feq hc6).1) ?_
    show Steps p.tables e below (s₁.setTop (mkF m 9 #[.val (.int p1), .val (.int p2), .val (.int p3), .val (.int p4), .val (.int p3), .unset, .unset, .unset, .unset, .unset] [])) _
    refine XS.iloadN X0.here hx rfl (hb hby at_9) rfl ?_
    show Steps p.tables e below (s₁.setTop (mkF m 10 #[.val (.int p1), .val (.int p2), .val (.int p3), .val (.int p4), .val (.int p3), .unset, .unset, .unset, .unset, .unset] [(.int p1)])) _
    refine XS.i2l X0.here hx rfl (hb hby at_10) rfl ?_
    show Steps p.tables e below (s₁.setTop (mkF m 11 #[.val (.int p1), .val (.int p2), .val (.int p3), .val (.int p4), .val (.int p3), .unset, .unset, .unset, .unset, .unset] [(.long (p1.toInt64))])) _
    refine XS.iloadN X0.here hx rfl (hb hby at_11) rfl ?_
    show Steps p.tables e below (s₁.setTop (mkF m 12 #[.val (.int p1), .val (.int p2), .val (.int p3), .val (.int p4), .val (.int p3), .unset, .unset, .unset, .unset, .unset] [(.int p2), (.long (p1.toInt64))])) _
    refine XS.i2l X0.here hx rfl (hb hby at_12) rfl ?_
    show Steps p.tables e below (s₁.setTop (mkF m 13 #[.val (.int p1), .val (.int p2), .val (.int p3), .val (.int p4), .val (.int p3), .unset, .unset, .unset, .unset, .unset] [(.long (p2.toInt64)), (.long (p1.toInt64))])) _
    refine XS.ladd X0.here hx rfl (hb hby at_13) rfl ?_
    show Steps p.tables e below (s₁.setTop (mkF m 14 #[.val (.int p1), .val (.int p2), .val (.int p3), .val (.int p4), .val (.int p3), .unset, .unset, .unset, .unset, .unset] [(.long ((p1.toInt64) + (p2.toInt64)))])) _
    refine XS.iloadN X0.here hx rfl (hb hby at_14) rfl ?_
    show Steps p.tables e below (s₁.setTop (mkF m 15 #[.val (.int p1), .val (.int p2), .val (.int p3), .val (.int p4), .val (.int p3), .unset, .unset, .unset, .unset, .unset] [(.int p4), (.long ((p1.toInt64) + (p2.toInt64)))])) _
    refine XS.iconst X0.here hx rfl (hb hby at_15) ?_
    show Steps p.tables e below (s₁.setTop (mkF m 16 #[.val (.int p1), .val (.int p2), .val (.int p3), .val (.int p4), .val (.int p3), .unset, .unset, .unset, .unset, .unset] [(.int (1 : Int32)), (.int p4), (.long ((p1.toInt64) + (p2.toInt64)))])) _
    refine XS.iushr X0.here hx rfl (hb hby at_16) rfl ?_
    show Steps p.tables e below (s₁.setTop (mkF m 17 #[.val (.int p1), .val (.int p2), .val (.int p3), .val (.int p4), .val (.int p3), .unset, .unset, .unset, .unset, .unset] [(.int ((p4.toUInt32 >>> ((1 : Int32) &&& 31).toUInt32).toInt32)), (.long ((p1.toInt64) + (p2.toInt64)))])) _
    refine XS.iconst X0.here hx rfl (hb hby at_17) ?_
    show Steps p.tables e below (s₁.setTop (mkF m 18 #[.val (.int p1), .val (.int p2), .val (.int p3), .val (.int p4), .val (.int p3), .unset, .unset, .unset, .unset, .unset] [(.int (3 : Int32)), (.int ((p4.toUInt32 >>> ((1 : Int32) &&& 31).toUInt32).toInt32)), (.long ((p1.toInt64) + (p2.toInt64)))])) _
    refine XS.irem X0.here hx rfl (hb hby at_18) rfl (by decide) ?_
    show Steps p.tables e below (s₁.setTop (mkF m 19 #[.val (.int p1), .val (.int p2), .val (.int p3), .val (.int p4), .val (.int p3), .unset, .unset, .unset, .unset, .unset] [(.int (((p4.toUInt32 >>> ((1 : Int32) &&& 31).toUInt32).toInt32) - (((p4.toUInt32 >>> ((1 : Int32) &&& 31).toUInt32).toInt32) / (3 : Int32)) * (3 : Int32))), (.long ((p1.toInt64) + (p2.toInt64)))])) _
    refine XS.iconst X0.here hx rfl (hb hby at_19) ?_
    show Steps p.tables e below (s₁.setTop (mkF m 20 #[.val (.int p1), .val (.int p2), .val (.int p3), .val (.int p4), .val (.int p3), .unset, .unset, .unset, .unset, .unset] [(.int (1 : Int32)), (.int (((p4.toUInt32 >>> ((1 : Int32) &&& 31).toUInt32).toInt32) - (((p4.toUInt32 >>> ((1 : Int32) &&& 31).toUInt32).toInt32) / (3 : Int32)) * (3 : Int32))), (.long ((p1.toInt64) + (p2.toInt64)))])) _
    refine XS.isub X0.here hx rfl (hb hby at_20) rfl ?_
    show Steps p.tables e below (s₁.setTop (mkF m 21 #[.val (.int p1), .val (.int p2), .val (.int p3), .val (.int p4), .val (.int p3), .unset, .unset, .unset, .unset, .unset] [(.int ((((p4.toUInt32 >>> ((1 : Int32) &&& 31).toUInt32).toInt32) - (((p4.toUInt32 >>> ((1 : Int32) &&& 31).toUInt32).toInt32) / (3 : Int32)) * (3 : Int32)) - (1 : Int32))), (.long ((p1.toInt64) + (p2.toInt64)))])) _
    refine XS.i2l X0.here hx rfl (hb hby at_21) rfl ?_
    show Steps p.tables e below (s₁.setTop (mkF m 22 #[.val (.int p1), .val (.int p2), .val (.int p3), .val (.int p4), .val (.int p3), .unset, .unset, .unset, .unset, .unset] [(.long (((((p4.toUInt32 >>> ((1 : Int32) &&& 31).toUInt32).toInt32) - (((p4.toUInt32 >>> ((1 : Int32) &&& 31).toUInt32).toInt32) / (3 : Int32)) * (3 : Int32)) - (1 : Int32)).toInt64)), (.long ((p1.toInt64) + (p2.toInt64)))])) _
    refine XS.ladd X0.here hx rfl (hb hby at_22) rfl ?_
    show Steps p.tables e below (s₁.setTop (mkF m 23 #[.val (.int p1), .val (.int p2), .val (.int p3), .val (.int p4), .val (.int p3), .unset, .unset, .unset, .unset, .unset] [(.long (((p1.toInt64) + (p2.toInt64)) + (((((p4.toUInt32 >>> ((1 : Int32) &&& 31).toUInt32).toInt32) - (((p4.toUInt32 >>> ((1 : Int32) &&& 31).toUInt32).toInt32) / (3 : Int32)) * (3 : Int32)) - (1 : Int32)).toInt64)))])) _
    refine XS.lstore X0.here hx rfl (hb hby at_23) rfl (l' := #[.val (.int p1), .val (.int p2), .val (.int p3), .val (.int p4), .val (.int p3), .val (.long (((p1.toInt64) + (p2.toInt64)) + (((((p4.toUInt32 >>> ((1 : Int32) &&& 31).toUInt32).toInt32) - (((p4.toUInt32 >>> ((1 : Int32) &&& 31).toUInt32).toInt32) / (3 : Int32)) * (3 : Int32)) - (1 : Int32)).toInt64))), .second, .unset, .unset, .unset]) rfl ?_
    show Steps p.tables e below (s₁.setTop (mkF m 25 #[.val (.int p1), .val (.int p2), .val (.int p3), .val (.int p4), .val (.int p3), .val (.long (((p1.toInt64) + (p2.toInt64)) + (((((p4.toUInt32 >>> ((1 : Int32) &&& 31).toUInt32).toInt32) - (((p4.toUInt32 >>> ((1 : Int32) &&& 31).toUInt32).toInt32) / (3 : Int32)) * (3 : Int32)) - (1 : Int32)).toInt64))), .second, .unset, .unset, .unset] [])) _
    refine XS.lload X0.here hx rfl (hb hby at_25) rfl ?_
    show Steps p.tables e below (s₁.setTop (mkF m 27 #[.val (.int p1), .val (.int p2), .val (.int p3), .val (.int p4), .val (.int p3), .val (.long (((p1.toInt64) + (p2.toInt64)) + (((((p4.toUInt32 >>> ((1 : Int32) &&& 31).toUInt32).toInt32) - (((p4.toUInt32 >>> ((1 : Int32) &&& 31).toUInt32).toInt32) / (3 : Int32)) * (3 : Int32)) - (1 : Int32)).toInt64))), .second, .unset, .unset, .unset] [(.long (((p1.toInt64) + (p2.toInt64)) + (((((p4.toUInt32 >>> ((1 : Int32) &&& 31).toUInt32).toInt32) - (((p4.toUInt32 >>> ((1 : Int32) &&& 31).toUInt32).toInt32) / (3 : Int32)) * (3 : Int32)) - (1 : Int32)).toInt64)))])) _
    refine X0.ldc2Long hx hown (mvT hZ (hw _ (List.mem_of_getElem? (i := 0) rfl))) (g := (mkF m 27 #[.val (.int p1), .val (.int p2), .val (.int p3), .val (.int p4), .val (.int p3), .val (.long (((p1.toInt64) + (p2.toInt64)) + (((((p4.toUInt32 >>> ((1 : Int32) &&& 31).toUInt32).toInt32) - (((p4.toUInt32 >>> ((1 : Int32) &&& 31).toUInt32).toInt32) / (3 : Int32)) * (3 : Int32)) - (1 : Int32)).toInt64))), .second, .unset, .unset, .unset] [(.long (((p1.toInt64) + (p2.toInt64)) + (((((p4.toUInt32 >>> ((1 : Int32) &&& 31).toUInt32).toInt32) - (((p4.toUInt32 >>> ((1 : Int32) &&& 31).toUInt32).toInt32) / (3 : Int32)) * (3 : Int32)) - (1 : Int32)).toInt64)))])) rfl (hb hby at_27) _ ?_
    show Steps p.tables e below (s₁.setTop (mkF m 30 #[.val (.int p1), .val (.int p2), .val (.int p3), .val (.int p4), .val (.int p3), .val (.long (((p1.toInt64) + (p2.toInt64)) + (((((p4.toUInt32 >>> ((1 : Int32) &&& 31).toUInt32).toInt32) - (((p4.toUInt32 >>> ((1 : Int32) &&& 31).toUInt32).toInt32) / (3 : Int32)) * (3 : Int32)) - (1 : Int32)).toInt64))), .second, .unset, .unset, .unset] [(.long (-2147483648 : Int64)), (.long (((p1.toInt64) + (p2.toInt64)) + (((((p4.toUInt32 >>> ((1 : Int32) &&& 31).toUInt32).toInt32) - (((p4.toUInt32 >>> ((1 : Int32) &&& 31).toUInt32).toInt32) / (3 : Int32)) * (3 : Int32)) - (1 : Int32)).toInt64)))])) _
    refine XS.lcmp X0.here hx rfl (hb hby at_30) rfl ?_
    show Steps p.tables e below (s₁.setTop (mkF m 31 #[.val (.int p1), .val (.int p2), .val (.int p3), .val (.int p4), .val (.int p3), .val (.long (((p1.toInt64) + (p2.toInt64)) + (((((p4.toUInt32 >>> ((1 : Int32) &&& 31).toUInt32).toInt32) - (((p4.toUInt32 >>> ((1 : Int32) &&& 31).toUInt32).toInt32) / (3 : Int32)) * (3 : Int32)) - (1 : Int32)).toInt64))), .second, .unset, .unset, .unset] [(.int (lcmpW (((p1.toInt64) + (p2.toInt64)) + (((((p4.toUInt32 >>> ((1 : Int32) &&& 31).toUInt32).toInt32) - (((p4.toUInt32 >>> ((1 : Int32) &&& 31).toUInt32).toInt32) / (3 : Int32)) * (3 : Int32)) - (1 : Int32)).toInt64)) (-2147483648 : Int64)))])) _
    refine XS.ifNo X0.here hx rfl (hb hby at_31) rfl ((if0 _ _).trans (flt hc31).1) ?_
    show Steps p.tables e below (s₁.setTop (mkF m 34 #[.val (.int p1), .val (.int p2), .val (.int p3), .val (.int p4), .val (.int p3), .val (.long (((p1.toInt64) + (p2.toInt64)) + (((((p4.toUInt32 >>> ((1 : Int32) &&& 31).toUInt32).toInt32) - (((p4.toUInt32 >>> ((1 : Int32) &&& 31).toUInt32).toInt32) / (3 : Int32)) * (3 : Int32)) - (1 : Int32)).toInt64))), .second, .unset, .unset, .unset] [])) _
    refine XS.lload X0.here hx rfl (hb hby at_34) rfl ?_
    show Steps p.tables e below (s₁.setTop (mkF m 36 #[.val (.int p1), .val (.int p2), .val (.int p3), .val (.int p4), .val (.int p3), .val (.long (((p1.toInt64) + (p2.toInt64)) + (((((p4.toUInt32 >>> ((1 : Int32) &&& 31).toUInt32).toInt32) - (((p4.toUInt32 >>> ((1 : Int32) &&& 31).toUInt32).toInt32) / (3 : Int32)) * (3 : Int32)) - (1 : Int32)).toInt64))), .second, .unset, .unset, .unset] [(.long (((p1.toInt64) + (p2.toInt64)) + (((((p4.toUInt32 >>> ((1 : Int32) &&& 31).toUInt32).toInt32) - (((p4.toUInt32 >>> ((1 : Int32) &&& 31).toUInt32).toInt32) / (3 : Int32)) * (3 : Int32)) - (1 : Int32)).toInt64)))])) _
    refine X0.ldc2Long hx hown (mvT hZ (hw _ (List.mem_of_getElem? (i := 1) rfl))) (g := (mkF m 36 #[.val (.int p1), .val (.int p2), .val (.int p3), .val (.int p4), .val (.int p3), .val (.long (((p1.toInt64) + (p2.toInt64)) + (((((p4.toUInt32 >>> ((1 : Int32) &&& 31).toUInt32).toInt32) - (((p4.toUInt32 >>> ((1 : Int32) &&& 31).toUInt32).toInt32) / (3 : Int32)) * (3 : Int32)) - (1 : Int32)).toInt64))), .second, .unset, .unset, .unset] [(.long (((p1.toInt64) + (p2.toInt64)) + (((((p4.toUInt32 >>> ((1 : Int32) &&& 31).toUInt32).toInt32) - (((p4.toUInt32 >>> ((1 : Int32) &&& 31).toUInt32).toInt32) / (3 : Int32)) * (3 : Int32)) - (1 : Int32)).toInt64)))])) rfl (hb hby at_36) _ ?_
    show Steps p.tables e below (s₁.setTop (mkF m 39 #[.val (.int p1), .val (.int p2), .val (.int p3), .val (.int p4), .val (.int p3), .val (.long (((p1.toInt64) + (p2.toInt64)) + (((((p4.toUInt32 >>> ((1 : Int32) &&& 31).toUInt32).toInt32) - (((p4.toUInt32 >>> ((1 : Int32) &&& 31).toUInt32).toInt32) / (3 : Int32)) * (3 : Int32)) - (1 : Int32)).toInt64))), .second, .unset, .unset, .unset] [(.long (2147483647 : Int64)), (.long (((p1.toInt64) + (p2.toInt64)) + (((((p4.toUInt32 >>> ((1 : Int32) &&& 31).toUInt32).toInt32) - (((p4.toUInt32 >>> ((1 : Int32) &&& 31).toUInt32).toInt32) / (3 : Int32)) * (3 : Int32)) - (1 : Int32)).toInt64)))])) _
    refine XS.lcmp X0.here hx rfl (hb hby at_39) rfl ?_
    show Steps p.tables e below (s₁.setTop (mkF m 40 #[.val (.int p1), .val (.int p2), .val (.int p3), .val (.int p4), .val (.int p3), .val (.long (((p1.toInt64) + (p2.toInt64)) + (((((p4.toUInt32 >>> ((1 : Int32) &&& 31).toUInt32).toInt32) - (((p4.toUInt32 >>> ((1 : Int32) &&& 31).toUInt32).toInt32) / (3 : Int32)) * (3 : Int32)) - (1 : Int32)).toInt64))), .second, .unset, .unset, .unset] [(.int (lcmpW (((p1.toInt64) + (p2.toInt64)) + (((((p4.toUInt32 >>> ((1 : Int32) &&& 31).toUInt32).toInt32) - (((p4.toUInt32 >>> ((1 : Int32) &&& 31).toUInt32).toInt32) / (3 : Int32)) * (3 : Int32)) - (1 : Int32)).toInt64)) (2147483647 : Int64)))])) _
    refine XS.ifNo X0.here hx rfl (hb hby at_40) rfl ((if0 _ _).trans (flt hc40).2.2.1) ?_
    show Steps p.tables e below (s₁.setTop (mkF m 43 #[.val (.int p1), .val (.int p2), .val (.int p3), .val (.int p4), .val (.int p3), .val (.long (((p1.toInt64) + (p2.toInt64)) + (((((p4.toUInt32 >>> ((1 : Int32) &&& 31).toUInt32).toInt32) - (((p4.toUInt32 >>> ((1 : Int32) &&& 31).toUInt32).toInt32) / (3 : Int32)) * (3 : Int32)) - (1 : Int32)).toInt64))), .second, .unset, .unset, .unset] [])) _
    refine XS.lload X0.here hx rfl (hb hby at_43) rfl ?_
    show Steps p.tables e below (s₁.setTop (mkF m 45 #[.val (.int p1), .val (.int p2), .val (.int p3), .val (.int p4), .val (.int p3), .val (.long (((p1.toInt64) + (p2.toInt64)) + (((((p4.toUInt32 >>> ((1 : Int32) &&& 31).toUInt32).toInt32) - (((p4.toUInt32 >>> ((1 : Int32) &&& 31).toUInt32).toInt32) / (3 : Int32)) * (3 : Int32)) - (1 : Int32)).toInt64))), .second, .unset, .unset, .unset] [(.long (((p1.toInt64) + (p2.toInt64)) + (((((p4.toUInt32 >>> ((1 : Int32) &&& 31).toUInt32).toInt32) - (((p4.toUInt32 >>> ((1 : Int32) &&& 31).toUInt32).toInt32) / (3 : Int32)) * (3 : Int32)) - (1 : Int32)).toInt64)))])) _
    refine XS.l2i X0.here hx rfl (hb hby at_45) rfl ?_
    show Steps p.tables e below (s₁.setTop (mkF m 46 #[.val (.int p1), .val (.int p2), .val (.int p3), .val (.int p4), .val (.int p3), .val (.long (((p1.toInt64) + (p2.toInt64)) + (((((p4.toUInt32 >>> ((1 : Int32) &&& 31).toUInt32).toInt32) - (((p4.toUInt32 >>> ((1 : Int32) &&& 31).toUInt32).toInt32) / (3 : Int32)) * (3 : Int32)) - (1 : Int32)).toInt64))), .second, .unset, .unset, .unset] [(.int ((((p1.toInt64) + (p2.toInt64)) + (((((p4.toUInt32 >>> ((1 : Int32) &&& 31).toUInt32).toInt32) - (((p4.toUInt32 >>> ((1 : Int32) &&& 31).toUInt32).toInt32) / (3 : Int32)) * (3 : Int32)) - (1 : Int32)).toInt64)).toInt32))])) _
    refine XS.istore X0.here hx rfl (hb hby at_46) rfl (l' := #[.val (.int p1), .val (.int p2), .val (.int p3), .val (.int p4), .val (.int ((((p1.toInt64) + (p2.toInt64)) + (((((p4.toUInt32 >>> ((1 : Int32) &&& 31).toUInt32).toInt32) - (((p4.toUInt32 >>> ((1 : Int32) &&& 31).toUInt32).toInt32) / (3 : Int32)) * (3 : Int32)) - (1 : Int32)).toInt64)).toInt32)), .val (.long (((p1.toInt64) + (p2.toInt64)) + (((((p4.toUInt32 >>> ((1 : Int32) &&& 31).toUInt32).toInt32) - (((p4.toUInt32 >>> ((1 : Int32) &&& 31).toUInt32).toInt32) / (3 : Int32)) * (3 : Int32)) - (1 : Int32)).toInt64))), .second, .unset, .unset, .unset]) rfl ?_
    show Steps p.tables e below (s₁.setTop (mkF m 48 #[.val (.int p1), .val (.int p2), .val (.int p3), .val (.int p4), .val (.int ((((p1.toInt64) + (p2.toInt64)) + (((((p4.toUInt32 >>> ((1 : Int32) &&& 31).toUInt32).toInt32) - (((p4.toUInt32 >>> ((1 : Int32) &&& 31).toUInt32).toInt32) / (3 : Int32)) * (3 : Int32)) - (1 : Int32)).toInt64)).toInt32)), .val (.long (((p1.toInt64) + (p2.toInt64)) + (((((p4.toUInt32 >>> ((1 : Int32) &&& 31).toUInt32).toInt32) - (((p4.toUInt32 >>> ((1 : Int32) &&& 31).toUInt32).toInt32) / (3 : Int32)) * (3 : Int32)) - (1 : Int32)).toInt64))), .second, .unset, .unset, .unset] [])) _
    refine XS.iload X0.here hx rfl (hb hby at_48) rfl ?_
    show Steps p.tables e below (s₁.setTop (mkF m 50 #[.val (.int p1), .val (.int p2), .val (.int p3), .val (.int p4), .val (.int ((((p1.toInt64) + (p2.toInt64)) + (((((p4.toUInt32 >>> ((1 : Int32) &&& 31).toUInt32).toInt32) - (((p4.toUInt32 >>> ((1 : Int32) &&& 31).toUInt32).toInt32) / (3 : Int32)) * (3 : Int32)) - (1 : Int32)).toInt64)).toInt32)), .val (.long (((p1.toInt64) + (p2.toInt64)) + (((((p4.toUInt32 >>> ((1 : Int32) &&& 31).toUInt32).toInt32) - (((p4.toUInt32 >>> ((1 : Int32) &&& 31).toUInt32).toInt32) / (3 : Int32)) * (3 : Int32)) - (1 : Int32)).toInt64))), .second, .unset, .unset, .unset] [(.int ((((p1.toInt64) + (p2.toInt64)) + (((((p4.toUInt32 >>> ((1 : Int32) &&& 31).toUInt32).toInt32) - (((p4.toUInt32 >>> ((1 : Int32) &&& 31).toUInt32).toInt32) / (3 : Int32)) * (3 : Int32)) - (1 : Int32)).toInt64)).toInt32))])) _
    refine XS.i2l X0.here hx rfl (hb hby at_50) rfl ?_
    show Steps p.tables e below (s₁.setTop (mkF m 51 #[.val (.int p1), .val (.int p2), .val (.int p3), .val (.int p4), .val (.int ((((p1.toInt64) + (p2.toInt64)) + (((((p4.toUInt32 >>> ((1 : Int32) &&& 31).toUInt32).toInt32) - (((p4.toUInt32 >>> ((1 : Int32) &&& 31).toUInt32).toInt32) / (3 : Int32)) * (3 : Int32)) - (1 : Int32)).toInt64)).toInt32)), .val (.long (((p1.toInt64) + (p2.toInt64)) + (((((p4.toUInt32 >>> ((1 : Int32) &&& 31).toUInt32).toInt32) - (((p4.toUInt32 >>> ((1 : Int32) &&& 31).toUInt32).toInt32) / (3 : Int32)) * (3 : Int32)) - (1 : Int32)).toInt64))), .second, .unset, .unset, .unset] [(.long (((((p1.toInt64) + (p2.toInt64)) + (((((p4.toUInt32 >>> ((1 : Int32) &&& 31).toUInt32).toInt32) - (((p4.toUInt32 >>> ((1 : Int32) &&& 31).toUInt32).toInt32) / (3 : Int32)) * (3 : Int32)) - (1 : Int32)).toInt64)).toInt32).toInt64))])) _
    refine XS.iloadN X0.here hx rfl (hb hby at_51) rfl ?_
    show Steps p.tables e below (s₁.setTop (mkF m 52 #[.val (.int p1), .val (.int p2), .val (.int p3), .val (.int p4), .val (.int ((((p1.toInt64) + (p2.toInt64)) + (((((p4.toUInt32 >>> ((1 : Int32) &&& 31).toUInt32).toInt32) - (((p4.toUInt32 >>> ((1 : Int32) &&& 31).toUInt32).toInt32) / (3 : Int32)) * (3 : Int32)) - (1 : Int32)).toInt64)).toInt32)), .val (.long (((p1.toInt64) + (p2.toInt64)) + (((((p4.toUInt32 >>> ((1 : Int32) &&& 31).toUInt32).toInt32) - (((p4.toUInt32 >>> ((1 : Int32) &&& 31).toUInt32).toInt32) / (3 : Int32)) * (3 : Int32)) - (1 : Int32)).toInt64))), .second, .unset, .unset, .unset] [(.int p1), (.long (((((p1.toInt64) + (p2.toInt64)) + (((((p4.toUInt32 >>> ((1 : Int32) &&& 31).toUInt32).toInt32) - (((p4.toUInt32 >>> ((1 : Int32) &&& 31).toUInt32).toInt32) / (3 : Int32)) * (3 : Int32)) - (1 : Int32)).toInt64)).toInt32).toInt64))])) _
    refine XS.i2l X0.here hx rfl (hb hby at_52) rfl ?_
    show Steps p.tables e below (s₁.setTop (mkF m 53 #[.val (.int p1), .val (.int p2), .val (.int p3), .val (.int p4), .val (.int ((((p1.toInt64) + (p2.toInt64)) + (((((p4.toUInt32 >>> ((1 : Int32) &&& 31).toUInt32).toInt32) - (((p4.toUInt32 >>> ((1 : Int32) &&& 31).toUInt32).toInt32) / (3 : Int32)) * (3 : Int32)) - (1 : Int32)).toInt64)).toInt32)), .val (.long (((p1.toInt64) + (p2.toInt64)) + (((((p4.toUInt32 >>> ((1 : Int32) &&& 31).toUInt32).toInt32) - (((p4.toUInt32 >>> ((1 : Int32) &&& 31).toUInt32).toInt32) / (3 : Int32)) * (3 : Int32)) - (1 : Int32)).toInt64))), .second, .unset, .unset, .unset] [(.long (p1.toInt64)), (.long (((((p1.toInt64) + (p2.toInt64)) + (((((p4.toUInt32 >>> ((1 : Int32) &&& 31).toUInt32).toInt32) - (((p4.toUInt32 >>> ((1 : Int32) &&& 31).toUInt32).toInt32) / (3 : Int32)) * (3 : Int32)) - (1 : Int32)).toInt64)).toInt32).toInt64))])) _
    refine XS.lsub X0.here hx rfl (hb hby at_53) rfl ?_
    show Steps p.tables e below (s₁.setTop (mkF m 54 #[.val (.int p1), .val (.int p2), .val (.int p3), .val (.int p4), .val (.int ((((p1.toInt64) + (p2.toInt64)) + (((((p4.toUInt32 >>> ((1 : Int32) &&& 31).toUInt32).toInt32) - (((p4.toUInt32 >>> ((1 : Int32) &&& 31).toUInt32).toInt32) / (3 : Int32)) * (3 : Int32)) - (1 : Int32)).toInt64)).toInt32)), .val (.long (((p1.toInt64) + (p2.toInt64)) + (((((p4.toUInt32 >>> ((1 : Int32) &&& 31).toUInt32).toInt32) - (((p4.toUInt32 >>> ((1 : Int32) &&& 31).toUInt32).toInt32) / (3 : Int32)) * (3 : Int32)) - (1 : Int32)).toInt64))), .second, .unset, .unset, .unset] [(.long ((((((p1.toInt64) + (p2.toInt64)) + (((((p4.toUInt32 >>> ((1 : Int32) &&& 31).toUInt32).toInt32) - (((p4.toUInt32 >>> ((1 : Int32) &&& 31).toUInt32).toInt32) / (3 : Int32)) * (3 : Int32)) - (1 : Int32)).toInt64)).toInt32).toInt64) - (p1.toInt64)))])) _
    refine XS.iloadN X0.here hx rfl (hb hby at_54) rfl ?_
    show Steps p.tables e below (s₁.setTop (mkF m 55 #[.val (.int p1), .val (.int p2), .val (.int p3), .val (.int p4), .val (.int ((((p1.toInt64) + (p2.toInt64)) + (((((p4.toUInt32 >>> ((1 : Int32) &&& 31).toUInt32).toInt32) - (((p4.toUInt32 >>> ((1 : Int32) &&& 31).toUInt32).toInt32) / (3 : Int32)) * (3 : Int32)) - (1 : Int32)).toInt64)).toInt32)), .val (.long (((p1.toInt64) + (p2.toInt64)) + (((((p4.toUInt32 >>> ((1 : Int32) &&& 31).toUInt32).toInt32) - (((p4.toUInt32 >>> ((1 : Int32) &&& 31).toUInt32).toInt32) / (3 : Int32)) * (3 : Int32)) - (1 : Int32)).toInt64))), .second, .unset, .unset, .unset] [(.int p2), (.long ((((((p1.toInt64) + (p2.toInt64)) + (((((p4.toUInt32 >>> ((1 : Int32) &&& 31).toUInt32).toInt32) - (((p4.toUInt32 >>> ((1 : Int32) &&& 31).toUInt32).toInt32) / (3 : Int32)) * (3 : Int32)) - (1 : Int32)).toInt64)).toInt32).toInt64) - (p1.toInt64)))])) _
    refine XS.i2l X0.here hx rfl (hb hby at_55) rfl ?_
    show Steps p.tables e below (s₁.setTop (mkF m 56 #[.val (.int p1), .val (.int p2), .val (.int p3), .val (.int p4), .val (.int ((((p1.toInt64) + (p2.toInt64)) + (((((p4.toUInt32 >>> ((1 : Int32) &&& 31).toUInt32).toInt32) - (((p4.toUInt32 >>> ((1 : Int32) &&& 31).toUInt32).toInt32) / (3 : Int32)) * (3 : Int32)) - (1 : Int32)).toInt64)).toInt32)), .val (.long (((p1.toInt64) + (p2.toInt64)) + (((((p4.toUInt32 >>> ((1 : Int32) &&& 31).toUInt32).toInt32) - (((p4.toUInt32 >>> ((1 : Int32) &&& 31).toUInt32).toInt32) / (3 : Int32)) * (3 : Int32)) - (1 : Int32)).toInt64))), .second, .unset, .unset, .unset] [(.long (p2.toInt64)), (.long ((((((p1.toInt64) + (p2.toInt64)) + (((((p4.toUInt32 >>> ((1 : Int32) &&& 31).toUInt32).toInt32) - (((p4.toUInt32 >>> ((1 : Int32) &&& 31).toUInt32).toInt32) / (3 : Int32)) * (3 : Int32)) - (1 : Int32)).toInt64)).toInt32).toInt64) - (p1.toInt64)))])) _
    refine XS.lsub X0.here hx rfl (hb hby at_56) rfl ?_
    show Steps p.tables e below (s₁.setTop (mkF m 57 #[.val (.int p1), .val (.int p2), .val (.int p3), .val (.int p4), .val (.int ((((p1.toInt64) + (p2.toInt64)) + (((((p4.toUInt32 >>> ((1 : Int32) &&& 31).toUInt32).toInt32) - (((p4.toUInt32 >>> ((1 : Int32) &&& 31).toUInt32).toInt32) / (3 : Int32)) * (3 : Int32)) - (1 : Int32)).toInt64)).toInt32)), .val (.long (((p1.toInt64) + (p2.toInt64)) + (((((p4.toUInt32 >>> ((1 : Int32) &&& 31).toUInt32).toInt32) - (((p4.toUInt32 >>> ((1 : Int32) &&& 31).toUInt32).toInt32) / (3 : Int32)) * (3 : Int32)) - (1 : Int32)).toInt64))), .second, .unset, .unset, .unset] [(.long (((((((p1.toInt64) + (p2.toInt64)) + (((((p4.toUInt32 >>> ((1 : Int32) &&& 31).toUInt32).toInt32) - (((p4.toUInt32 >>> ((1 : Int32) &&& 31).toUInt32).toInt32) / (3 : Int32)) * (3 : Int32)) - (1 : Int32)).toInt64)).toInt32).toInt64) - (p1.toInt64)) - (p2.toInt64)))])) _
    refine XS.lstore X0.here hx rfl (hb hby at_57) rfl (l' := #[.val (.int p1), .val (.int p2), .val (.int p3), .val (.int p4), .val (.int ((((p1.toInt64) + (p2.toInt64)) + (((((p4.toUInt32 >>> ((1 : Int32) &&& 31).toUInt32).toInt32) - (((p4.toUInt32 >>> ((1 : Int32) &&& 31).toUInt32).toInt32) / (3 : Int32)) * (3 : Int32)) - (1 : Int32)).toInt64)).toInt32)), .val (.long (((((((p1.toInt64) + (p2.toInt64)) + (((((p4.toUInt32 >>> ((1 : Int32) &&& 31).toUInt32).toInt32) - (((p4.toUInt32 >>> ((1 : Int32) &&& 31).toUInt32).toInt32) / (3 : Int32)) * (3 : Int32)) - (1 : Int32)).toInt64)).toInt32).toInt64) - (p1.toInt64)) - (p2.toInt64))), .second, .unset, .unset, .unset]) rfl ?_
    show Steps p.tables e below (s₁.setTop (mkF m 59 #[.val (.int p1), .val (.int p2), .val (.int p3), .val (.int p4), .val (.int ((((p1.toInt64) + (p2.toInt64)) + (((((p4.toUInt32 >>> ((1 : Int32) &&& 31).toUInt32).toInt32) - (((p4.toUInt32 >>> ((1 : Int32) &&& 31).toUInt32).toInt32) / (3 : Int32)) * (3 : Int32)) - (1 : Int32)).toInt64)).toInt32)), .val (.long (((((((p1.toInt64) + (p2.toInt64)) + (((((p4.toUInt32 >>> ((1 : Int32) &&& 31).toUInt32).toInt32) - (((p4.toUInt32 >>> ((1 : Int32) &&& 31).toUInt32).toInt32) / (3 : Int32)) * (3 : Int32)) - (1 : Int32)).toInt64)).toInt32).toInt64) - (p1.toInt64)) - (p2.toInt64))), .second, .unset, .unset, .unset] [])) _
    refine XS.lload X0.here hx rfl (hb hby at_59) rfl ?_
    show Steps p.tables e below (s₁.setTop (mkF m 61 #[.val (.int p1), .val (.int p2), .val (.int p3), .val (.int p4), .val (.int ((((p1.toInt64) + (p2.toInt64)) + (((((p4.toUInt32 >>> ((1 : Int32) &&& 31).toUInt32).toInt32) - (((p4.toUInt32 >>> ((1 : Int32) &&& 31).toUInt32).toInt32) / (3 : Int32)) * (3 : Int32)) - (1 : Int32)).toInt64)).toInt32)), .val (.long (((((((p1.toInt64) + (p2.toInt64)) + (((((p4.toUInt32 >>> ((1 : Int32) &&& 31).toUInt32).toInt32) - (((p4.toUInt32 >>> ((1 : Int32) &&& 31).toUInt32).toInt32) / (3 : Int32)) * (3 : Int32)) - (1 : Int32)).toInt64)).toInt32).toInt64) - (p1.toInt64)) - (p2.toInt64))), .second, .unset, .unset, .unset] [(.long (((((((p1.toInt64) + (p2.toInt64)) + (((((p4.toUInt32 >>> ((1 : Int32) &&& 31).toUInt32).toInt32) - (((p4.toUInt32 >>> ((1 : Int32) &&& 31).toUInt32).toInt32) / (3 : Int32)) * (3 : Int32)) - (1 : Int32)).toInt64)).toInt32).toInt64) - (p1.toInt64)) - (p2.toInt64)))])) _
    refine XS.lconst X0.here hx rfl (hb hby at_61) ?_
    show Steps p.tables e below (s₁.setTop (mkF m 62 #[.val (.int p1), .val (.int p2), .val (.int p3), .val (.int p4), .val (.int ((((p1.toInt64) + (p2.toInt64)) + (((((p4.toUInt32 >>> ((1 : Int32) &&& 31).toUInt32).toInt32) - (((p4.toUInt32 >>> ((1 : Int32) &&& 31).toUInt32).toInt32) / (3 : Int32)) * (3 : Int32)) - (1 : Int32)).toInt64)).toInt32)), .val (.long (((((((p1.toInt64) + (p2.toInt64)) + (((((p4.toUInt32 >>> ((1 : Int32) &&& 31).toUInt32).toInt32) - (((p4.toUInt32 >>> ((1 : Int32) &&& 31).toUInt32).toInt32) / (3 : Int32)) * (3 : Int32)) - (1 : Int32)).toInt64)).toInt32).toInt64) - (p1.toInt64)) - (p2.toInt64))), .second, .unset, .unset, .unset] [(.long (0 : Int64)), (.long (((((((p1.toInt64) + (p2.toInt64)) + (((((p4.toUInt32 >>> ((1 : Int32) &&& 31).toUInt32).toInt32) - (((p4.toUInt32 >>> ((1 : Int32) &&& 31).toUInt32).toInt32) / (3 : Int32)) * (3 : Int32)) - (1 : Int32)).toInt64)).toInt32).toInt64) - (p1.toInt64)) - (p2.toInt64)))])) _
    refine XS.lcmp X0.here hx rfl (hb hby at_62) rfl ?_
    show Steps p.tables e below (s₁.setTop (mkF m 63 #[.val (.int p1), .val (.int p2), .val (.int p3), .val (.int p4), .val (.int ((((p1.toInt64) + (p2.toInt64)) + (((((p4.toUInt32 >>> ((1 : Int32) &&& 31).toUInt32).toInt32) - (((p4.toUInt32 >>> ((1 : Int32) &&& 31).toUInt32).toInt32) / (3 : Int32)) * (3 : Int32)) - (1 : Int32)).toInt64)).toInt32)), .val (.long (((((((p1.toInt64) + (p2.toInt64)) + (((((p4.toUInt32 >>> ((1 : Int32) &&& 31).toUInt32).toInt32) - (((p4.toUInt32 >>> ((1 : Int32) &&& 31).toUInt32).toInt32) / (3 : Int32)) * (3 : Int32)) - (1 : Int32)).toInt64)).toInt32).toInt64) - (p1.toInt64)) - (p2.toInt64))), .second, .unset, .unset, .unset] [(.int (lcmpW (((((((p1.toInt64) + (p2.toInt64)) + (((((p4.toUInt32 >>> ((1 : Int32) &&& 31).toUInt32).toInt32) - (((p4.toUInt32 >>> ((1 : Int32) &&& 31).toUInt32).toInt32) / (3 : Int32)) * (3 : Int32)) - (1 : Int32)).toInt64)).toInt32).toInt64) - (p1.toInt64)) - (p2.toInt64)) (0 : Int64)))])) _
    refine XS.ifNo X0.here hx rfl (hb hby at_63) rfl ((if0 _ _).trans (flt hc63).1) ?_
    show Steps p.tables e below (s₁.setTop (mkF m 66 #[.val (.int p1), .val (.int p2), .val (.int p3), .val (.int p4), .val (.int ((((p1.toInt64) + (p2.toInt64)) + (((((p4.toUInt32 >>> ((1 : Int32) &&& 31).toUInt32).toInt32) - (((p4.toUInt32 >>> ((1 : Int32) &&& 31).toUInt32).toInt32) / (3 : Int32)) * (3 : Int32)) - (1 : Int32)).toInt64)).toInt32)), .val (.long (((((((p1.toInt64) + (p2.toInt64)) + (((((p4.toUInt32 >>> ((1 : Int32) &&& 31).toUInt32).toInt32) - (((p4.toUInt32 >>> ((1 : Int32) &&& 31).toUInt32).toInt32) / (3 : Int32)) * (3 : Int32)) - (1 : Int32)).toInt64)).toInt32).toInt64) - (p1.toInt64)) - (p2.toInt64))), .second, .unset, .unset, .unset] [])) _
    refine XS.iconst X0.here hx rfl (hb hby at_66) ?_
    show Steps p.tables e below (s₁.setTop (mkF m 67 #[.val (.int p1), .val (.int p2), .val (.int p3), .val (.int p4), .val (.int ((((p1.toInt64) + (p2.toInt64)) + (((((p4.toUInt32 >>> ((1 : Int32) &&& 31).toUInt32).toInt32) - (((p4.toUInt32 >>> ((1 : Int32) &&& 31).toUInt32).toInt32) / (3 : Int32)) * (3 : Int32)) - (1 : Int32)).toInt64)).toInt32)), .val (.long (((((((p1.toInt64) + (p2.toInt64)) + (((((p4.toUInt32 >>> ((1 : Int32) &&& 31).toUInt32).toInt32) - (((p4.toUInt32 >>> ((1 : Int32) &&& 31).toUInt32).toInt32) / (3 : Int32)) * (3 : Int32)) - (1 : Int32)).toInt64)).toInt32).toInt64) - (p1.toInt64)) - (p2.toInt64))), .second, .unset, .unset, .unset] [(.int (1 : Int32))])) _
    refine XS.goto X0.here hx rfl (pc0 := 67) (pc' := 71) rfl (hb hby at_67) (by decide) (by decide) ?_
    show Steps p.tables e below (s₁.setTop (mkF m 71 #[.val (.int p1), .val (.int p2), .val (.int p3), .val (.int p4), .val (.int ((((p1.toInt64) + (p2.toInt64)) + (((((p4.toUInt32 >>> ((1 : Int32) &&& 31).toUInt32).toInt32) - (((p4.toUInt32 >>> ((1 : Int32) &&& 31).toUInt32).toInt32) / (3 : Int32)) * (3 : Int32)) - (1 : Int32)).toInt64)).toInt32)), .val (.long (((((((p1.toInt64) + (p2.toInt64)) + (((((p4.toUInt32 >>> ((1 : Int32) &&& 31).toUInt32).toInt32) - (((p4.toUInt32 >>> ((1 : Int32) &&& 31).toUInt32).toInt32) / (3 : Int32)) * (3 : Int32)) - (1 : Int32)).toInt64)).toInt32).toInt64) - (p1.toInt64)) - (p2.toInt64))), .second, .unset, .unset, .unset] [(.int (1 : Int32))])) _
    refine XS.istore X0.here hx rfl (hb hby at_71) rfl (l' := #[.val (.int p1), .val (.int p2), .val (.int p3), .val (.int p4), .val (.int ((((p1.toInt64) + (p2.toInt64)) + (((((p4.toUInt32 >>> ((1 : Int32) &&& 31).toUInt32).toInt32) - (((p4.toUInt32 >>> ((1 : Int32) &&& 31).toUInt32).toInt32) / (3 : Int32)) * (3 : Int32)) - (1 : Int32)).toInt64)).toInt32)), .val (.long (((((((p1.toInt64) + (p2.toInt64)) + (((((p4.toUInt32 >>> ((1 : Int32) &&& 31).toUInt32).toInt32) - (((p4.toUInt32 >>> ((1 : Int32) &&& 31).toUInt32).toInt32) / (3 : Int32)) * (3 : Int32)) - (1 : Int32)).toInt64)).toInt32).toInt64) - (p1.toInt64)) - (p2.toInt64))), .second, .val (.int (1 : Int32)), .unset, .unset]) rfl ?_
    show Steps p.tables e below (s₁.setTop (mkF m 73 #[.val (.int p1), .val (.int p2), .val (.int p3), .val (.int p4), .val (.int ((((p1.toInt64) + (p2.toInt64)) + (((((p4.toUInt32 >>> ((1 : Int32) &&& 31).toUInt32).toInt32) - (((p4.toUInt32 >>> ((1 : Int32) &&& 31).toUInt32).toInt32) / (3 : Int32)) * (3 : Int32)) - (1 : Int32)).toInt64)).toInt32)), .val (.long (((((((p1.toInt64) + (p2.toInt64)) + (((((p4.toUInt32 >>> ((1 : Int32) &&& 31).toUInt32).toInt32) - (((p4.toUInt32 >>> ((1 : Int32) &&& 31).toUInt32).toInt32) / (3 : Int32)) * (3 : Int32)) - (1 : Int32)).toInt64)).toInt32).toInt64) - (p1.toInt64)) - (p2.toInt64))), .second, .val (.int (1 : Int32)), .unset, .unset] [])) _
    refine XS.iloadN X0.here hx rfl (hb hby at_73) rfl ?_
    show Steps p.tables e below (s₁.setTop (mkF m 74 #[.val (.int p1), .val (.int p2), .val (.int p3), .val (.int p4), .val (.int ((((p1.toInt64) + (p2.toInt64)) + (((((p4.toUInt32 >>> ((1 : Int32) &&& 31).toUInt32).toInt32) - (((p4.toUInt32 >>> ((1 : Int32) &&& 31).toUInt32).toInt32) / (3 : Int32)) * (3 : Int32)) - (1 : Int32)).toInt64)).toInt32)), .val (.long (((((((p1.toInt64) + (p2.toInt64)) + (((((p4.toUInt32 >>> ((1 : Int32) &&& 31).toUInt32).toInt32) - (((p4.toUInt32 >>> ((1 : Int32) &&& 31).toUInt32).toInt32) / (3 : Int32)) * (3 : Int32)) - (1 : Int32)).toInt64)).toInt32).toInt64) - (p1.toInt64)) - (p2.toInt64))), .second, .val (.int (1 : Int32)), .unset, .unset] [(.int p1)])) _
    refine XS.iloadN X0.here hx rfl (hb hby at_74) rfl ?_
    show Steps p.tables e below (s₁.setTop (mkF m 75 #[.val (.int p1), .val (.int p2), .val (.int p3), .val (.int p4), .val (.int ((((p1.toInt64) + (p2.toInt64)) + (((((p4.toUInt32 >>> ((1 : Int32) &&& 31).toUInt32).toInt32) - (((p4.toUInt32 >>> ((1 : Int32) &&& 31).toUInt32).toInt32) / (3 : Int32)) * (3 : Int32)) - (1 : Int32)).toInt64)).toInt32)), .val (.long (((((((p1.toInt64) + (p2.toInt64)) + (((((p4.toUInt32 >>> ((1 : Int32) &&& 31).toUInt32).toInt32) - (((p4.toUInt32 >>> ((1 : Int32) &&& 31).toUInt32).toInt32) / (3 : Int32)) * (3 : Int32)) - (1 : Int32)).toInt64)).toInt32).toInt64) - (p1.toInt64)) - (p2.toInt64))), .second, .val (.int (1 : Int32)), .unset, .unset] [(.int p2), (.int p1)])) _
    refine XS.iload X0.here hx rfl (hb hby at_75) rfl ?_
    show Steps p.tables e below (s₁.setTop (mkF m 77 #[.val (.int p1), .val (.int p2), .val (.int p3), .val (.int p4), .val (.int ((((p1.toInt64) + (p2.toInt64)) + (((((p4.toUInt32 >>> ((1 : Int32) &&& 31).toUInt32).toInt32) - (((p4.toUInt32 >>> ((1 : Int32) &&& 31).toUInt32).toInt32) / (3 : Int32)) * (3 : Int32)) - (1 : Int32)).toInt64)).toInt32)), .val (.long (((((((p1.toInt64) + (p2.toInt64)) + (((((p4.toUInt32 >>> ((1 : Int32) &&& 31).toUInt32).toInt32) - (((p4.toUInt32 >>> ((1 : Int32) &&& 31).toUInt32).toInt32) / (3 : Int32)) * (3 : Int32)) - (1 : Int32)).toInt64)).toInt32).toInt64) - (p1.toInt64)) - (p2.toInt64))), .second, .val (.int (1 : Int32)), .unset, .unset] [(.int ((((p1.toInt64) + (p2.toInt64)) + (((((p4.toUInt32 >>> ((1 : Int32) &&& 31).toUInt32).toInt32) - (((p4.toUInt32 >>> ((1 : Int32) &&& 31).toUInt32).toInt32) / (3 : Int32)) * (3 : Int32)) - (1 : Int32)).toInt64)).toInt32)), (.int p2), (.int p1)])) _
    refine st5 _ ?_
    show Steps p.tables e below (T5.setTop (mkF m 80 #[.val (.int p1), .val (.int p2), .val (.int p3), .val (.int p4), .val (.int ((((p1.toInt64) + (p2.toInt64)) + (((((p4.toUInt32 >>> ((1 : Int32) &&& 31).toUInt32).toInt32) - (((p4.toUInt32 >>> ((1 : Int32) &&& 31).toUInt32).toInt32) / (3 : Int32)) * (3 : Int32)) - (1 : Int32)).toInt64)).toInt32)), .val (.long (((((((p1.toInt64) + (p2.toInt64)) + (((((p4.toUInt32 >>> ((1 : Int32) &&& 31).toUInt32).toInt32) - (((p4.toUInt32 >>> ((1 : Int32) &&& 31).toUInt32).toInt32) / (3 : Int32)) * (3 : Int32)) - (1 : Int32)).toInt64)).toInt32).toInt64) - (p1.toInt64)) - (p2.toInt64))), .second, .val (.int (1 : Int32)), .unset, .unset] [(.int (F1 p1 p2 ((((p1.toInt64) + (p2.toInt64)) + (((((p4.toUInt32 >>> ((1 : Int32) &&& 31).toUInt32).toInt32) - (((p4.toUInt32 >>> ((1 : Int32) &&& 31).toUInt32).toInt32) / (3 : Int32)) * (3 : Int32)) - (1 : Int32)).toInt64)).toInt32)))])) _
    refine XS.istore X5.here hx rfl (hb hby at_80) rfl (l' := #[.val (.int p1), .val (.int p2), .val (.int p3), .val (.int p4), .val (.int ((((p1.toInt64) + (p2.toInt64)) + (((((p4.toUInt32 >>> ((1 : Int32) &&& 31).toUInt32).toInt32) - (((p4.toUInt32 >>> ((1 : Int32) &&& 31).toUInt32).toInt32) / (3 : Int32)) * (3 : Int32)) - (1 : Int32)).toInt64)).toInt32)), .val (.long (((((((p1.toInt64) + (p2.toInt64)) + (((((p4.toUInt32 >>> ((1 : Int32) &&& 31).toUInt32).toInt32) - (((p4.toUInt32 >>> ((1 : Int32) &&& 31).toUInt32).toInt32) / (3 : Int32)) * (3 : Int32)) - (1 : Int32)).toInt64)).toInt32).toInt64) - (p1.toInt64)) - (p2.toInt64))), .second, .val (.int (1 : Int32)), .val (.int (F1 p1 p2 ((((p1.toInt64) + (p2.toInt64)) + (((((p4.toUInt32 >>> ((1 : Int32) &&& 31).toUInt32).toInt32) - (((p4.toUInt32 >>> ((1 : Int32) &&& 31).toUInt32).toInt32) / (3 : Int32)) * (3 : Int32)) - (1 : Int32)).toInt64)).toInt32))), .unset]) rfl ?_
    show Steps p.tables e below (T5.setTop (mkF m 82 #[.val (.int p1), .val (.int p2), .val (.int p3), .val (.int p4), .val (.int ((((p1.toInt64) + (p2.toInt64)) + (((((p4.toUInt32 >>> ((1 : Int32) &&& 31).toUInt32).toInt32) - (((p4.toUInt32 >>> ((1 : Int32) &&& 31).toUInt32).toInt32) / (3 : Int32)) * (3 : Int32)) - (1 : Int32)).toInt64)).toInt32)), .val (.long (((((((p1.toInt64) + (p2.toInt64)) + (((((p4.toUInt32 >>> ((1 : Int32) &&& 31).toUInt32).toInt32) - (((p4.toUInt32 >>> ((1 : Int32) &&& 31).toUInt32).toInt32) / (3 : Int32)) * (3 : Int32)) - (1 : Int32)).toInt64)).toInt32).toInt64) - (p1.toInt64)) - (p2.toInt64))), .second, .val (.int (1 : Int32)), .val (.int (F1 p1 p2 ((((p1.toInt64) + (p2.toInt64)) + (((((p4.toUInt32 >>> ((1 : Int32) &&& 31).toUInt32).toInt32) - (((p4.toUInt32 >>> ((1 : Int32) &&& 31).toUInt32).toInt32) / (3 : Int32)) * (3 : Int32)) - (1 : Int32)).toInt64)).toInt32))), .unset] [])) _
    refine XS.iloadN X5.here hx rfl (hb hby at_82) rfl ?_
    show Steps p.tables e below (T5.setTop (mkF m 83 #[.val (.int p1), .val (.int p2), .val (.int p3), .val (.int p4), .val (.int ((((p1.toInt64) + (p2.toInt64)) + (((((p4.toUInt32 >>> ((1 : Int32) &&& 31).toUInt32).toInt32) - (((p4.toUInt32 >>> ((1 : Int32) &&& 31).toUInt32).toInt32) / (3 : Int32)) * (3 : Int32)) - (1 : Int32)).toInt64)).toInt32)), .val (.long (((((((p1.toInt64) + (p2.toInt64)) + (((((p4.toUInt32 >>> ((1 : Int32) &&& 31).toUInt32).toInt32) - (((p4.toUInt32 >>> ((1 : Int32) &&& 31).toUInt32).toInt32) / (3 : Int32)) * (3 : Int32)) - (1 : Int32)).toInt64)).toInt32).toInt64) - (p1.toInt64)) - (p2.toInt64))), .second, .val (.int (1 : Int32)), .val (.int (F1 p1 p2 ((((p1.toInt64) + (p2.toInt64)) + (((((p4.toUInt32 >>> ((1 : Int32) &&& 31).toUInt32).toInt32) - (((p4.toUInt32 >>> ((1 : Int32) &&& 31).toUInt32).toInt32) / (3 : Int32)) * (3 : Int32)) - (1 : Int32)).toInt64)).toInt32))), .unset] [(.int p2)])) _
    refine XS.iloadN X5.here hx rfl (hb hby at_83) rfl ?_
    show Steps p.tables e below (T5.setTop (mkF m 84 #[.val (.int p1), .val (.int p2), .val (.int p3), .val (.int p4), .val (.int ((((p1.toInt64) + (p2.toInt64)) + (((((p4.toUInt32 >>> ((1 : Int32) &&& 31).toUInt32).toInt32) - (((p4.toUInt32 >>> ((1 : Int32) &&& 31).toUInt32).toInt32) / (3 : Int32)) * (3 : Int32)) - (1 : Int32)).toInt64)).toInt32)), .val (.long (((((((p1.toInt64) + (p2.toInt64)) + (((((p4.toUInt32 >>> ((1 : Int32) &&& 31).toUInt32).toInt32) - (((p4.toUInt32 >>> ((1 : Int32) &&& 31).toUInt32).toInt32) / (3 : Int32)) * (3 : Int32)) - (1 : Int32)).toInt64)).toInt32).toInt64) - (p1.toInt64)) - (p2.toInt64))), .second, .val (.int (1 : Int32)), .val (.int (F1 p1 p2 ((((p1.toInt64) + (p2.toInt64)) + (((((p4.toUInt32 >>> ((1 : Int32) &&& 31).toUInt32).toInt32) - (((p4.toUInt32 >>> ((1 : Int32) &&& 31).toUInt32).toInt32) / (3 : Int32)) * (3 : Int32)) - (1 : Int32)).toInt64)).toInt32))), .unset] [(.int p1), (.int p2)])) _
    refine XS.iload X5.here hx rfl (hb hby at_84) rfl ?_
    show Steps p.tables e below (T5.setTop (mkF m 86 #[.val (.int p1), .val (.int p2), .val (.int p3), .val (.int p4), .val (.int ((((p1.toInt64) + (p2.toInt64)) + (((((p4.toUInt32 >>> ((1 : Int32) &&& 31).toUInt32).toInt32) - (((p4.toUInt32 >>> ((1 : Int32) &&& 31).toUInt32).toInt32) / (3 : Int32)) * (3 : Int32)) - (1 : Int32)).toInt64)).toInt32)), .val (.long (((((((p1.toInt64) + (p2.toInt64)) + (((((p4.toUInt32 >>> ((1 : Int32) &&& 31).toUInt32).toInt32) - (((p4.toUInt32 >>> ((1 : Int32) &&& 31).toUInt32).toInt32) / (3 : Int32)) * (3 : Int32)) - (1 : Int32)).toInt64)).toInt32).toInt64) - (p1.toInt64)) - (p2.toInt64))), .second, .val (.int (1 : Int32)), .val (.int (F1 p1 p2 ((((p1.toInt64) + (p2.toInt64)) + (((((p4.toUInt32 >>> ((1 : Int32) &&& 31).toUInt32).toInt32) - (((p4.toUInt32 >>> ((1 : Int32) &&& 31).toUInt32).toInt32) / (3 : Int32)) * (3 : Int32)) - (1 : Int32)).toInt64)).toInt32))), .unset] [(.int ((((p1.toInt64) + (p2.toInt64)) + (((((p4.toUInt32 >>> ((1 : Int32) &&& 31).toUInt32).toInt32) - (((p4.toUInt32 >>> ((1 : Int32) &&& 31).toUInt32).toInt32) / (3 : Int32)) * (3 : Int32)) - (1 : Int32)).toInt64)).toInt32)), (.int p1), (.int p2)])) _
    refine st6 _ ?_
    show Steps p.tables e below (T6.setTop (mkF m 89 #[.val (.int p1), .val (.int p2), .val (.int p3), .val (.int p4), .val (.int ((((p1.toInt64) + (p2.toInt64)) + (((((p4.toUInt32 >>> ((1 : Int32) &&& 31).toUInt32).toInt32) - (((p4.toUInt32 >>> ((1 : Int32) &&& 31).toUInt32).toInt32) / (3 : Int32)) * (3 : Int32)) - (1 : Int32)).toInt64)).toInt32)), .val (.long (((((((p1.toInt64) + (p2.toInt64)) + (((((p4.toUInt32 >>> ((1 : Int32) &&& 31).toUInt32).toInt32) - (((p4.toUInt32 >>> ((1 : Int32) &&& 31).toUInt32).toInt32) / (3 : Int32)) * (3 : Int32)) - (1 : Int32)).toInt64)).toInt32).toInt64) - (p1.toInt64)) - (p2.toInt64))), .second, .val (.int (1 : Int32)), .val (.int (F1 p1 p2 ((((p1.toInt64) + (p2.toInt64)) + (((((p4.toUInt32 >>> ((1 : Int32) &&& 31).toUInt32).toInt32) - (((p4.toUInt32 >>> ((1 : Int32) &&& 31).toUInt32).toInt32) / (3 : Int32)) * (3 : Int32)) - (1 : Int32)).toInt64)).toInt32))), .unset] [(.int (F1 p2 p1 ((((p1.toInt64) + (p2.toInt64)) + (((((p4.toUInt32 >>> ((1 : Int32) &&& 31).toUInt32).toInt32) - (((p4.toUInt32 >>> ((1 : Int32) &&& 31).toUInt32).toInt32) / (3 : Int32)) * (3 : Int32)) - (1 : Int32)).toInt64)).toInt32)))])) _
    refine XS.istore X6.here hx rfl (hb hby at_89) rfl (l' := #[.val (.int p1), .val (.int p2), .val (.int p3), .val (.int p4), .val (.int ((((p1.toInt64) + (p2.toInt64)) + (((((p4.toUInt32 >>> ((1 : Int32) &&& 31).toUInt32).toInt32) - (((p4.toUInt32 >>> ((1 : Int32) &&& 31).toUInt32).toInt32) / (3 : Int32)) * (3 : Int32)) - (1 : Int32)).toInt64)).toInt32)), .val (.long (((((((p1.toInt64) + (p2.toInt64)) + (((((p4.toUInt32 >>> ((1 : Int32) &&& 31).toUInt32).toInt32) - (((p4.toUInt32 >>> ((1 : Int32) &&& 31).toUInt32).toInt32) / (3 : Int32)) * (3 : Int32)) - (1 : Int32)).toInt64)).toInt32).toInt64) - (p1.toInt64)) - (p2.toInt64))), .second, .val (.int (1 : Int32)), .val (.int (F1 p1 p2 ((((p1.toInt64) + (p2.toInt64)) + (((((p4.toUInt32 >>> ((1 : Int32) &&& 31).toUInt32).toInt32) - (((p4.toUInt32 >>> ((1 : Int32) &&& 31).toUInt32).toInt32) / (3 : Int32)) * (3 : Int32)) - (1 : Int32)).toInt64)).toInt32))), .val (.int (F1 p2 p1 ((((p1.toInt64) + (p2.toInt64)) + (((((p4.toUInt32 >>> ((1 : Int32) &&& 31).toUInt32).toInt32) - (((p4.toUInt32 >>> ((1 : Int32) &&& 31).toUInt32).toInt32) / (3 : Int32)) * (3 : Int32)) - (1 : Int32)).toInt64)).toInt32)))]) rfl ?_
    show Steps p.tables e below (T6.setTop (mkF m 91 #[.val (.int p1), .val (.int p2), .val (.int p3), .val (.int p4), .val (.int ((((p1.toInt64) + (p2.toInt64)) + (((((p4.toUInt32 >>> ((1 : Int32) &&& 31).toUInt32).toInt32) - (((p4.toUInt32 >>> ((1 : Int32) &&& 31).toUInt32).toInt32) / (3 : Int32)) * (3 : Int32)) - (1 : Int32)).toInt64)).toInt32)), .val (.long (((((((p1.toInt64) + (p2.toInt64)) + (((((p4.toUInt32 >>> ((1 : Int32) &&& 31).toUInt32).toInt32) - (((p4.toUInt32 >>> ((1 : Int32) &&& 31).toUInt32).toInt32) / (3 : Int32)) * (3 : Int32)) - (1 : Int32)).toInt64)).toInt32).toInt64) - (p1.toInt64)) - (p2.toInt64))), .second, .val (.int (1 : Int32)), .val (.int (F1 p1 p2 ((((p1.toInt64) + (p2.toInt64)) + (((((p4.toUInt32 >>> ((1 : Int32) &&& 31).toUInt32).toInt32) - (((p4.toUInt32 >>> ((1 : Int32) &&& 31).toUInt32).toInt32) / (3 : Int32)) * (3 : Int32)) - (1 : Int32)).toInt64)).toInt32))), .val (.int (F1 p2 p1 ((((p1.toInt64) + (p2.toInt64)) + (((((p4.toUInt32 >>> ((1 : Int32) &&& 31).toUInt32).toInt32) - (((p4.toUInt32 >>> ((1 : Int32) &&& 31).toUInt32).toInt32) / (3 : Int32)) * (3 : Int32)) - (1 : Int32)).toInt64)).toInt32)))] [])) _
    refine XS.iload X6.here hx rfl (hb hby at_91) rfl ?_
    show Steps p.tables e below (T6.setTop (mkF m 93 #[.val (.int p1), .val (.int p2), .val (.int p3), .val (.int p4), .val (.int ((((p1.toInt64) + (p2.toInt64)) + (((((p4.toUInt32 >>> ((1 : Int32) &&& 31).toUInt32).toInt32) - (((p4.toUInt32 >>> ((1 : Int32) &&& 31).toUInt32).toInt32) / (3 : Int32)) * (3 : Int32)) - (1 : Int32)).toInt64)).toInt32)), .val (.long (((((((p1.toInt64) + (p2.toInt64)) + (((((p4.toUInt32 >>> ((1 : Int32) &&& 31).toUInt32).toInt32) - (((p4.toUInt32 >>> ((1 : Int32) &&& 31).toUInt32).toInt32) / (3 : Int32)) * (3 : Int32)) - (1 : Int32)).toInt64)).toInt32).toInt64) - (p1.toInt64)) - (p2.toInt64))), .second, .val (.int (1 : Int32)), .val (.int (F1 p1 p2 ((((p1.toInt64) + (p2.toInt64)) + (((((p4.toUInt32 >>> ((1 : Int32) &&& 31).toUInt32).toInt32) - (((p4.toUInt32 >>> ((1 : Int32) &&& 31).toUInt32).toInt32) / (3 : Int32)) * (3 : Int32)) - (1 : Int32)).toInt64)).toInt32))), .val (.int (F1 p2 p1 ((((p1.toInt64) + (p2.toInt64)) + (((((p4.toUInt32 >>> ((1 : Int32) &&& 31).toUInt32).toInt32) - (((p4.toUInt32 >>> ((1 : Int32) &&& 31).toUInt32).toInt32) / (3 : Int32)) * (3 : Int32)) - (1 : Int32)).toInt64)).toInt32)))] [(.int (F1 p1 p2 ((((p1.toInt64) + (p2.toInt64)) + (((((p4.toUInt32 >>> ((1 : Int32) &&& 31).toUInt32).toInt32) - (((p4.toUInt32 >>> ((1 : Int32) &&& 31).toUInt32).toInt32) / (3 : Int32)) * (3 : Int32)) - (1 : Int32)).toInt64)).toInt32)))])) _
    refine XS.iload X6.here hx rfl (hb hby at_93) rfl ?_
    show Steps p.tables e below (T6.setTop (mkF m 95 #[.val (.int p1), .val (.int p2), .val (.int p3), .val (.int p4), .val (.int ((((p1.toInt64) + (p2.toInt64)) + (((((p4.toUInt32 >>> ((1 : Int32) &&& 31).toUInt32).toInt32) - (((p4.toUInt32 >>> ((1 : Int32) &&& 31).toUInt32).toInt32) / (3 : Int32)) * (3 : Int32)) - (1 : Int32)).toInt64)).toInt32)), .val (.long (((((((p1.toInt64) + (p2.toInt64)) + (((((p4.toUInt32 >>> ((1 : Int32) &&& 31).toUInt32).toInt32) - (((p4.toUInt32 >>> ((1 : Int32) &&& 31).toUInt32).toInt32) / (3 : Int32)) * (3 : Int32)) - (1 : Int32)).toInt64)).toInt32).toInt64) - (p1.toInt64)) - (p2.toInt64))), .second, .val (.int (1 : Int32)), .val (.int (F1 p1 p2 ((((p1.toInt64) + (p2.toInt64)) + (((((p4.toUInt32 >>> ((1 : Int32) &&& 31).toUInt32).toInt32) - (((p4.toUInt32 >>> ((1 : Int32) &&& 31).toUInt32).toInt32) / (3 : Int32)) * (3 : Int32)) - (1 : Int32)).toInt64)).toInt32))), .val (.int (F1 p2 p1 ((((p1.toInt64) + (p2.toInt64)) + (((((p4.toUInt32 >>> ((1 : Int32) &&& 31).toUInt32).toInt32) - (((p4.toUInt32 >>> ((1 : Int32) &&& 31).toUInt32).toInt32) / (3 : Int32)) * (3 : Int32)) - (1 : Int32)).toInt64)).toInt32)))] [(.int (1 : Int32)), (.int (F1 p1 p2 ((((p1.toInt64) + (p2.toInt64)) + (((((p4.toUInt32 >>> ((1 : Int32) &&& 31).toUInt32).toInt32) - (((p4.toUInt32 >>> ((1 : Int32) &&& 31).toUInt32).toInt32) / (3 : Int32)) * (3 : Int32)) - (1 : Int32)).toInt64)).toInt32)))])) _
    refine XS.icmpNo X6.here hx rfl (hb hby at_95) rfl (teq (own_pos _ _ _ hc63 : (F1 p1 p2 ((((p1.toInt64) + (p2.toInt64)) + (((((p4.toUInt32 >>> ((1 : Int32) &&& 31).toUInt32).toInt32) - (((p4.toUInt32 >>> ((1 : Int32) &&& 31).toUInt32).toInt32) / (3 : Int32)) * (3 : Int32)) - (1 : Int32)).toInt64)).toInt32)) = (1 : Int32))).2 ?_
    show Steps p.tables e below (T6.setTop (mkF m 98 #[.val (.int p1), .val (.int p2), .val (.int p3), .val (.int p4), .val (.int ((((p1.toInt64) + (p2.toInt64)) + (((((p4.toUInt32 >>> ((1 : Int32) &&& 31).toUInt32).toInt32) - (((p4.toUInt32 >>> ((1 : Int32) &&& 31).toUInt32).toInt32) / (3 : Int32)) * (3 : Int32)) - (1 : Int32)).toInt64)).toInt32)), .val (.long (((((((p1.toInt64) + (p2.toInt64)) + (((((p4.toUInt32 >>> ((1 : Int32) &&& 31).toUInt32).toInt32) - (((p4.toUInt32 >>> ((1 : Int32) &&& 31).toUInt32).toInt32) / (3 : Int32)) * (3 : Int32)) - (1 : Int32)).toInt64)).toInt32).toInt64) - (p1.toInt64)) - (p2.toInt64))), .second, .val (.int (1 : Int32)), .val (.int (F1 p1 p2 ((((p1.toInt64) + (p2.toInt64)) + (((((p4.toUInt32 >>> ((1 : Int32) &&& 31).toUInt32).toInt32) - (((p4.toUInt32 >>> ((1 : Int32) &&& 31).toUInt32).toInt32) / (3 : Int32)) * (3 : Int32)) - (1 : Int32)).toInt64)).toInt32))), .val (.int (F1 p2 p1 ((((p1.toInt64) + (p2.toInt64)) + (((((p4.toUInt32 >>> ((1 : Int32) &&& 31).toUInt32).toInt32) - (((p4.toUInt32 >>> ((1 : Int32) &&& 31).toUInt32).toInt32) / (3 : Int32)) * (3 : Int32)) - (1 : Int32)).toInt64)).toInt32)))] [])) _
    refine XS.iload X6.here hx rfl (hb hby at_98) rfl ?_
    show Steps p.tables e below (T6.setTop (mkF m 100 #[.val (.int p1), .val (.int p2), .val (.int p3), .val (.int p4), .val (.int ((((p1.toInt64) + (p2.toInt64)) + (((((p4.toUInt32 >>> ((1 : Int32) &&& 31).toUInt32).toInt32) - (((p4.toUInt32 >>> ((1 : Int32) &&& 31).toUInt32).toInt32) / (3 : Int32)) * (3 : Int32)) - (1 : Int32)).toInt64)).toInt32)), .val (.long (((((((p1.toInt64) + (p2.toInt64)) + (((((p4.toUInt32 >>> ((1 : Int32) &&& 31).toUInt32).toInt32) - (((p4.toUInt32 >>> ((1 : Int32) &&& 31).toUInt32).toInt32) / (3 : Int32)) * (3 : Int32)) - (1 : Int32)).toInt64)).toInt32).toInt64) - (p1.toInt64)) - (p2.toInt64))), .second, .val (.int (1 : Int32)), .val (.int (F1 p1 p2 ((((p1.toInt64) + (p2.toInt64)) + (((((p4.toUInt32 >>> ((1 : Int32) &&& 31).toUInt32).toInt32) - (((p4.toUInt32 >>> ((1 : Int32) &&& 31).toUInt32).toInt32) / (3 : Int32)) * (3 : Int32)) - (1 : Int32)).toInt64)).toInt32))), .val (.int (F1 p2 p1 ((((p1.toInt64) + (p2.toInt64)) + (((((p4.toUInt32 >>> ((1 : Int32) &&& 31).toUInt32).toInt32) - (((p4.toUInt32 >>> ((1 : Int32) &&& 31).toUInt32).toInt32) / (3 : Int32)) * (3 : Int32)) - (1 : Int32)).toInt64)).toInt32)))] [(.int (F1 p2 p1 ((((p1.toInt64) + (p2.toInt64)) + (((((p4.toUInt32 >>> ((1 : Int32) &&& 31).toUInt32).toInt32) - (((p4.toUInt32 >>> ((1 : Int32) &&& 31).toUInt32).toInt32) / (3 : Int32)) * (3 : Int32)) - (1 : Int32)).toInt64)).toInt32)))])) _
    refine XS.iload X6.here hx rfl (hb hby at_100) rfl ?_
    show Steps p.tables e below (T6.setTop (mkF m 102 #[.val (.int p1), .val (.int p2), .val (.int p3), .val (.int p4), .val (.int ((((p1.toInt64) + (p2.toInt64)) + (((((p4.toUInt32 >>> ((1 : Int32) &&& 31).toUInt32).toInt32) - (((p4.toUInt32 >>> ((1 : Int32) &&& 31).toUInt32).toInt32) / (3 : Int32)) * (3 : Int32)) - (1 : Int32)).toInt64)).toInt32)), .val (.long (((((((p1.toInt64) + (p2.toInt64)) + (((((p4.toUInt32 >>> ((1 : Int32) &&& 31).toUInt32).toInt32) - (((p4.toUInt32 >>> ((1 : Int32) &&& 31).toUInt32).toInt32) / (3 : Int32)) * (3 : Int32)) - (1 : Int32)).toInt64)).toInt32).toInt64) - (p1.toInt64)) - (p2.toInt64))), .second, .val (.int (1 : Int32)), .val (.int (F1 p1 p2 ((((p1.toInt64) + (p2.toInt64)) + (((((p4.toUInt32 >>> ((1 : Int32) &&& 31).toUInt32).toInt32) - (((p4.toUInt32 >>> ((1 : Int32) &&& 31).toUInt32).toInt32) / (3 : Int32)) * (3 : Int32)) - (1 : Int32)).toInt64)).toInt32))), .val (.int (F1 p2 p1 ((((p1.toInt64) + (p2.toInt64)) + (((((p4.toUInt32 >>> ((1 : Int32) &&& 31).toUInt32).toInt32) - (((p4.toUInt32 >>> ((1 : Int32) &&& 31).toUInt32).toInt32) / (3 : Int32)) * (3 : Int32)) - (1 : Int32)).toInt64)).toInt32)))] [(.int (F1 p1 p2 ((((p1.toInt64) + (p2.toInt64)) + (((((p4.toUInt32 >>> ((1 : Int32) &&& 31).toUInt32).toInt32) - (((p4.toUInt32 >>> ((1 : Int32) &&& 31).toUInt32).toInt32) / (3 : Int32)) * (3 : Int32)) - (1 : Int32)).toInt64)).toInt32))), (.int (F1 p2 p1 ((((p1.toInt64) + (p2.toInt64)) + (((((p4.toUInt32 >>> ((1 : Int32) &&& 31).toUInt32).toInt32) - (((p4.toUInt32 >>> ((1 : Int32) &&& 31).toUInt32).toInt32) / (3 : Int32)) * (3 : Int32)) - (1 : Int32)).toInt64)).toInt32)))])) _
    refine XS.icmpNo X6.here hx rfl (hb hby at_102) rfl (teq (own_sym _ _ _ : (F1 p2 p1 ((((p1.toInt64) + (p2.toInt64)) + (((((p4.toUInt32 >>> ((1 : Int32) &&& 31).toUInt32).toInt32) - (((p4.toUInt32 >>> ((1 : Int32) &&& 31).toUInt32).toInt32) / (3 : Int32)) * (3 : Int32)) - (1 : Int32)).toInt64)).toInt32)) = (F1 p1 p2 ((((p1.toInt64) + (p2.toInt64)) + (((((p4.toUInt32 >>> ((1 : Int32) &&& 31).toUInt32).toInt32) - (((p4.toUInt32 >>> ((1 : Int32) &&& 31).toUInt32).toInt32) / (3 : Int32)) * (3 : Int32)) - (1 : Int32)).toInt64)).toInt32)))).2 ?_
    show Steps p.tables e below (T6.setTop (mkF m 105 #[.val (.int p1), .val (.int p2), .val (.int p3), .val (.int p4), .val (.int ((((p1.toInt64) + (p2.toInt64)) + (((((p4.toUInt32 >>> ((1 : Int32) &&& 31).toUInt32).toInt32) - (((p4.toUInt32 >>> ((1 : Int32) &&& 31).toUInt32).toInt32) / (3 : Int32)) * (3 : Int32)) - (1 : Int32)).toInt64)).toInt32)), .val (.long (((((((p1.toInt64) + (p2.toInt64)) + (((((p4.toUInt32 >>> ((1 : Int32) &&& 31).toUInt32).toInt32) - (((p4.toUInt32 >>> ((1 : Int32) &&& 31).toUInt32).toInt32) / (3 : Int32)) * (3 : Int32)) - (1 : Int32)).toInt64)).toInt32).toInt64) - (p1.toInt64)) - (p2.toInt64))), .second, .val (.int (1 : Int32)), .val (.int (F1 p1 p2 ((((p1.toInt64) + (p2.toInt64)) + (((((p4.toUInt32 >>> ((1 : Int32) &&& 31).toUInt32).toInt32) - (((p4.toUInt32 >>> ((1 : Int32) &&& 31).toUInt32).toInt32) / (3 : Int32)) * (3 : Int32)) - (1 : Int32)).toInt64)).toInt32))), .val (.int (F1 p2 p1 ((((p1.toInt64) + (p2.toInt64)) + (((((p4.toUInt32 >>> ((1 : Int32) &&& 31).toUInt32).toInt32) - (((p4.toUInt32 >>> ((1 : Int32) &&& 31).toUInt32).toInt32) / (3 : Int32)) * (3 : Int32)) - (1 : Int32)).toInt64)).toInt32)))] [])) _
    refine XS.iconst X6.here hx rfl (hb hby at_105) ?_
    show Steps p.tables e below (T6.setTop (mkF m 106 #[.val (.int p1), .val (.int p2), .val (.int p3), .val (.int p4), .val (.int ((((p1.toInt64) + (p2.toInt64)) + (((((p4.toUInt32 >>> ((1 : Int32) &&& 31).toUInt32).toInt32) - (((p4.toUInt32 >>> ((1 : Int32) &&& 31).toUInt32).toInt32) / (3 : Int32)) * (3 : Int32)) - (1 : Int32)).toInt64)).toInt32)), .val (.long (((((((p1.toInt64) + (p2.toInt64)) + (((((p4.toUInt32 >>> ((1 : Int32) &&& 31).toUInt32).toInt32) - (((p4.toUInt32 >>> ((1 : Int32) &&& 31).toUInt32).toInt32) / (3 : Int32)) * (3 : Int32)) - (1 : Int32)).toInt64)).toInt32).toInt64) - (p1.toInt64)) - (p2.toInt64))), .second, .val (.int (1 : Int32)), .val (.int (F1 p1 p2 ((((p1.toInt64) + (p2.toInt64)) + (((((p4.toUInt32 >>> ((1 : Int32) &&& 31).toUInt32).toInt32) - (((p4.toUInt32 >>> ((1 : Int32) &&& 31).toUInt32).toInt32) / (3 : Int32)) * (3 : Int32)) - (1 : Int32)).toInt64)).toInt32))), .val (.int (F1 p2 p1 ((((p1.toInt64) + (p2.toInt64)) + (((((p4.toUInt32 >>> ((1 : Int32) &&& 31).toUInt32).toInt32) - (((p4.toUInt32 >>> ((1 : Int32) &&& 31).toUInt32).toInt32) / (3 : Int32)) * (3 : Int32)) - (1 : Int32)).toInt64)).toInt32)))] [(.int (1 : Int32))])) _
    refine XS.goto X6.here hx rfl (pc0 := 106) (pc' := 110) rfl (hb hby at_106) (by decide) (by decide) ?_
    show Steps p.tables e below (T6.setTop (mkF m 110 #[.val (.int p1), .val (.int p2), .val (.int p3), .val (.int p4), .val (.int ((((p1.toInt64) + (p2.toInt64)) + (((((p4.toUInt32 >>> ((1 : Int32) &&& 31).toUInt32).toInt32) - (((p4.toUInt32 >>> ((1 : Int32) &&& 31).toUInt32).toInt32) / (3 : Int32)) * (3 : Int32)) - (1 : Int32)).toInt64)).toInt32)), .val (.long (((((((p1.toInt64) + (p2.toInt64)) + (((((p4.toUInt32 >>> ((1 : Int32) &&& 31).toUInt32).toInt32) - (((p4.toUInt32 >>> ((1 : Int32) &&& 31).toUInt32).toInt32) / (3 : Int32)) * (3 : Int32)) - (1 : Int32)).toInt64)).toInt32).toInt64) - (p1.toInt64)) - (p2.toInt64))), .second, .val (.int (1 : Int32)), .val (.int (F1 p1 p2 ((((p1.toInt64) + (p2.toInt64)) + (((((p4.toUInt32 >>> ((1 : Int32) &&& 31).toUInt32).toInt32) - (((p4.toUInt32 >>> ((1 : Int32) &&& 31).toUInt32).toInt32) / (3 : Int32)) * (3 : Int32)) - (1 : Int32)).toInt64)).toInt32))), .val (.int (F1 p2 p1 ((((p1.toInt64) + (p2.toInt64)) + (((((p4.toUInt32 >>> ((1 : Int32) &&& 31).toUInt32).toInt32) - (((p4.toUInt32 >>> ((1 : Int32) &&& 31).toUInt32).toInt32) / (3 : Int32)) * (3 : Int32)) - (1 : Int32)).toInt64)).toInt32)))] [(.int (1 : Int32))])) _
    exact retN X6 hx (t := .boolean) Bd.returns (by simp) (hb hby at_110) hr
  · show Q0 Z p1 p2 p3 p4 h0 n0 _ T6.heap _
    exact ⟨rfl, N6⟩
theorem rm0 (l : Launch) (Z : State) (a0 : Array Value) (hw : ∀ d ∈ tables_1, d.before a0 Z = true) (ws : List Jvm.Cond) (p1 : Int32) (p2 : Int32) (p3 : Int32) (p4 : Int32) (h0 : Heap) (n0 : Nat) (Z0 : n0 ≤ h0.size) :
    MetFree l x (head1 (Jvm.Cond.code x code maxLocals ret :: ws) room_1) (fun a U => a = #[(.int p1), (.int p2), (.int p3), (.int p4)] ∧ Z.Warmed39 U.vm ∧ U.heap = h0) (fun _ _ _ _ _ => True) (fun _ U o U' => ∃ v L, o = .returned v ∧ Q0 Z p1 p2 p3 p4 h0 n0 v U'.heap L ∧ FrameEnd U o U' L room_1.cells room_1.slots) := by
  by_cases hc6 : (p4 &&& (1 : Int32)) = (0 : Int32)
  · by_cases hc63 : (lcmpW (((p3.toInt64) - (p1.toInt64)) - (p2.toInt64)) (0 : Int64)) < (0 : Int32)
    · exact rm0_ttff l Z a0 hw ws p1 p2 p3 p4 h0 n0 Z0 hc6 hc63
    · exact rm0_tfff l Z a0 hw ws p1 p2 p3 p4 h0 n0 Z0 hc6 hc63
  · by_cases hc31 : (lcmpW (((p1.toInt64) + (p2.toInt64)) + (((((p4.toUInt32 >>> ((1 : Int32) &&& 31).toUInt32).toInt32) - (((p4.toUInt32 >>> ((1 : Int32) &&& 31).toUInt32).toInt32) / (3 : Int32)) * (3 : Int32)) - (1 : Int32)).toInt64)) (-2147483648 : Int64)) < (0 : Int32)
    · by_cases hc63 : (lcmpW (((p3.toInt64) - (p1.toInt64)) - (p2.toInt64)) (0 : Int64)) < (0 : Int32)
      · exact rm0_fttff l Z a0 hw ws p1 p2 p3 p4 h0 n0 Z0 hc6 hc31 hc63
      · exact rm0_ftfff l Z a0 hw ws p1 p2 p3 p4 h0 n0 Z0 hc6 hc31 hc63
    · by_cases hc40 : (0 : Int32) < (lcmpW (((p1.toInt64) + (p2.toInt64)) + (((((p4.toUInt32 >>> ((1 : Int32) &&& 31).toUInt32).toInt32) - (((p4.toUInt32 >>> ((1 : Int32) &&& 31).toUInt32).toInt32) / (3 : Int32)) * (3 : Int32)) - (1 : Int32)).toInt64)) (2147483647 : Int64))
      · by_cases hc63 : (lcmpW (((p3.toInt64) - (p1.toInt64)) - (p2.toInt64)) (0 : Int64)) < (0 : Int32)
        · exact rm0_ffttff l Z a0 hw ws p1 p2 p3 p4 h0 n0 Z0 hc6 hc31 hc40 hc63
        · exact rm0_fftfff l Z a0 hw ws p1 p2 p3 p4 h0 n0 Z0 hc6 hc31 hc40 hc63
      · by_cases hc63 : (lcmpW (((((((p1.toInt64) + (p2.toInt64)) + (((((p4.toUInt32 >>> ((1 : Int32) &&& 31).toUInt32).toInt32) - (((p4.toUInt32 >>> ((1 : Int32) &&& 31).toUInt32).toInt32) / (3 : Int32)) * (3 : Int32)) - (1 : Int32)).toInt64)).toInt32).toInt64) - (p1.toInt64)) - (p2.toInt64)) (0 : Int64)) < (0 : Int32)
        · exact rm0_ffftff l Z a0 hw ws p1 p2 p3 p4 h0 n0 Z0 hc6 hc31 hc40 hc63
        · exact rm0_ffffff l Z a0 hw ws p1 p2 p3 p4 h0 n0 Z0 hc6 hc31 hc40 hc63
set_option maxRecDepth 65536 in
set_option maxHeartbeats 40000000 in
theorem comes_1 {Post : Tables → Env → Array Value → State → Outcome → State → Prop} (hpost : ∀ tb e args s v u, (limb_1_1.after args s (.returned v) u = true ∧ limb_1_2.after args s (.returned v) u = true ∧ True) → FrameEnd s (.returned v) u (Jvm.fieldLocs frame_1_writes args s ++ Jvm.arrayLocs frame_1_arrays args s ++ Jvm.staticLocs frame_1_statics s) 0 0 → Post tb e args s (.returned v) u) :
    ArmFor flags0 classFile x code maxLocals ret World_1 tables_1 room_1 Calls_1 rest_1 Pre_1 Post := by
  intro l hfl _ _ p e ha hc hk s m args below hf hA hF happ hP
  obtain ⟨hcalls, hrest, hpre⟩ := hP
  obtain ⟨-, -, -, hnamed, -, -, -, hat⟩ := (Spec.applies_iff hf).mp happ
  obtain ⟨hg, hn⟩ := and_e (Cond.before_iff.mp (show (Jvm.Cond.and given_1 narrow_1).before args s = true from hpre))
  obtain ⟨g7, g8⟩ := and_e hg
  obtain ⟨g9, g10⟩ := and_e g8
  obtain ⟨g11, g12⟩ := and_e g10
  obtain ⟨g13, g14⟩ := and_e g12
  obtain ⟨w0, w1, w2, w3, rfl⟩ : ∃ w0 w1 w2 w3 : Value, args = #[w0, w1, w2, w3] := by
    have hs : args.size = 4 := by simpa [Cond.value, given_1] using g7
    obtain ⟨L⟩ := args
    match L, hs with
    | [w0, w1, w2, w3], _ => exact ⟨w0, w1, w2, w3, rfl⟩
  have hw := fun d (hd : d ∈ tables_1) => atoms_spec (ws := Jvm.Cond.code x code maxLocals ret :: tables_1) hat d (List.mem_cons_of_mem _ hd)
  have hfit : Fit s := fun {y c} hc i hi => by
    obtain ⟨ha, rfl⟩ := Array.getElem?_eq_some_iff.mp hc
    have q := List.all_eq_true.mp ((Array.all_eq_true_iff_forall_mem.mp hF) _ (Array.getElem_mem ha)) i (List.mem_range.mpr hi)
    simpa [Array.getElem?_eq_getElem hi] using q
  obtain ⟨i0, ei0⟩ := is_v g9
  obtain rfl : w0 = (.int i0) := Option.some.inj ei0
  obtain ⟨i1, ei1⟩ := is_v g11
  obtain rfl : w1 = (.int i1) := Option.some.inj ei1
  obtain ⟨i2, ei2⟩ := is_v g13
  obtain rfl : w2 = (.int i2) := Option.some.inj ei2
  obtain ⟨i3, ei3⟩ := is_v g14
  obtain rfl : w3 = (.int i3) := Option.some.inj ei3
  obtain ⟨n, o, h1, h2, h3, _, L, rfl, ⟨rfl, N⟩, hq⟩ := rm0 l s _ hw tables_1 i0 i1 i2 i3 s.heap s.heap.size (Nat.le_refl _) p e ha hc hk s m _ below hf ((Spec.applies_iff_loose hf).mp happ).1 ⟨rfl, State.Warmed39.refl s, rfl⟩ trivial
  refine ⟨n, _, h1, h2, h3, hpost _ _ _ _ _ _ ⟨Cond.after_iff.mpr rfl, Cond.after_iff.mpr (eq_i res_at (Term.int_eval (1)) rfl), trivial⟩ ⟨hq.1, hq.2.1, (hq.2.2.sift fun y hy => Or.inr (N y hy)).mono (by decide) (by decide)⟩⟩
theorem main_1_1 : Claimed_1_1 := comes_1 fun _ _ _ _ _ _ h hF => ⟨h.1, hF⟩
theorem main_1_2 : Claimed_1_2 := comes_1 fun _ _ _ _ _ _ h hF => ⟨h.2.1, hF⟩
end Jvm.Pilot.@@N@@
namespace Jvm.Pilot.@@N@@
open Jvm Jvm.ClassFile Sem Op Lib Jvm.Free Jvm.Stand Jvm.Pilot.@@N@@.Jvm.D
/-! MADE BY PROGRAM (witnessworld.py) out of the Statement's table words and the real class files: 8 classes; the members and pool entries that the words name. The judged class is class 1, her method 1. -/
namespace start1
open Jvm.ClassFile
def u (s : String) : CpInfo := .utf8 (stringToUtf16 s)
/-- a pool by its gaps: so many unusable entries, then the entry; so many at the end -/
def gap : Nat → List CpInfo → List CpInfo
  | 0, r => r
  | n + 1, r => .unusable :: gap n r
def poolList (es : List (Nat × CpInfo)) (last : Nat) : List CpInfo := es.foldr (fun e r => gap e.1 (e.2 :: r)) (gap last [])
def pool (es : List (Nat × CpInfo)) (last : Nat) : Array CpInfo := ⟨poolList es last⟩
def fileOf (pool : Array CpInfo) (this : Nat) (attrs : Array Attribute := #[]) (ms : Array MethodInfo := #[]) (fl : Nat := 33) (sup : Nat := 0) (ifs : Array Nat := #[]) (fds : Array FieldInfo := #[]) : ClassFile where
  minorVersion := 0
  majorVersion := 65
  constantPool := pool
  accessFlags := fl
  thisClass := this
  superClass := sup
  interfaces := ifs
  fields := fds
  methods := ms
  attributes := attrs
def plain (name : String) (sup : Option ClassId) : Class where
  name := name
  kind := .ordinary
  loader := none
  accessFlags := 33
  super := sup
  interfaces := #[]
  cf := none
  fields := #[]
  methods := #[]
  instanceTypes := #[]
  staticTypes := #[]
  resolved := #[]
  callSites := []
  init := .initialized
  statics := none
  mirror := none

def pool0 : Array CpInfo := pool [(5, u "<init>"), (0, u "()V"), (1, .class_ 10), (1, u "java/lang/Object")] 113

def k0m0 : Method := { name := "<init>", desc := "()V", sig := { parameters := [], returnType := none }, accessFlags := 1, code := none }
/-- java/lang/Object -/
def k0 : Class := { plain "java/lang/Object" none with
  accessFlags := 33
  interfaces := #[]
  cf := some (fileOf pool0 8 #[] #[{ accessFlags := 1, nameIndex := 5, descriptorIndex := 6, attributes := #[] }] 33 0 #[] #[])
  fields := #[]
  methods := #[k0m0]
  instanceTypes := #[]
  staticTypes := #[]
  resolved := Array.replicate 124 none
  statics := none }

def pool1 : Array CpInfo := pool [(2, .class_ 4), (1, u "java/lang/Object"), (0, u "<init>"), (0, u "()V"), (0, .long 18446744071562067968), (1, .long 2147483647), (1, .methodref 12 13), (0, .class_ 14), (0, .nameAndType 15 16), (0, u "com/example/weather_gauge/weathergauge/game/NavalBattle"), (0, u "scores"), (0, u "(III)Z"), (0, .class_ 18), (0, u "com/example/weather_gauge/weathergauge/game/NavalBattleScoresPinLaw"), (2, u "law"), (0, u "(IIII)Z")] 3

def k1m0 : Method := { name := "<init>", desc := "()V", sig := { parameters := [], returnType := none }, accessFlags := 1, code := none }
def k1c1 : Code := { maxStack := 4, maxLocals := 10, code := code, exceptionTable := #[], attributes := #[] }
def k1m1 : Method := { name := "law", desc := "(IIII)Z", sig := { parameters := [.int, .int, .int, .int], returnType := some .boolean }, accessFlags := 9, code := some k1c1 }
/-- com/example/weather_gauge/weathergauge/game/NavalBattleScoresPinLaw -/
def k1 : Class := { plain "com/example/weather_gauge/weathergauge/game/NavalBattleScoresPinLaw" (some 0) with
  accessFlags := 49
  interfaces := #[]
  cf := some (fileOf pool1 17 #[] #[{ accessFlags := 1, nameIndex := 5, descriptorIndex := 6, attributes := #[] }, { accessFlags := 9, nameIndex := 21, descriptorIndex := 22, attributes := #[] }] 49 2 #[] #[])
  fields := #[]
  methods := #[k1m0, k1m1]
  instanceTypes := #[]
  staticTypes := #[]
  resolved := Array.replicate 26 none
  statics := none }

def pool2 : Array CpInfo := pool [(1, .class_ 2), (0, u "com/example/weather_gauge/weathergauge/game/Fight"), (0, .class_ 4), (0, u "java/lang/Object")] 24

/-- com/example/weather_gauge/weathergauge/game/Fight -/
def k2 : Class := { plain "com/example/weather_gauge/weathergauge/game/Fight" (some 0) with
  accessFlags := 1536
  interfaces := #[]
  cf := some (fileOf pool2 1 #[] #[] 1536 3 #[] #[])
  fields := #[]
  methods := #[]
  instanceTypes := #[]
  staticTypes := #[]
  resolved := Array.replicate 29 none
  statics := none }

def pool3 : Array CpInfo := pool [(2, .class_ 4), (1, u "java/lang/Object"), (9, .class_ 16), (1, u "com/example/weather_gauge/weathergauge/game/NavalBattle"), (0, u "retreats"), (0, u "Ljava/util/List;"), (2, u "engagement"), (0, u "Lcom/example/weather_gauge/weathergauge/game/Engagement;"), (5, u "committed"), (0, u "Ljava/util/Set;"), (5, u "toCommit"), (5, u "leaderDice"), (0, u "Ljava/util/Map;"), (2, u "losses"), (0, u "Lcom/example/weather_gauge/weathergauge/game/Losses;"), (77, u "leadersToAnswer"), (33, u "rolled"), (0, u "Z"), (2, u "retreatSettled"), (78, .class_ 243), (1, u "com/example/weather_gauge/weathergauge/game/NavalBattle$1"), (77, u "DICE"), (0, u "Ljava/util/regex/Pattern;"), (66, u "scores"), (0, u "(III)Z"), (74, .class_ 466), (0, u "com/example/weather_gauge/weathergauge/game/Fight"), (0, u "LEADER_UNITS"), (0, u "I")] 105

def k3c0 : Code := { maxStack := 4, maxLocals := 3, code := prog_18_method_13_code, exceptionTable := #[], attributes := #[] }
def k3m0 : Method := { name := "scores", desc := "(III)Z", sig := { parameters := [.int, .int, .int], returnType := some .boolean }, accessFlags := 8, code := some k3c0 }
/-- com/example/weather_gauge/weathergauge/game/NavalBattle -/
def k3 : Class := { plain "com/example/weather_gauge/weathergauge/game/NavalBattle" (some 0) with
  accessFlags := 48
  interfaces := #[2]
  cf := some (fileOf pool3 14 #[.nestMembers #[241]] #[{ accessFlags := 8, nameIndex := 389, descriptorIndex := 390, attributes := #[] }] 48 2 #[465] #[{ accessFlags := 26, nameIndex := 467, descriptorIndex := 468, attributes := #[] }, { accessFlags := 26, nameIndex := 321, descriptorIndex := 322, attributes := #[] }, { accessFlags := 18, nameIndex := 21, descriptorIndex := 22, attributes := #[] }, { accessFlags := 18, nameIndex := 28, descriptorIndex := 29, attributes := #[] }, { accessFlags := 18, nameIndex := 35, descriptorIndex := 18, attributes := #[] }, { accessFlags := 2, nameIndex := 124, descriptorIndex := 42, attributes := #[] }, { accessFlags := 18, nameIndex := 41, descriptorIndex := 42, attributes := #[] }, { accessFlags := 2, nameIndex := 158, descriptorIndex := 159, attributes := #[] }, { accessFlags := 18, nameIndex := 45, descriptorIndex := 46, attributes := #[] }, { accessFlags := 2, nameIndex := 162, descriptorIndex := 159, attributes := #[] }, { accessFlags := 2, nameIndex := 17, descriptorIndex := 18, attributes := #[] }])
  fields := #[{ name := "LEADER_UNITS", type := .int, accessFlags := 26, slot := 0, constantValue := 0 }, { name := "DICE", type := (.object "java/util/regex/Pattern"), accessFlags := 26, slot := 1, constantValue := 0 }, { name := "engagement", type := (.object "com/example/weather_gauge/weathergauge/game/Engagement"), accessFlags := 18, slot := 0, constantValue := 0 }, { name := "committed", type := (.object "java/util/Set"), accessFlags := 18, slot := 1, constantValue := 0 }, { name := "toCommit", type := (.object "java/util/List"), accessFlags := 18, slot := 2, constantValue := 0 }, { name := "leadersToAnswer", type := (.object "java/util/Map"), accessFlags := 2, slot := 3, constantValue := 0 }, { name := "leaderDice", type := (.object "java/util/Map"), accessFlags := 18, slot := 4, constantValue := 0 }, { name := "rolled", type := .boolean, accessFlags := 2, slot := 5, constantValue := 0 }, { name := "losses", type := (.object "com/example/weather_gauge/weathergauge/game/Losses"), accessFlags := 18, slot := 6, constantValue := 0 }, { name := "retreatSettled", type := .boolean, accessFlags := 2, slot := 7, constantValue := 0 }, { name := "retreats", type := (.object "java/util/List"), accessFlags := 2, slot := 8, constantValue := 0 }]
  methods := #[k3m0]
  instanceTypes := #[(.object "com/example/weather_gauge/weathergauge/game/Engagement"), (.object "java/util/Set"), (.object "java/util/List"), (.object "java/util/Map"), (.object "java/util/Map"), .boolean, (.object "com/example/weather_gauge/weathergauge/game/Losses"), .boolean, (.object "java/util/List")]
  staticTypes := #[.int, (.object "java/util/regex/Pattern")]
  resolved := Array.replicate 574 none
  statics := none }

def pool4 : Array CpInfo := pool [(1, u "java/lang/Cloneable"), (0, .class_ 1), (0, u "java/lang/Object"), (0, .class_ 3)] 3

/-- java/lang/Cloneable -/
def k4 : Class := { plain "java/lang/Cloneable" (some 0) with
  accessFlags := 1537
  interfaces := #[]
  cf := some (fileOf pool4 2 #[] #[] 1537 4 #[] #[])
  fields := #[]
  methods := #[]
  instanceTypes := #[]
  staticTypes := #[]
  resolved := Array.replicate 8 none
  statics := none }

def pool5 : Array CpInfo := pool [(1, u "java/io/Serializable"), (0, .class_ 1), (0, u "java/lang/Object"), (0, .class_ 3)] 3

/-- java/io/Serializable -/
def k5 : Class := { plain "java/io/Serializable" (some 0) with
  accessFlags := 1537
  interfaces := #[]
  cf := some (fileOf pool5 2 #[] #[] 1537 4 #[] #[])
  fields := #[]
  methods := #[]
  instanceTypes := #[]
  staticTypes := #[]
  resolved := Array.replicate 8 none
  statics := none }

/-- the primitive byte -/
def k6 : Class := { plain "byte" none with kind := .primitive 'B', accessFlags := 0x411 }
/-- [B -/
def k7 : Class := { plain "[B" (some 0) with kind := .array 6 .byte, interfaces := #[4, 5], accessFlags := 1041 }

def heap : Heap := #[]
def classes : Array Class := #[k0, k1, k2, k3, k4, k5, k6, k7]
def interned : List (Array UInt16 × Addr) := []
def slotsUsed : Nat := 0
def theMethod : MethodId := ⟨1, 1⟩
def args0 : Array Value := #[.int 3, .int 4, .int 6, .int 3]
def aboutOver (below : List Frame) : State where
  vm := { classes := classes, interned := interned.toArray }
  heap := heap
  slotsUsed := slotsUsed
  threads := #[{ frames := .invoking theMethod args0 :: below }]
def below0 : List Frame := [.native { method := ⟨0, 0⟩, args := #[] }]
def about1 : State := aboutOver below0
def p0 : Program := .bare "" "" ""
def e0 : Env := launch0.env 0 0 0
theorem w_frames : about1.frames = Frame.invoking theMethod args0 :: below0 := rfl
set_option maxRecDepth 65536 in
theorem w_args : argsFit about1.vm theMethod args0 = true := by decide +kernel
set_option maxRecDepth 65536 in
theorem w_heap : heapFits about1 = true := by decide +kernel
set_option maxRecDepth 65536 in
theorem w_runnable : about1.curStatus? = some .runnable := by decide +kernel
set_option maxRecDepth 65536 in
theorem w_alone : about1.alone = true := by decide +kernel
set_option maxRecDepth 65536 in
theorem w_named : about1.methodNamed? x = some theMethod := by decide +kernel
set_option maxRecDepth 65536 in
theorem w_hears : about1.hears theMethod below0 = true := by decide +kernel
set_option maxRecDepth 65536 in
theorem w_ripe : about1.ripe theMethod args0 below0 = true := by decide +kernel
theorem w_running : about1.status = .running := rfl
set_option maxRecDepth 65536 in
theorem w_room : about1.hasRoom e0.platform room_1 = true :=
  launch0.hasRoom_least _ room_1 (by decide +kernel) (by decide +kernel) (by decide +kernel) (by decide +kernel) (by decide +kernel) (by decide +kernel)
theorem allAtoms_all (ts : List Jvm.Cond) (a : Array Jvm.Value) (st : Jvm.State) : (allAtoms ts).before a st = ts.all (fun c => c.before a st) := by
  induction ts with
  | nil => rfl
  | cons c t ih =>
    show (Jvm.Cond.and c (allAtoms t)).before a st = _
    rw [Jvm.Cond.before_and, ih, List.all_cons]
def words1 : List Jvm.Cond := Jvm.Cond.code x code maxLocals ret :: tables_1
/-- a 'code' word, met by the world's own term for the bytes: nothing is compared byte by byte -/
theorem code_word {y : MethodName} {bytes : ByteArray} {mx : Nat} {rt : Option FieldType} {a : Array Value} {s : State} {m : MethodId} {meth : Method} {c : Code} (h1 : s.methodNamed? y = some m) (h2 : s.vm.method? m = some meth) (h3 : meth.code = some c) (h4 : c.code = bytes)
    (h5 : (c.maxLocals == mx && c.exceptionTable.isEmpty && decide (c.maxStack ≤ mostOperands) && decide (meth.sig.returnType = rt) && !meth.locks && decide (parseMethodDescriptor y.desc = some meth.sig)) = true) : (Jvm.Cond.code y bytes mx rt).before a s = true := by
  simp only [Bool.and_eq_true, beq_iff_eq, Bool.not_eq_true', decide_eq_true_eq] at h5
  obtain ⟨⟨⟨⟨⟨g1, g2⟩, g3⟩, g4⟩, g5⟩, g6⟩ := h5
  simp [Cond.before, Cond.holds, Cond.value, h1, h2, h3, h4, g1, g2, g3, g4, g5, g6]
def isCode : Jvm.Cond → Bool
  | .code _ _ _ _ => true
  | _ => false
theorem all_split {L : List Jvm.Cond} {P : Jvm.Cond → Bool} (h1 : L.all (fun c => isCode c || P c) = true) (h2 : ∀ c ∈ L.filter isCode, P c = true) : L.all P = true := by
  refine List.all_eq_true.mpr fun c hc => ?_
  have h := List.all_eq_true.mp h1 c hc
  rcases Bool.eq_false_or_eq_true (isCode c) with hi | hi
  · exact h2 c (List.mem_filter.mpr ⟨hc, hi⟩)
  · simpa [hi] using h
set_option maxRecDepth 65536 in
theorem w_c0 : (Jvm.Cond.code x code maxLocals ret).before args0 about1 = true := code_word (m := ⟨1, 1⟩) (meth := k1m1) (c := k1c1) (by decide +kernel) rfl rfl rfl (by decide +kernel)
set_option maxRecDepth 65536 in
theorem w_c1 : (Jvm.Cond.code ({ cls := "com/example/weather_gauge/weathergauge/game/NavalBattle", name := "scores", desc := "(III)Z" } : Jvm.MethodName) prog_18_method_13_code (3 : Nat) (Option.some Jvm.ClassFile.FieldType.boolean)).before args0 about1 = true := code_word (m := ⟨3, 0⟩) (meth := k3m0) (c := k3c0) (by decide +kernel) rfl rfl rfl (by decide +kernel)
def codes1 : List Jvm.Cond := [Jvm.Cond.code x code maxLocals ret, Jvm.Cond.code ({ cls := "com/example/weather_gauge/weathergauge/game/NavalBattle", name := "scores", desc := "(III)Z" } : Jvm.MethodName) prog_18_method_13_code (3 : Nat) (Option.some Jvm.ClassFile.FieldType.boolean)]
set_option maxRecDepth 65536 in
theorem codes_eq : words1.filter isCode = codes1 := rfl
theorem w_codes : ∀ c ∈ words1.filter isCode, c.before args0 about1 = true := by
  rw [codes_eq]
  intro c hc
  simp only [codes1, List.mem_cons, List.not_mem_nil, or_false] at hc
  rcases hc with rfl | rfl
  · exact w_c0
  · exact w_c1
set_option maxRecDepth 65536 in
theorem w_t1 : words1.all (fun c => isCode c || c.before args0 about1) = true := by decide +kernel
theorem w_tables : (allAtoms (Jvm.Cond.code x code maxLocals ret :: tables_1)).before args0 about1 = true := by
  rw [allAtoms_all]
  show words1.all (fun c => c.before args0 about1) = true
  refine all_split ?_ w_codes
  rw [w_t1]
set_option maxRecDepth 65536 in
theorem w_case : (Jvm.Cond.and given_1 narrow_1).before args0 about1 = true := by decide +kernel
theorem w_applies : (headSpec (Jvm.Cond.code x code maxLocals ret :: tables_1) room_1).applies x e0.platform about1 = true :=
  (Spec.applies_iff w_frames).mpr ⟨w_running, w_runnable, w_alone, w_named, w_hears, w_ripe, w_room, w_tables⟩
theorem atStart : AtStart classFile x code maxLocals ret World_1 tables_1 room_1 Calls_1 rest_1 Pre_1 launch0 p0 e0 about1 theMethod args0 below0 :=
  ⟨lists_1, trivial, launch0.admits_env _ _ _, launch0.least_env, fairChoices_fair.cas, fairChoices_fair.clock, w_frames, w_args, w_heap, w_applies, trivial, trivial, w_case⟩
end start1
theorem witness_1 : WitnessClaimed_1 := ⟨start1.p0, start1.e0, start1.about1, start1.theMethod, start1.args0, start1.below0, start1.atStart⟩
end Jvm.Pilot.@@N@@

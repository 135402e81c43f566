import JvmDerived
import JvmDerived.Pilot.@@N@@Statement
import JvmDerived.Pilot.@@N@@Code
set_option linter.unusedVariables false
set_option linter.unusedSimpArgs false
namespace Jvm.RoadKit
open Sem ClassFile Op Lib Jvm.Stand Jvm.Free Jvm.LawKit
section New
variable {p : Program} {l : Launch} {e : Env} {R : Room} {s : State} {m : MethodId} {args : Array Value} {below : List Frame} {meth : Method} {c : Code} {T : State} {locs : List Loc} {cells slots : Nat}
theorem retI (X : Stand p l e R s m args below meth c T locs cells slots) (hx : p.tables.exec = Jvm.exec) {pc : Nat} {Ls : Array Slot} {z : Int32} {rest : List Value} (hret : meth.sig.returnType = some .int) (hd : decode c.code pc = .ok (.ireturn, 1)) {fs : List Frame}
    (hl : ∀ (f : JFrame) (acts : List Action), f.method = m → f.locked = none → f.entered = [] → (doReturn e (T.setTop f) acts (some (.int z))).1 = T.setFrames fs) : Steps p.tables e below (T.setTop (mkF m pc Ls (.int z :: rest))) (T.setFrames fs) := by
  have hm' : T.vm.method? m = some meth := X.method'
  have hn : narrow .int (.int z) = .int z := rfl
  show Steps p.tables e below (T.setTop { method := m, pc := pc, locals := Ls, stack := _ :: rest, locked := none }) _
  jvm_step X.here [X.here.top, hx, hd, hm', hret, hn]
  first | (intro acts; rw [hl _ acts rfl rfl rfl]) | rw [hl _ _ rfl rfl rfl]
  exact Steps.refl _
end New
end Jvm.RoadKit
namespace Jvm.Pilot.@@N@@
open Jvm Jvm.ClassFile Sem Op Lib Jvm.Free Jvm.Stand Jvm.LawKit Jvm.RoadKit Bundle Jvm.Pilot.@@N@@.Jvm.D
theorem own_sta_keep {Z : State} {h h' : Heap} {C n d C' : String} {w : Value} {b : Addr} (F : Sta Z h C n d w) (K : Keep h h' [b]) (E : Exa Z h b C') : Sta Z h' C n d w := by
  obtain ⟨cf, i, k, f, st, cell, h1, h2, h3, h4, h5, h6, h7⟩ := F
  obtain ⟨cb, kb, g1, -, -, g4, -⟩ := E
  have hne : st ≠ b := fun e => by
    subst e
    rw [g1] at h5
    cases h5
    rw [g4] at h6
    cases h6
  exact ⟨cf, i, k, f, st, cell, h1, h2, h3, h4, K.2.1 st cell h5 (fun q => hne (List.mem_singleton.mp q)), h6, h7⟩
theorem own_specialRef {p : Program} {l : Launch} {e : Env} {R : Room} {s : State} {m : MethodId} {args : Array Value} {below : List Frame} {meth : Method} {c : Code} {T : State} {locs : List Loc} {cells slots : Nat} {Z : State} {a0 : Array Value}
    (X : Stand p l e R s m args below meth c T locs cells slots) (hexec : p.tables.exec = Jvm.exec) (hZ : Z.Warmed39 s.vm) {own : String} {index : Nat} {y : MethodName} (hy1 : y.name = "<init>")
    (hown : s.vm.findClass own = some m.cls) (wr : (Jvm.Cond.methodRef own index y).before a0 Z = true) (wi : (Jvm.Cond.instanceMethod y).before a0 Z = true) (hinst : (Jvm.Cond.instanceMethod y).before args s = true)
    {bytes : ByteArray} {maxL : Nat} (hcode : (Jvm.Cond.code y bytes maxL none).before args s = true)
    (hy : y.cls ≠ "java/lang/invoke/MethodHandle" ∧ y.cls ≠ "java/lang/invoke/VarHandle")
    {W : Nat} {Pre : Pt → Array Value → Prop} {Post : Pt → Array Value → Option Value → Pt → Prop} (hK : Back l R p e below s args y 3 W Pre Post)
    {g : JFrame} (hg : g.method = m) (hsize : g.locals.size = c.maxLocals) {s₀ : State} (hcome : Steps p.tables e below s₀ (T.setTop g)) {a : Addr} {argsL rest : List Value}
    (hlen : ∀ sig, parseMethodDescriptor y.desc = some sig → argsL.length = sig.parameters.length) (hstack : g.stack = argsL.reverse ++ .ref a :: rest) (hW : 2 * g.monitorRoom + (rest.map fun v => v.category).sum ≤ W)
    (hdg : decode c.code g.pc = .ok (.invokespecial index, 3)) (hpre : ∀ vm₁, s.WarmedH vm₁ → Pre ⟨T.setVm vm₁, locs, cells, slots⟩ (.ref a :: argsL).toArray) :
    ∃ (v : Option Value) (vm₁ : Vm) (B : Pt), s.WarmedH vm₁ ∧ Stand p l e R s m args below meth c B.U B.locs B.cells B.slots ∧ Post ⟨T.setVm vm₁, locs, cells, slots⟩ (.ref a :: argsL).toArray v B ∧
      Steps p.tables e below s₀ (B.U.setTop { g with pc := g.pc + 3, stack := v.toList ++ rest }) := by
  obtain ⟨objZ, mZ, hnZ, -, -, -⟩ := Cond.instanceMethod_spec wi
  have w1 : (Jvm.Cond.methodRef own index y).before a0 (Z.setVm s.vm) = true := Cond.methodRef_warmed39 hZ hnZ hy wr
  have w2 : (Jvm.Cond.methodRef own index y).before a0 s = true := w1
  obtain ⟨obj, methO, hnO, hmO, hstO, habO⟩ := Cond.instanceMethod_spec hinst
  obtain ⟨methO', cO, hmO', hcO, hbO, hlO, -, hlockO, -, hsigO⟩ := Cond.code_spec hnO hcode
  cases hmO.symm.trans hmO'
  obtain ⟨kO, hkO, hnameO⟩ := className_of_methodNamed hnO
  obtain ⟨hnameMO, hdescO⟩ := name_of_methodNamed hnO hmO
  have hwarm : s.WarmedH T.vm := X.warmed
  have w3 : (Jvm.Cond.methodRef own index y).before a0 (s.setVm T.vm) = true := Cond.methodRef_warmed hwarm hnO hy w2
  obtain ⟨m', c', hm', hready, hfind, hnr⟩ := Cond.methodRef_named e (s := s.setVm T.vm) (cur := m.cls) (by rw [State.vm_setVm, hwarm.alike.findClass]; exact hown) w3
  have hsame : m' = obj := by
    have q := State.methodFound?_setVm_of_named hwarm.alike hnO hy
    rw [hm', State.methodFound?_of_named hnO hy] at q
    exact Option.some.inj q
  subst hsame
  have hc' : c' = m'.cls := by
    have q := findClass_of_methodNamed hnO
    rw [State.vm_setVm, hwarm.alike.findClass] at hfind
    exact Option.some.inj (hfind.symm.trans q)
  subst hc'
  obtain ⟨kT, hkT, heT⟩ := hwarm.alike.2.2 _ _ hkO
  have hmT : T.vm.method? m' = some methO := by rw [hwarm.alike.method?]; exact hmO
  have hfound : lookupSpecial T.vm m'.cls "<init>" methO.desc = .method m' := by
    rw [hwarm.alike.lookupSpecial, hdescO, ← hy1]; exact lookupSpecial_of_named hnO hmO hstO
  have X₁ : Stand p l e R s m args below meth c (T.setVm T.vm) locs cells slots := X
  obtain ⟨v, B, X', hpost, hsteps⟩ := hK m meth c ⟨T.setVm T.vm, locs, cells, slots⟩ { g with stack := rest } (.invokespecial index) m' (.ref a :: argsL).toArray X₁ hg hsize hdg hW (X₁.named hnO) (hpre _ hwarm)
  refine ⟨v, T.vm, B, hwarm, X', hpost, hcome.trans (Steps.trans ?_ hsteps)⟩
  subst hg
  jvm_step X.here [hexec, hdg, invokespecial.wp_init (e := e) (s := T) (k := kT) (meth := methO) (m := m') (a := a) (args := argsL) (rest := rest) (f := g) X.here.top hnr hready hkT hmT (by rw [hnameMO]; exact hy1) hstO habO hfound (hlen _ hsigO) hstack]
  first | (intro acts; rw [doInvoke_state]; exact Steps.refl _) | (rw [doInvoke_state]; exact Steps.refl _)
def own_fl : List (String × String) := [("declarations", "Ljava/util/List;"), ("assertions", "Ljava/util/List;"), ("sorts", "Ljava/util/Map;"), ("pairTypes", "Ljava/util/Map;"), ("constants", "Ljava/util/Map;"), ("definitions", "Ljava/util/Map;"), ("definedValues", "Ljava/util/Set;"), ("functions", "Ljava/util/Map;"), ("facts", "Ljava/util/Set;"), ("placeholders", "Ljava/util/Map;"), ("letNamesInUse", "Ljava/util/Set;"), ("sharedForms", "Lcom/example/steplint/steplint/prove/SmtScript$SharedForms;"), ("sizeNotes", "Ljava/util/List;"), ("sizeKeys", "Ljava/util/Set;"), ("sizedTerms", "Ljava/util/Set;"), ("countedSets", "Ljava/util/Map;"), ("countedNotes", "Ljava/util/List;"), ("variableSymbols", "Ljava/util/Set;"), ("names", "I")]
def Sc (Z : State) (h : Heap) (a : Addr) (f : String → Value) : Prop := Exa Z h a "com/example/steplint/steplint/prove/SmtScript" ∧ ∀ q ∈ own_fl, Fld Z h a "com/example/steplint/steplint/prove/SmtScript" q.1 q.2 (f q.1)
def upd (f : String → Value) (k : String) (v : Value) : String → Value := fun s => if s = k then v else f s
theorem own_laid {Z : State} {a0 : Array Value} (hw : ∀ d ∈ tables_1, d.before a0 Z = true) : ∀ q ∈ own_fl, Laid Z a0 "com/example/steplint/steplint/prove/SmtScript" "com/example/steplint/steplint/prove/SmtScript" q.1 q.2 := by
  intro q hq
  simp only [own_fl, List.mem_cons, List.not_mem_nil, or_false] at hq
  rcases hq with rfl | rfl | rfl | rfl | rfl | rfl | rfl | rfl | rfl | rfl | rfl | rfl | rfl | rfl | rfl | rfl | rfl | rfl | rfl
  · exact Or.inr (hw _ (List.mem_of_getElem? (i := 34) rfl))
  · exact Or.inr (hw _ (List.mem_of_getElem? (i := 36) rfl))
  · exact Or.inr (hw _ (List.mem_of_getElem? (i := 54) rfl))
  · exact Or.inr (hw _ (List.mem_of_getElem? (i := 56) rfl))
  · exact Or.inr (hw _ (List.mem_of_getElem? (i := 58) rfl))
  · exact Or.inr (hw _ (List.mem_of_getElem? (i := 60) rfl))
  · exact Or.inr (hw _ (List.mem_of_getElem? (i := 81) rfl))
  · exact Or.inr (hw _ (List.mem_of_getElem? (i := 83) rfl))
  · exact Or.inr (hw _ (List.mem_of_getElem? (i := 85) rfl))
  · exact Or.inr (hw _ (List.mem_of_getElem? (i := 87) rfl))
  · exact Or.inr (hw _ (List.mem_of_getElem? (i := 89) rfl))
  · exact Or.inr (hw _ (List.mem_of_getElem? (i := 106) rfl))
  · exact Or.inr (hw _ (List.mem_of_getElem? (i := 108) rfl))
  · exact Or.inr (hw _ (List.mem_of_getElem? (i := 110) rfl))
  · exact Or.inr (hw _ (List.mem_of_getElem? (i := 112) rfl))
  · exact Or.inr (hw _ (List.mem_of_getElem? (i := 114) rfl))
  · exact Or.inr (hw _ (List.mem_of_getElem? (i := 116) rfl))
  · exact Or.inr (hw _ (List.mem_of_getElem? (i := 118) rfl))
  · exact Or.inl (hw _ (List.mem_of_getElem? (i := 125) rfl))
theorem own_ty : ∀ q ∈ own_fl, ∃ t, parseFieldDescriptor q.2 = some t := by
  intro q hq
  simp only [own_fl, List.mem_cons, List.not_mem_nil, or_false] at hq
  rcases hq with rfl | rfl | rfl | rfl | rfl | rfl | rfl | rfl | rfl | rfl | rfl | rfl | rfl | rfl | rfl | rfl | rfl | rfl | rfl
  · exact ⟨(.object "java/util/List"), by decide⟩
  · exact ⟨(.object "java/util/List"), by decide⟩
  · exact ⟨(.object "java/util/Map"), by decide⟩
  · exact ⟨(.object "java/util/Map"), by decide⟩
  · exact ⟨(.object "java/util/Map"), by decide⟩
  · exact ⟨(.object "java/util/Map"), by decide⟩
  · exact ⟨(.object "java/util/Set"), by decide⟩
  · exact ⟨(.object "java/util/Map"), by decide⟩
  · exact ⟨(.object "java/util/Set"), by decide⟩
  · exact ⟨(.object "java/util/Map"), by decide⟩
  · exact ⟨(.object "java/util/Set"), by decide⟩
  · exact ⟨(.object "com/example/steplint/steplint/prove/SmtScript$SharedForms"), by decide⟩
  · exact ⟨(.object "java/util/List"), by decide⟩
  · exact ⟨(.object "java/util/Set"), by decide⟩
  · exact ⟨(.object "java/util/Set"), by decide⟩
  · exact ⟨(.object "java/util/Map"), by decide⟩
  · exact ⟨(.object "java/util/List"), by decide⟩
  · exact ⟨(.object "java/util/Set"), by decide⟩
  · exact ⟨.int, by decide⟩
theorem Sc.ext {Z : State} {h h' : Heap} {a : Addr} {f : String → Value} (B : Sc Z h a f) (E : Ext h h') : Sc Z h' a f := ⟨B.1.ext E, fun q hq => (B.2 q hq).ext E⟩
theorem Sc.keep {Z : State} {h h' : Heap} {a : Addr} {f : String → Value} {ws : List Addr} (B : Sc Z h a f) (K : Keep h h' ws) (n : a ∉ ws) : Sc Z h' a f := ⟨B.1.keep K, fun q hq => (B.2 q hq).keep K n⟩
theorem Sc.put {Z : State} {h h' : Heap} {a : Addr} {f : String → Value} {a0 : Array Value} (B : Sc Z h a f) (hw : ∀ d ∈ tables_1, d.before a0 Z = true) {k d : String} {v : Value} (hk : (k, d) ∈ own_fl) (hu : ∀ q ∈ own_fl, q.1 = k → q.2 = d) (W : Wr h h' a (Jvm.RoadKit.slotOf Z "com/example/steplint/steplint/prove/SmtScript" k d) v) : Sc Z h' a (upd f k v) := by
  refine ⟨B.1.wr W, fun q hq => ?_⟩
  have F := B.2 q hq
  by_cases e : q.1 = k
  · obtain ⟨q1, q2⟩ := q
    have e2 : q2 = d := hu _ hq e
    have e1 : q1 = k := e
    subst e1 e2
    have hv : upd f q1 v q1 = v := if_pos rfl
    show Fld Z h' a _ q1 q2 (upd f q1 v q1)
    rw [hv]
    exact F.same W
  · have hv : upd f k v q.1 = f q.1 := if_neg e
    rw [hv]
    obtain ⟨t, ht⟩ := own_ty q hq
    obtain ⟨t', ht'⟩ := own_ty _ hk
    exact F.other W (Or.inr (Jvm.RoadKit.slot_ne (own_laid hw q hq) (own_laid hw _ hk) e ht ht'))
def Li (Z : State) (h : Heap) (d : Addr) : Prop := Exa Z h d "java/util/ArrayList" ∧ Fld Z h d "java/util/ArrayList" "size" "I" (.int (0 : Int32))
theorem Li.ext {Z : State} {h h' : Heap} {d : Addr} (B : Li Z h d) (E : Ext h h') : Li Z h' d := ⟨B.1.ext E, B.2.ext E⟩
theorem Li.keep {Z : State} {h h' : Heap} {d : Addr} {ws : List Addr} (B : Li Z h d) (K : Keep h h' ws) (n : d ∉ ws) : Li Z h' d := ⟨B.1.keep K, B.2.keep K n⟩
theorem Li.other {Z : State} {h h' : Heap} {d a : Addr} {sl : Nat} {v : Value} (B : Li Z h d) (W : Wr h h' a sl v) (n : d ≠ a) : Li Z h' d := ⟨B.1.wr W, B.2.other W (Or.inl n)⟩
theorem Li.lt {Z : State} {h : Heap} {d : Addr} (B : Li Z h d) : d < h.size := B.1.lt
def Scr (Z : State) (h : Heap) (a d s : Addr) (n : Int32) : Prop :=
  Exa Z h a "com/example/steplint/steplint/prove/SmtScript" ∧ Fld Z h a "com/example/steplint/steplint/prove/SmtScript" "names" "I" (.int n) ∧ Fld Z h a "com/example/steplint/steplint/prove/SmtScript" "declarations" "Ljava/util/List;" (.ref d) ∧ Fld Z h a "com/example/steplint/steplint/prove/SmtScript" "assertions" "Ljava/util/List;" (.ref s) ∧ Li Z h d ∧ Li Z h s ∧ d ≠ a ∧ s ≠ a
theorem Scr.ext {Z : State} {h h' : Heap} {a d s : Addr} {n : Int32} (B : Scr Z h a d s n) (E : Ext h h') : Scr Z h' a d s n := ⟨B.1.ext E, B.2.1.ext E, B.2.2.1.ext E, B.2.2.2.1.ext E, B.2.2.2.2.1.ext E, B.2.2.2.2.2.1.ext E, B.2.2.2.2.2.2⟩
theorem Scr.lts {Z : State} {h : Heap} {a d s : Addr} {n : Int32} (B : Scr Z h a d s n) {b : Addr} (g : h.size ≤ b) : a ≠ b ∧ d ≠ b ∧ s ≠ b :=
  ⟨Nat.ne_of_lt (Nat.lt_of_lt_of_le B.1.lt g), Nat.ne_of_lt (Nat.lt_of_lt_of_le B.2.2.2.2.1.lt g), Nat.ne_of_lt (Nat.lt_of_lt_of_le B.2.2.2.2.2.1.lt g)⟩
theorem Scr.keep {Z : State} {h h' : Heap} {a d s b : Addr} {n : Int32} (B : Scr Z h a d s n) (K : Keep h h' [b]) (q : a ≠ b ∧ d ≠ b ∧ s ≠ b) : Scr Z h' a d s n :=
  have n1 : a ∉ [b] := fun z => q.1 (List.mem_singleton.mp z)
  ⟨B.1.keep K, B.2.1.keep K n1, B.2.2.1.keep K n1, B.2.2.2.1.keep K n1, B.2.2.2.2.1.keep K (fun z => q.2.1 (List.mem_singleton.mp z)), B.2.2.2.2.2.1.keep K (fun z => q.2.2 (List.mem_singleton.mp z)), B.2.2.2.2.2.2⟩
theorem Scr.names {Z : State} {h h' : Heap} {a d s : Addr} {n m : Int32} {a0 : Array Value} (B : Scr Z h a d s n) (hw : ∀ d ∈ tables_1, d.before a0 Z = true) (W : Wr h h' a (Jvm.RoadKit.slotOf Z "com/example/steplint/steplint/prove/SmtScript" "names" "I") (.int m)) : Scr Z h' a d s m :=
  ⟨B.1.wr W, B.2.1.same W, B.2.2.1.other W (Or.inr (Jvm.RoadKit.slot_ne (own_laid hw ("declarations", "Ljava/util/List;") (by decide)) (own_laid hw ("names", "I") (by decide)) (by decide) (t := .object "java/util/List") (t' := .int) (by decide) (by decide))), B.2.2.2.1.other W (Or.inr (Jvm.RoadKit.slot_ne (own_laid hw ("assertions", "Ljava/util/List;") (by decide)) (own_laid hw ("names", "I") (by decide)) (by decide) (t := .object "java/util/List") (t' := .int) (by decide) (by decide))), B.2.2.2.2.1.other W B.2.2.2.2.2.2.1, B.2.2.2.2.2.1.other W B.2.2.2.2.2.2.2, B.2.2.2.2.2.2⟩
theorem own_up (x a b : Int32) (h : x < a) (q : a < b) : x < b := by
  rw [Int32.lt_iff_toInt_lt] at *
  omega
theorem d5_0 : decode jdk_22_method_1_code 0 = .ok (.aload_n 0, 1) := by decide +kernel
theorem d5_1 : decode jdk_22_method_1_code 1 = .ok (.invokespecial 1, 3) := by decide +kernel
theorem d5_4 : decode jdk_22_method_1_code 4 = .ok (.return_, 1) := by decide +kernel
theorem pn_5 : plainName "java/util/AbstractCollection" = true := by first | (simp [plainName, overriddenIn]; done) | decide +kernel
theorem ef_5 (m : MethodId) (x0 : Addr) : entryFrame m #[(.ref x0)] 1 = mkF m 0 #[.val (.ref x0)] [] := by first | (simp [entryFrame, mkF, argsToLocals, Value.category]; done) | rfl
def Q5 (Z : State) (a1 : Addr) (h0 : Heap) (n0 : Nat) (v : Option Value) (h : Heap) (L : List Loc) : Prop := v = none ∧ Fr n0 L ∧ h = h0
set_option maxRecDepth 65536 in
set_option maxHeartbeats 40000000 in
theorem rm5 (l : Launch) (Z : State) (a0 : Array Value) (hw : ∀ d ∈ tables_1, d.before a0 Z = true) (ws : List Jvm.Cond) (a1 : Addr) (h0 : Heap) (n0 : Nat) (Z0 : n0 ≤ h0.size) :
    MetFree l (⟨"java/util/AbstractCollection", "<init>", "()V"⟩ : MethodName) (head1 (Jvm.Cond.code (⟨"java/util/AbstractCollection", "<init>", "()V"⟩ : MethodName) jdk_22_method_1_code 1 none :: ws) ({ frames := 1, cells := 0, slots := 0, locals := 12 } : Room)) (fun a U => a = #[(.ref a1)] ∧ Z.Warmed39 U.vm ∧ U.heap = h0) (fun _ _ _ _ _ => True) (fun _ U o U' => ∃ v L, o = .returned v ∧ Q5 Z a1 h0 n0 v U'.heap L ∧ FrameEnd U o U' L ({ frames := 1, cells := 0, slots := 0, locals := 12 } : Room).cells ({ frames := 1, cells := 0, slots := 0, locals := 12 } : Room).slots) := by
  refine MetFree.of_bodySF (plainFor_of_name pn_5) hisR ?_
  intro p e s m args below meth c s₁ Bd hml0 hP hK
  obtain ⟨rfl, hZ, hh⟩ := hP
  have hx := Bd.exec
  have hby := Bd.bytes
  have hml : c.maxLocals = 1 := hml0
  have hown : s.vm.findClass "java/util/AbstractCollection" = some m.cls := findClass_of_methodNamed Bd.named
  have hnm := (name_of_methodNamed Bd.named Bd.method).1
  have X0 : Stand p l e ({ frames := 1, cells := 0, slots := 0, locals := 12 } : Room) s m #[(.ref a1)] below meth c s₁ [] 0 0 := Stand.of_body Bd
  have e0 : s₁.heap = h0 := by rw [← hh, Bd.state]; rfl
  have N0 := Fr.nil n0
  have pre0 : ∀ t, Steps p.tables e below (s₁.setTop (mkF m 0 #[.val (.ref a1)] [])) t → Steps p.tables e below (s₁.setTop (entryFrame m #[(.ref a1)] 1)) t := fun t k => castTop (ef_5 m a1) k
  -- 3. LAWS
  obtain ⟨T2, X2, e2, st2⟩ := initO X0 hx hZ hown (hw _ (List.mem_of_getElem? (i := 27) rfl)) (hw _ (List.mem_of_getElem? (i := 7) rfl)) (hw _ (List.mem_of_getElem? (i := 8) rfl)) e0 (g := (mkF m 1 #[.val (.ref a1)] [(.ref a1)])) rfl (by rw [hml]; rfl) rfl (hb hby d5_1) (by decide) (W := 0) (by show 2 * 0 + _ ≤ _; exact Nat.le_of_eq rfl) (by decide)
  obtain ⟨fs, hr, hrun, hended, hW, hsame⟩ := X2.leave (v := none) (fun _ => rfl)
  refine ⟨_, _, pre0 _ ?_, hrun, hended, _, _, rfl, ?_, ⟨_, rfl⟩, hW, hsame.mono (by decide) (by decide)⟩
  -- 4. STEPS
  · show Steps p.tables e below (s₁.setTop (mkF m 0 #[.val (.ref a1)] [])) _
    refine XS.aloadN X0.here hx rfl (hb hby d5_0) rfl rfl ?_
    show Steps p.tables e below (s₁.setTop (mkF m 1 #[.val (.ref a1)] [(.ref a1)])) _
    refine st2 _ ?_
    show Steps p.tables e below (T2.setTop (mkF m 4 #[.val (.ref a1)] [])) _
    exact X2.returnOut hx Bd.returns (hb hby d5_4) hr
  · show Q5 Z a1 h0 n0 _ T2.heap _
    rw [e2]
    exact ⟨rfl, N0, rfl⟩
theorem d7_0 : decode jdk_71_method_1_code 0 = .ok (.aload_n 0, 1) := by decide +kernel
theorem d7_1 : decode jdk_71_method_1_code 1 = .ok (.invokespecial 1, 3) := by decide +kernel
theorem d7_4 : decode jdk_71_method_1_code 4 = .ok (.return_, 1) := by decide +kernel
theorem pn_7 : plainName "java/util/AbstractMap" = true := by first | (simp [plainName, overriddenIn]; done) | decide +kernel
theorem ef_7 (m : MethodId) (x0 : Addr) : entryFrame m #[(.ref x0)] 1 = mkF m 0 #[.val (.ref x0)] [] := by first | (simp [entryFrame, mkF, argsToLocals, Value.category]; done) | rfl
def Q7 (Z : State) (a1 : Addr) (h0 : Heap) (n0 : Nat) (v : Option Value) (h : Heap) (L : List Loc) : Prop := v = none ∧ Fr n0 L ∧ h = h0
set_option maxRecDepth 65536 in
set_option maxHeartbeats 40000000 in
theorem rm7 (l : Launch) (Z : State) (a0 : Array Value) (hw : ∀ d ∈ tables_1, d.before a0 Z = true) (ws : List Jvm.Cond) (a1 : Addr) (h0 : Heap) (n0 : Nat) (Z0 : n0 ≤ h0.size) :
    MetFree l (⟨"java/util/AbstractMap", "<init>", "()V"⟩ : MethodName) (head1 (Jvm.Cond.code (⟨"java/util/AbstractMap", "<init>", "()V"⟩ : MethodName) jdk_71_method_1_code 1 none :: ws) ({ frames := 1, cells := 0, slots := 0, locals := 12 } : Room)) (fun a U => a = #[(.ref a1)] ∧ Z.Warmed39 U.vm ∧ U.heap = h0) (fun _ _ _ _ _ => True) (fun _ U o U' => ∃ v L, o = .returned v ∧ Q7 Z a1 h0 n0 v U'.heap L ∧ FrameEnd U o U' L ({ frames := 1, cells := 0, slots := 0, locals := 12 } : Room).cells ({ frames := 1, cells := 0, slots := 0, locals := 12 } : Room).slots) := by
  refine MetFree.of_bodySF (plainFor_of_name pn_7) hisR ?_
  intro p e s m args below meth c s₁ Bd hml0 hP hK
  obtain ⟨rfl, hZ, hh⟩ := hP
  have hx := Bd.exec
  have hby := Bd.bytes
  have hml : c.maxLocals = 1 := hml0
  have hown : s.vm.findClass "java/util/AbstractMap" = some m.cls := findClass_of_methodNamed Bd.named
  have hnm := (name_of_methodNamed Bd.named Bd.method).1
  have X0 : Stand p l e ({ frames := 1, cells := 0, slots := 0, locals := 12 } : Room) s m #[(.ref a1)] below meth c s₁ [] 0 0 := Stand.of_body Bd
  have e0 : s₁.heap = h0 := by rw [← hh, Bd.state]; rfl
  have N0 := Fr.nil n0
  have pre0 : ∀ t, Steps p.tables e below (s₁.setTop (mkF m 0 #[.val (.ref a1)] [])) t → Steps p.tables e below (s₁.setTop (entryFrame m #[(.ref a1)] 1)) t := fun t k => castTop (ef_7 m a1) k
  -- 3. LAWS
  obtain ⟨T2, X2, e2, st2⟩ := initO X0 hx hZ hown (hw _ (List.mem_of_getElem? (i := 49) rfl)) (hw _ (List.mem_of_getElem? (i := 7) rfl)) (hw _ (List.mem_of_getElem? (i := 8) rfl)) e0 (g := (mkF m 1 #[.val (.ref a1)] [(.ref a1)])) rfl (by rw [hml]; rfl) rfl (hb hby d7_1) (by decide) (W := 0) (by show 2 * 0 + _ ≤ _; exact Nat.le_of_eq rfl) (by decide)
  obtain ⟨fs, hr, hrun, hended, hW, hsame⟩ := X2.leave (v := none) (fun _ => rfl)
  refine ⟨_, _, pre0 _ ?_, hrun, hended, _, _, rfl, ?_, ⟨_, rfl⟩, hW, hsame.mono (by decide) (by decide)⟩
  -- 4. STEPS
  · show Steps p.tables e below (s₁.setTop (mkF m 0 #[.val (.ref a1)] [])) _
    refine XS.aloadN X0.here hx rfl (hb hby d7_0) rfl rfl ?_
    show Steps p.tables e below (s₁.setTop (mkF m 1 #[.val (.ref a1)] [(.ref a1)])) _
    refine st2 _ ?_
    show Steps p.tables e below (T2.setTop (mkF m 4 #[.val (.ref a1)] [])) _
    exact X2.returnOut hx Bd.returns (hb hby d7_4) hr
  · show Q7 Z a1 h0 n0 _ T2.heap _
    rw [e2]
    exact ⟨rfl, N0, rfl⟩
theorem d9_0 : decode jdk_91_method_1_code 0 = .ok (.aload_n 0, 1) := by decide +kernel
theorem d9_1 : decode jdk_91_method_1_code 1 = .ok (.invokespecial 1, 3) := by decide +kernel
theorem d9_4 : decode jdk_91_method_1_code 4 = .ok (.return_, 1) := by decide +kernel
theorem pn_9 : plainName "java/util/AbstractSet" = true := by first | (simp [plainName, overriddenIn]; done) | decide +kernel
theorem pd_9_0 : parseMethodDescriptor "()V" = some ⟨[], none⟩ := by decide +kernel
theorem ef_9 (m : MethodId) (x0 : Addr) : entryFrame m #[(.ref x0)] 1 = mkF m 0 #[.val (.ref x0)] [] := by first | (simp [entryFrame, mkF, argsToLocals, Value.category]; done) | rfl
def Q9 (Z : State) (a1 : Addr) (h0 : Heap) (n0 : Nat) (v : Option Value) (h : Heap) (L : List Loc) : Prop := v = none ∧ Fr n0 L ∧ h = h0
set_option maxRecDepth 65536 in
set_option maxHeartbeats 40000000 in
theorem rm9 (l : Launch) (Z : State) (a0 : Array Value) (hw : ∀ d ∈ tables_1, d.before a0 Z = true) (ws : List Jvm.Cond) (a1 : Addr) (h0 : Heap) (n0 : Nat) (Z0 : n0 ≤ h0.size) :
    MetFree l (⟨"java/util/AbstractSet", "<init>", "()V"⟩ : MethodName) (head1 (Jvm.Cond.code (⟨"java/util/AbstractSet", "<init>", "()V"⟩ : MethodName) jdk_91_method_1_code 1 none :: ws) ({ frames := 2, cells := 0, slots := 0, locals := 24 } : Room)) (fun a U => a = #[(.ref a1)] ∧ Z.Warmed39 U.vm ∧ U.heap = h0) (fun _ _ _ _ _ => True) (fun _ U o U' => ∃ v L, o = .returned v ∧ Q9 Z a1 h0 n0 v U'.heap L ∧ FrameEnd U o U' L ({ frames := 2, cells := 0, slots := 0, locals := 24 } : Room).cells ({ frames := 2, cells := 0, slots := 0, locals := 24 } : Room).slots) := by
  refine MetFree.of_bodySF (plainFor_of_name pn_9) hisR ?_
  intro p e s m args below meth c s₁ Bd hml0 hP hK
  obtain ⟨rfl, hZ, hh⟩ := hP
  have hx := Bd.exec
  have hby := Bd.bytes
  have hml : c.maxLocals = 1 := hml0
  have hown : s.vm.findClass "java/util/AbstractSet" = some m.cls := findClass_of_methodNamed Bd.named
  have hnm := (name_of_methodNamed Bd.named Bd.method).1
  have X0 : Stand p l e ({ frames := 2, cells := 0, slots := 0, locals := 24 } : Room) s m #[(.ref a1)] below meth c s₁ [] 0 0 := Stand.of_body Bd
  have e0 : s₁.heap = h0 := by rw [← hh, Bd.state]; rfl
  have N0 := Fr.nil n0
  have pre0 : ∀ t, Steps p.tables e below (s₁.setTop (mkF m 0 #[.val (.ref a1)] [])) t → Steps p.tables e below (s₁.setTop (entryFrame m #[(.ref a1)] 1)) t := fun t k => castTop (ef_9 m a1) k
  -- 3. LAWS
  -- pc 1: the constructor of java/util/AbstractCollection by its contract rm5
  obtain ⟨_, _, ⟨T2, L2, k2, n2⟩, -, X2, ⟨Lc2, hQ2, l2, y2, z2⟩, st2⟩ := X0.specialBack hx (y := (⟨"java/util/AbstractCollection", "<init>", "()V"⟩ : MethodName)) rfl hown (mvT hZ (hw _ (List.mem_of_getElem? (i := 73) rfl))) (mvT hZ (hw _ (List.mem_of_getElem? (i := 22) rfl))) (mvT hZ (hw _ (List.mem_of_getElem? (i := 26) rfl))) (by decide) (backOf (W := 0) (rm5 l Z a0 hw [] a1  h0 n0 Z0) hZ (hw _ (List.mem_of_getElem? (i := 26) rfl)) (hw _ (List.mem_of_getElem? (i := 25) rfl)) (by decide) (by decide)) (g := (mkF m 1 #[.val (.ref a1)] [(.ref a1)])) rfl (by rw [hml]; rfl) (Steps.refl _) (a := a1) (argsL := []) (rest := []) (lenOf pd_9_0 rfl) rfl (by show 2 * 0 + _ ≤ _; exact Nat.le_of_eq rfl) (hb hby d9_1) (fun _ _ => ⟨rfl, e0, (by decide : 0 + 0 ≤ _), (by decide : 0 + 0 ≤ _)⟩)
  dsimp only [Pt.U, Pt.locs, Pt.cells, Pt.slots] at X2 l2 y2 z2 st2 hQ2
  subst l2 y2 z2
  obtain ⟨rfl, N2q, q2⟩ := hQ2      -- what it returned, that it wrote nothing old, and the rest of your Q5
  have N2 := Fr.app N0 N2q
  obtain ⟨fs, hr, hrun, hended, hW, hsame⟩ := X2.leave (v := none) (fun _ => rfl)
  refine ⟨_, _, pre0 _ ?_, hrun, hended, _, _, rfl, ?_, ⟨_, rfl⟩, hW, hsame.mono (by decide) (by decide)⟩
  -- 4. STEPS
  · show Steps p.tables e below (s₁.setTop (mkF m 0 #[.val (.ref a1)] [])) _
    refine XS.aloadN X0.here hx rfl (hb hby d9_0) rfl rfl ?_
    show Steps p.tables e below (s₁.setTop (mkF m 1 #[.val (.ref a1)] [(.ref a1)])) _
    refine st2.trans ?_
    show Steps p.tables e below (T2.setTop (mkF m 4 #[.val (.ref a1)] [])) _
    exact X2.returnOut hx Bd.returns (hb hby d9_4) hr
  · show Q9 Z a1 h0 n0 _ T2.heap _
    exact ⟨rfl, N2, q2⟩
theorem d4_0 : decode jdk_39_method_1_code 0 = .ok (.aload_n 0, 1) := by decide +kernel
theorem d4_1 : decode jdk_39_method_1_code 1 = .ok (.invokespecial 1, 3) := by decide +kernel
theorem d4_4 : decode jdk_39_method_1_code 4 = .ok (.aload_n 0, 1) := by decide +kernel
theorem d4_5 : decode jdk_39_method_1_code 5 = .ok (.iconst 0, 1) := by decide +kernel
theorem d4_6 : decode jdk_39_method_1_code 6 = .ok (.putfield 7, 3) := by decide +kernel
theorem d4_9 : decode jdk_39_method_1_code 9 = .ok (.return_, 1) := by decide +kernel
theorem pn_4 : plainName "java/util/AbstractList" = true := by first | (simp [plainName, overriddenIn]; done) | decide +kernel
theorem pd_4_0 : parseMethodDescriptor "()V" = some ⟨[], none⟩ := by decide +kernel
theorem ef_4 (m : MethodId) (x0 : Addr) : entryFrame m #[(.ref x0)] 1 = mkF m 0 #[.val (.ref x0)] [] := by first | (simp [entryFrame, mkF, argsToLocals, Value.category]; done) | rfl
def Q4 (Z : State) (a1 : Addr) (u_ed : Value) (h0 : Heap) (n0 : Nat) (v : Option Value) (h : Heap) (L : List Loc) : Prop := v = none ∧ Fr n0 L ∧ Keep h0 h [a1] ∧ Exa Z h a1 "java/util/ArrayList" ∧ Fld Z h a1 "java/util/ArrayList" "elementData" "[Ljava/lang/Object;" u_ed ∧ Fld Z h a1 "java/util/ArrayList" "size" "I" (.int (0 : Int32))
set_option maxRecDepth 65536 in
set_option maxHeartbeats 40000000 in
theorem rm4 (l : Launch) (Z : State) (a0 : Array Value) (hw : ∀ d ∈ tables_1, d.before a0 Z = true) (ws : List Jvm.Cond) (a1 : Addr) (u_modCount_a1 : Value) (u_ed : Value) (h0 : Heap) (n0 : Nat) (Z0 : n0 ≤ h0.size) (E_a1 : Exa Z h0 a1 "java/util/ArrayList") (F_modCount_a1 : Fld Z h0 a1 "java/util/AbstractList" "modCount" "I" u_modCount_a1) (g_a1 : n0 ≤ a1) (F_ed : Fld Z h0 a1 "java/util/ArrayList" "elementData" "[Ljava/lang/Object;" u_ed) (F_sz : Fld Z h0 a1 "java/util/ArrayList" "size" "I" (.int (0 : Int32))) :
    MetFree l (⟨"java/util/AbstractList", "<init>", "()V"⟩ : MethodName) (head1 (Jvm.Cond.code (⟨"java/util/AbstractList", "<init>", "()V"⟩ : MethodName) jdk_39_method_1_code 1 none :: ws) ({ frames := 2, cells := 0, slots := 0, locals := 24 } : Room)) (fun a U => a = #[(.ref a1)] ∧ Z.Warmed39 U.vm ∧ U.heap = h0) (fun _ _ _ _ _ => True) (fun _ U o U' => ∃ v L, o = .returned v ∧ Q4 Z a1 u_ed h0 n0 v U'.heap L ∧ FrameEnd U o U' L ({ frames := 2, cells := 0, slots := 0, locals := 24 } : Room).cells ({ frames := 2, cells := 0, slots := 0, locals := 24 } : Room).slots) := by
  refine MetFree.of_bodySF (plainFor_of_name pn_4) hisR ?_
  intro p e s m args below meth c s₁ Bd hml0 hP hK
  obtain ⟨rfl, hZ, hh⟩ := hP
  have hx := Bd.exec
  have hby := Bd.bytes
  have hml : c.maxLocals = 1 := hml0
  have hown : s.vm.findClass "java/util/AbstractList" = some m.cls := findClass_of_methodNamed Bd.named
  have hnm := (name_of_methodNamed Bd.named Bd.method).1
  have X0 : Stand p l e ({ frames := 2, cells := 0, slots := 0, locals := 24 } : Room) s m #[(.ref a1)] below meth c s₁ [] 0 0 := Stand.of_body Bd
  have e0 : s₁.heap = h0 := by rw [← hh, Bd.state]; rfl
  have N0 := Fr.nil n0
  have pre0 : ∀ t, Steps p.tables e below (s₁.setTop (mkF m 0 #[.val (.ref a1)] [])) t → Steps p.tables e below (s₁.setTop (entryFrame m #[(.ref a1)] 1)) t := fun t k => castTop (ef_4 m a1) k
  -- 3. LAWS
  -- pc 1: the constructor of java/util/AbstractCollection by its contract rm5
  obtain ⟨_, _, ⟨T2, L2, k2, n2⟩, -, X2, ⟨Lc2, hQ2, l2, y2, z2⟩, st2⟩ := X0.specialBack hx (y := (⟨"java/util/AbstractCollection", "<init>", "()V"⟩ : MethodName)) rfl hown (mvT hZ (hw _ (List.mem_of_getElem? (i := 21) rfl))) (mvT hZ (hw _ (List.mem_of_getElem? (i := 22) rfl))) (mvT hZ (hw _ (List.mem_of_getElem? (i := 26) rfl))) (by decide) (backOf (W := 0) (rm5 l Z a0 hw [] a1  h0 n0 Z0) hZ (hw _ (List.mem_of_getElem? (i := 26) rfl)) (hw _ (List.mem_of_getElem? (i := 25) rfl)) (by decide) (by decide)) (g := (mkF m 1 #[.val (.ref a1)] [(.ref a1)])) rfl (by rw [hml]; rfl) (Steps.refl _) (a := a1) (argsL := []) (rest := []) (lenOf pd_4_0 rfl) rfl (by show 2 * 0 + _ ≤ _; exact Nat.le_of_eq rfl) (hb hby d4_1) (fun _ _ => ⟨rfl, e0, (by decide : 0 + 0 ≤ _), (by decide : 0 + 0 ≤ _)⟩)
  dsimp only [Pt.U, Pt.locs, Pt.cells, Pt.slots] at X2 l2 y2 z2 st2 hQ2
  subst l2 y2 z2
  obtain ⟨rfl, N2q, q2⟩ := hQ2      -- what it returned, that it wrote nothing old, and the rest of your Q5
  have N2 := Fr.app N0 N2q
  have F_modCount_2 : Fld Z T2.heap a1 "java/util/AbstractList" "modCount" "I" u_modCount_a1 := by rw [q2]; exact F_modCount_a1
  have E_2 : Exa Z T2.heap a1 "java/util/ArrayList" := by rw [q2]; exact E_a1
  have F_ed2 : Fld Z T2.heap a1 "java/util/ArrayList" "elementData" "[Ljava/lang/Object;" u_ed := by rw [q2]; exact F_ed
  have F_sz2 : Fld Z T2.heap a1 "java/util/ArrayList" "size" "I" (.int (0 : Int32)) := by rw [q2]; exact F_sz
  have K2 : Keep h0 T2.heap [a1] := by rw [q2]; exact Keep.refl h0 [a1]
  obtain ⟨T3, h3, X3, e3, W3, st3⟩ := putF X2 hx hZ hown (host := "") (Or.inl (hw _ (List.mem_of_getElem? (i := 28) rfl))) Via.refl rfl F_modCount_2 E_2 (Or.inl (hw _ (List.mem_of_getElem? (i := 29) rfl))) (hw _ (List.mem_of_getElem? (i := 10) rfl)) (ty := .int) (by decide) rfl rfl (g := (mkF m 6 #[.val (.ref a1)] [(.int (0 : Int32)), (.ref a1)])) rfl rfl (hb hby d4_6)
  have Fw3 := F_modCount_2.same W3      -- the field now holds (.int (0 : Int32))
  have K3 : Keep h0 h3 [a1] := K2.wr W3 (Or.inl (List.mem_of_getElem? (i := 0) rfl))
  have N3 := Fr.snoc X3 N2 g_a1
  obtain ⟨fs, hr, hrun, hended, hW, hsame⟩ := X3.leave (v := none) (fun _ => rfl)
  refine ⟨_, _, pre0 _ ?_, hrun, hended, _, _, rfl, ?_, ⟨_, rfl⟩, hW, hsame.mono (by decide) (by decide)⟩
  -- 4. STEPS
  · show Steps p.tables e below (s₁.setTop (mkF m 0 #[.val (.ref a1)] [])) _
    refine XS.aloadN X0.here hx rfl (hb hby d4_0) rfl rfl ?_
    show Steps p.tables e below (s₁.setTop (mkF m 1 #[.val (.ref a1)] [(.ref a1)])) _
    refine st2.trans ?_
    show Steps p.tables e below (T2.setTop (mkF m 4 #[.val (.ref a1)] [])) _
    refine XS.aloadN X2.here hx rfl (hb hby d4_4) rfl rfl ?_
    show Steps p.tables e below (T2.setTop (mkF m 5 #[.val (.ref a1)] [(.ref a1)])) _
    refine XS.iconst X2.here hx rfl (hb hby d4_5) ?_
    show Steps p.tables e below (T2.setTop (mkF m 6 #[.val (.ref a1)] [(.int (0 : Int32)), (.ref a1)])) _
    refine st3 _ ?_
    show Steps p.tables e below (T3.setTop (mkF m 9 #[.val (.ref a1)] [])) _
    exact X3.returnOut hx Bd.returns (hb hby d4_9) hr
  · show Q4 Z a1 u_ed h0 n0 _ T3.heap _
    rw [e3]
    exact ⟨rfl, N3, K3, E_2.wr W3, (F_ed2.other W3 (Or.inr (Jvm.RoadKit.slot_ne (Or.inl (hw _ (List.mem_of_getElem? (i := 32) rfl))) (Or.inl (hw _ (List.mem_of_getElem? (i := 29) rfl))) (by decide) (t := (.array (.object "java/lang/Object"))) (t' := .int) (by decide) (by decide)))), (F_sz2.other W3 (Or.inr (Jvm.RoadKit.slot_ne (Or.inl (hw _ (List.mem_of_getElem? (i := 141) rfl))) (Or.inl (hw _ (List.mem_of_getElem? (i := 29) rfl))) (by decide) (t := .int) (t' := .int) (by decide) (by decide))))⟩
theorem d3_0 : decode jdk_38_method_2_code 0 = .ok (.aload_n 0, 1) := by decide +kernel
theorem d3_1 : decode jdk_38_method_2_code 1 = .ok (.invokespecial 1, 3) := by decide +kernel
theorem d3_4 : decode jdk_38_method_2_code 4 = .ok (.aload_n 0, 1) := by decide +kernel
theorem d3_5 : decode jdk_38_method_2_code 5 = .ok (.getstatic 39, 3) := by decide +kernel
theorem d3_8 : decode jdk_38_method_2_code 8 = .ok (.putfield 9, 3) := by decide +kernel
theorem d3_11 : decode jdk_38_method_2_code 11 = .ok (.return_, 1) := by decide +kernel
theorem pn_3 : plainName "java/util/ArrayList" = true := by first | (simp [plainName, overriddenIn]; done) | decide +kernel
theorem pd_3_0 : parseMethodDescriptor "()V" = some ⟨[], none⟩ := by decide +kernel
theorem ef_3 (m : MethodId) (x0 : Addr) : entryFrame m #[(.ref x0)] 1 = mkF m 0 #[.val (.ref x0)] [] := by first | (simp [entryFrame, mkF, argsToLocals, Value.category]; done) | rfl
def Q3 (Z : State) (a1 : Addr) (h0 : Heap) (n0 : Nat) (v : Option Value) (h : Heap) (L : List Loc) : Prop := v = none ∧ Fr n0 L ∧ Keep h0 h [a1] ∧ Li Z h a1
set_option maxRecDepth 65536 in
set_option maxHeartbeats 40000000 in
theorem rm3 (l : Launch) (Z : State) (a0 : Array Value) (hw : ∀ d ∈ tables_1, d.before a0 Z = true) (ws : List Jvm.Cond) (a1 : Addr) (w3 : Addr) (u_elementData_a1 : Value) (h0 : Heap) (n0 : Nat) (Z0 : n0 ≤ h0.size) (S_DEFAULTCAPACITY_EMPTY_ELEMENTDATA : Sta Z h0 "java/util/ArrayList" "DEFAULTCAPACITY_EMPTY_ELEMENTDATA" "[Ljava/lang/Object;" (.ref w3)) (E_a1 : Exa Z h0 a1 "java/util/ArrayList") (F_elementData_a1 : Fld Z h0 a1 "java/util/ArrayList" "elementData" "[Ljava/lang/Object;" u_elementData_a1) (g_a1 : n0 ≤ a1) (F_modCount_a1 : Fld Z h0 a1 "java/util/AbstractList" "modCount" "I" (.int (0 : Int32))) (F_size_a1 : Fld Z h0 a1 "java/util/ArrayList" "size" "I" (.int (0 : Int32))) :
    MetFree l (⟨"java/util/ArrayList", "<init>", "()V"⟩ : MethodName) (head1 (Jvm.Cond.code (⟨"java/util/ArrayList", "<init>", "()V"⟩ : MethodName) jdk_38_method_2_code 1 none :: ws) ({ frames := 3, cells := 0, slots := 0, locals := 36 } : Room)) (fun a U => a = #[(.ref a1)] ∧ Z.Warmed39 U.vm ∧ U.heap = h0) (fun _ _ _ _ _ => True) (fun _ U o U' => ∃ v L, o = .returned v ∧ Q3 Z a1 h0 n0 v U'.heap L ∧ FrameEnd U o U' L ({ frames := 3, cells := 0, slots := 0, locals := 36 } : Room).cells ({ frames := 3, cells := 0, slots := 0, locals := 36 } : Room).slots) := by
  refine MetFree.of_bodySF (plainFor_of_name pn_3) hisR ?_
  intro p e s m args below meth c s₁ Bd hml0 hP hK
  obtain ⟨rfl, hZ, hh⟩ := hP
  have hx := Bd.exec
  have hby := Bd.bytes
  have hml : c.maxLocals = 1 := hml0
  have hown : s.vm.findClass "java/util/ArrayList" = some m.cls := findClass_of_methodNamed Bd.named
  have hnm := (name_of_methodNamed Bd.named Bd.method).1
  have X0 : Stand p l e ({ frames := 3, cells := 0, slots := 0, locals := 36 } : Room) s m #[(.ref a1)] below meth c s₁ [] 0 0 := Stand.of_body Bd
  have e0 : s₁.heap = h0 := by rw [← hh, Bd.state]; rfl
  have N0 := Fr.nil n0
  have pre0 : ∀ t, Steps p.tables e below (s₁.setTop (mkF m 0 #[.val (.ref a1)] [])) t → Steps p.tables e below (s₁.setTop (entryFrame m #[(.ref a1)] 1)) t := fun t k => castTop (ef_3 m a1) k
  -- 3. LAWS
  -- pc 1: the constructor of java/util/AbstractList by its contract rm4
  obtain ⟨_, _, ⟨T2, L2, k2, n2⟩, -, X2, ⟨Lc2, hQ2, l2, y2, z2⟩, st2⟩ := X0.specialBack hx (y := (⟨"java/util/AbstractList", "<init>", "()V"⟩ : MethodName)) rfl hown (mvT hZ (hw _ (List.mem_of_getElem? (i := 15) rfl))) (mvT hZ (hw _ (List.mem_of_getElem? (i := 16) rfl))) (mvT hZ (hw _ (List.mem_of_getElem? (i := 20) rfl))) (by decide) (backOf (W := 0) (rm4 l Z a0 hw [] a1 _ u_elementData_a1 h0 n0 Z0 E_a1 F_modCount_a1 g_a1 F_elementData_a1 F_size_a1) hZ (hw _ (List.mem_of_getElem? (i := 20) rfl)) (hw _ (List.mem_of_getElem? (i := 19) rfl)) (by decide) (by decide)) (g := (mkF m 1 #[.val (.ref a1)] [(.ref a1)])) rfl (by rw [hml]; rfl) (Steps.refl _) (a := a1) (argsL := []) (rest := []) (lenOf pd_3_0 rfl) rfl (by show 2 * 0 + _ ≤ _; exact Nat.le_of_eq rfl) (hb hby d3_1) (fun _ _ => ⟨rfl, e0, (by decide : 0 + 0 ≤ _), (by decide : 0 + 0 ≤ _)⟩)
  dsimp only [Pt.U, Pt.locs, Pt.cells, Pt.slots] at X2 l2 y2 z2 st2 hQ2
  subst l2 y2 z2
  obtain ⟨rfl, N2q, K2, E2, F_ed2, F_sz2⟩ := hQ2      -- what it returned, that it wrote nothing old, and the rest of your Q4
  have N2 := Fr.app N0 N2q
  have ST2 := own_sta_keep S_DEFAULTCAPACITY_EMPTY_ELEMENTDATA K2 E_a1
  -- ✋ yours: S_DEFAULTCAPACITY_EMPTY_ELEMENTDATA must speak of T2.heap here (carried as the other facts are)
  obtain ⟨T4, X4, e4, st4⟩ := getS2 X2 hx hZ hown (host := "") (Or.inl (hw _ (List.mem_of_getElem? (i := 30) rfl))) Via.refl rfl ST2 (g := (mkF m 5 #[.val (.ref a1)] [(.ref a1)])) rfl (hb hby d3_5)
  obtain ⟨T5, h5, X5, e5, W5, st5⟩ := putF X4 hx hZ hown (host := "") (Or.inl (hw _ (List.mem_of_getElem? (i := 31) rfl))) Via.refl e4 F_ed2 E2 (Or.inl (hw _ (List.mem_of_getElem? (i := 32) rfl))) (hw _ (List.mem_of_getElem? (i := 10) rfl)) (ty := (.array (.object "java/lang/Object"))) (by decide) rfl rfl (g := (mkF m 8 #[.val (.ref a1)] [(.ref w3), (.ref a1)])) rfl rfl (hb hby d3_8)
  have Fw5 := F_ed2.same W5      -- the field now holds (.ref w3)
  have K5 : Keep h0 h5 [a1] := K2.wr W5 (Or.inl (List.mem_of_getElem? (i := 0) rfl))
  have N5 := Fr.snoc X5 N2 g_a1
  obtain ⟨fs, hr, hrun, hended, hW, hsame⟩ := X5.leave (v := none) (fun _ => rfl)
  refine ⟨_, _, pre0 _ ?_, hrun, hended, _, _, rfl, ?_, ⟨_, rfl⟩, hW, hsame.mono (by decide) (by decide)⟩
  -- 4. STEPS
  · show Steps p.tables e below (s₁.setTop (mkF m 0 #[.val (.ref a1)] [])) _
    refine XS.aloadN X0.here hx rfl (hb hby d3_0) rfl rfl ?_
    show Steps p.tables e below (s₁.setTop (mkF m 1 #[.val (.ref a1)] [(.ref a1)])) _
    refine st2.trans ?_
    show Steps p.tables e below (T2.setTop (mkF m 4 #[.val (.ref a1)] [])) _
    refine XS.aloadN X2.here hx rfl (hb hby d3_4) rfl rfl ?_
    show Steps p.tables e below (T2.setTop (mkF m 5 #[.val (.ref a1)] [(.ref a1)])) _
    refine st4 _ ?_
    show Steps p.tables e below (T4.setTop (mkF m 8 #[.val (.ref a1)] [(.ref w3), (.ref a1)])) _
    refine st5 _ ?_
    show Steps p.tables e below (T5.setTop (mkF m 11 #[.val (.ref a1)] [])) _
    exact X5.returnOut hx Bd.returns (hb hby d3_11) hr
  · show Q3 Z a1 h0 n0 _ T5.heap _
    rw [e5]
    exact ⟨rfl, N5, K5, E2.wr W5, (F_sz2.other W5 (Or.inr (Jvm.RoadKit.slot_ne (Or.inl (hw _ (List.mem_of_getElem? (i := 141) rfl))) (Or.inl (hw _ (List.mem_of_getElem? (i := 32) rfl))) (by decide) (t := .int) (t' := (.array (.object "java/lang/Object"))) (by decide) (by decide))))⟩
theorem d6_0 : decode jdk_69_method_7_code 0 = .ok (.aload_n 0, 1) := by decide +kernel
theorem d6_1 : decode jdk_69_method_7_code 1 = .ok (.invokespecial 43, 3) := by decide +kernel
theorem d6_4 : decode jdk_69_method_7_code 4 = .ok (.aload_n 0, 1) := by decide +kernel
theorem d6_5 : decode jdk_69_method_7_code 5 = .ok (.ldc 92, 2) := by decide +kernel
theorem d6_7 : decode jdk_69_method_7_code 7 = .ok (.putfield 81, 3) := by decide +kernel
theorem d6_10 : decode jdk_69_method_7_code 10 = .ok (.return_, 1) := by decide +kernel
theorem pn_6 : plainName "java/util/HashMap" = true := by first | (simp [plainName, overriddenIn]; done) | decide +kernel
theorem pd_6_0 : parseMethodDescriptor "()V" = some ⟨[], none⟩ := by decide +kernel
theorem ef_6 (m : MethodId) (x0 : Addr) : entryFrame m #[(.ref x0)] 1 = mkF m 0 #[.val (.ref x0)] [] := by first | (simp [entryFrame, mkF, argsToLocals, Value.category]; done) | rfl
def Q6 (Z : State) (a1 : Addr) (h0 : Heap) (n0 : Nat) (v : Option Value) (h : Heap) (L : List Loc) : Prop := v = none ∧ Fr n0 L ∧ Keep h0 h [a1]
set_option maxRecDepth 65536 in
set_option maxHeartbeats 40000000 in
theorem rm6 (l : Launch) (Z : State) (a0 : Array Value) (hw : ∀ d ∈ tables_1, d.before a0 Z = true) (ws : List Jvm.Cond) (a1 : Addr) (u_loadFactor_a1 : Value) (h0 : Heap) (n0 : Nat) (Z0 : n0 ≤ h0.size) (E_a1 : Exa Z h0 a1 "java/util/HashMap") (F_loadFactor_a1 : Fld Z h0 a1 "java/util/HashMap" "loadFactor" "F" u_loadFactor_a1) (g_a1 : n0 ≤ a1) :
    MetFree l (⟨"java/util/HashMap", "<init>", "()V"⟩ : MethodName) (head1 (Jvm.Cond.code (⟨"java/util/HashMap", "<init>", "()V"⟩ : MethodName) jdk_69_method_7_code 1 none :: ws) ({ frames := 2, cells := 0, slots := 0, locals := 24 } : Room)) (fun a U => a = #[(.ref a1)] ∧ Z.Warmed39 U.vm ∧ U.heap = h0) (fun _ _ _ _ _ => True) (fun _ U o U' => ∃ v L, o = .returned v ∧ Q6 Z a1 h0 n0 v U'.heap L ∧ FrameEnd U o U' L ({ frames := 2, cells := 0, slots := 0, locals := 24 } : Room).cells ({ frames := 2, cells := 0, slots := 0, locals := 24 } : Room).slots) := by
  refine MetFree.of_bodySF (plainFor_of_name pn_6) hisR ?_
  intro p e s m args below meth c s₁ Bd hml0 hP hK
  obtain ⟨rfl, hZ, hh⟩ := hP
  have hx := Bd.exec
  have hby := Bd.bytes
  have hml : c.maxLocals = 1 := hml0
  have hown : s.vm.findClass "java/util/HashMap" = some m.cls := findClass_of_methodNamed Bd.named
  have hnm := (name_of_methodNamed Bd.named Bd.method).1
  have X0 : Stand p l e ({ frames := 2, cells := 0, slots := 0, locals := 24 } : Room) s m #[(.ref a1)] below meth c s₁ [] 0 0 := Stand.of_body Bd
  have e0 : s₁.heap = h0 := by rw [← hh, Bd.state]; rfl
  have N0 := Fr.nil n0
  have pre0 : ∀ t, Steps p.tables e below (s₁.setTop (mkF m 0 #[.val (.ref a1)] [])) t → Steps p.tables e below (s₁.setTop (entryFrame m #[(.ref a1)] 1)) t := fun t k => castTop (ef_6 m a1) k
  -- 3. LAWS
  -- pc 1: the constructor of java/util/AbstractMap by its contract rm7
  obtain ⟨_, _, ⟨T2, L2, k2, n2⟩, -, X2, ⟨Lc2, hQ2, l2, y2, z2⟩, st2⟩ := X0.specialBack hx (y := (⟨"java/util/AbstractMap", "<init>", "()V"⟩ : MethodName)) rfl hown (mvT hZ (hw _ (List.mem_of_getElem? (i := 43) rfl))) (mvT hZ (hw _ (List.mem_of_getElem? (i := 44) rfl))) (mvT hZ (hw _ (List.mem_of_getElem? (i := 48) rfl))) (by decide) (backOf (W := 0) (rm7 l Z a0 hw [] a1  h0 n0 Z0) hZ (hw _ (List.mem_of_getElem? (i := 48) rfl)) (hw _ (List.mem_of_getElem? (i := 47) rfl)) (by decide) (by decide)) (g := (mkF m 1 #[.val (.ref a1)] [(.ref a1)])) rfl (by rw [hml]; rfl) (Steps.refl _) (a := a1) (argsL := []) (rest := []) (lenOf pd_6_0 rfl) rfl (by show 2 * 0 + _ ≤ _; exact Nat.le_of_eq rfl) (hb hby d6_1) (fun _ _ => ⟨rfl, e0, (by decide : 0 + 0 ≤ _), (by decide : 0 + 0 ≤ _)⟩)
  dsimp only [Pt.U, Pt.locs, Pt.cells, Pt.slots] at X2 l2 y2 z2 st2 hQ2
  subst l2 y2 z2
  obtain ⟨rfl, N2q, q2⟩ := hQ2      -- what it returned, that it wrote nothing old, and the rest of your Q7
  have N2 := Fr.app N0 N2q
  have F_2 : Fld Z T2.heap a1 "java/util/HashMap" "loadFactor" "F" u_loadFactor_a1 := by rw [q2]; exact F_loadFactor_a1
  have E_2 : Exa Z T2.heap a1 "java/util/HashMap" := by rw [q2]; exact E_a1
  have K2 : Keep h0 T2.heap [a1] := by rw [q2]; exact Keep.refl h0 [a1]
  obtain ⟨T3, h3, X3, e3, W3, st3⟩ := putF X2 hx hZ hown (host := "") (Or.inl (hw _ (List.mem_of_getElem? (i := 51) rfl))) Via.refl rfl F_2 E_2 (Or.inr ⟨(hw _ (List.mem_of_getElem? (i := 52) rfl)), rfl, hnm⟩) (hw _ (List.mem_of_getElem? (i := 38) rfl)) (ty := .float) (by decide) rfl rfl (g := (mkF m 7 #[.val (.ref a1)] [(.float (1061158912 : UInt32)), (.ref a1)])) rfl rfl (hb hby d6_7)
  have Fw3 := F_2.same W3      -- the field now holds (.float (1061158912 : UInt32))
  have K3 : Keep h0 h3 [a1] := K2.wr W3 (Or.inl (List.mem_of_getElem? (i := 0) rfl))
  have N3 := Fr.snoc X3 N2 g_a1
  obtain ⟨fs, hr, hrun, hended, hW, hsame⟩ := X3.leave (v := none) (fun _ => rfl)
  refine ⟨_, _, pre0 _ ?_, hrun, hended, _, _, rfl, ?_, ⟨_, rfl⟩, hW, hsame.mono (by decide) (by decide)⟩
  -- 4. STEPS
  · show Steps p.tables e below (s₁.setTop (mkF m 0 #[.val (.ref a1)] [])) _
    refine XS.aloadN X0.here hx rfl (hb hby d6_0) rfl rfl ?_
    show Steps p.tables e below (s₁.setTop (mkF m 1 #[.val (.ref a1)] [(.ref a1)])) _
    refine st2.trans ?_
    show Steps p.tables e below (T2.setTop (mkF m 4 #[.val (.ref a1)] [])) _
    refine XS.aloadN X2.here hx rfl (hb hby d6_4) rfl rfl ?_
    show Steps p.tables e below (T2.setTop (mkF m 5 #[.val (.ref a1)] [(.ref a1)])) _
    refine X2.ldcFloatC hx hown (mvT hZ (hw _ (List.mem_of_getElem? (i := 50) rfl))) (g := (mkF m 5 #[.val (.ref a1)] [(.ref a1)])) rfl (hb hby d6_5) _ ?_
    show Steps p.tables e below (T2.setTop (mkF m 7 #[.val (.ref a1)] [(.float (1061158912 : UInt32)), (.ref a1)])) _
    refine st3 _ ?_
    show Steps p.tables e below (T3.setTop (mkF m 10 #[.val (.ref a1)] [])) _
    exact X3.returnOut hx Bd.returns (hb hby d6_10) hr
  · show Q6 Z a1 h0 n0 _ T3.heap _
    rw [e3]
    exact ⟨rfl, N3, K3⟩
theorem d8_0 : decode jdk_93_method_1_code 0 = .ok (.aload_n 0, 1) := by decide +kernel
theorem d8_1 : decode jdk_93_method_1_code 1 = .ok (.invokespecial 1, 3) := by decide +kernel
theorem d8_4 : decode jdk_93_method_1_code 4 = .ok (.aload_n 0, 1) := by decide +kernel
theorem d8_5 : decode jdk_93_method_1_code 5 = .ok (.new 7, 3) := by decide +kernel
theorem d8_8 : decode jdk_93_method_1_code 8 = .ok (.dup, 1) := by decide +kernel
theorem d8_9 : decode jdk_93_method_1_code 9 = .ok (.invokespecial 9, 3) := by decide +kernel
theorem d8_12 : decode jdk_93_method_1_code 12 = .ok (.putfield 10, 3) := by decide +kernel
theorem d8_15 : decode jdk_93_method_1_code 15 = .ok (.return_, 1) := by decide +kernel
theorem pn_8 : plainName "java/util/HashSet" = true := by first | (simp [plainName, overriddenIn]; done) | decide +kernel
theorem pd_8_0 : parseMethodDescriptor "()V" = some ⟨[], none⟩ := by decide +kernel
theorem ef_8 (m : MethodId) (x0 : Addr) : entryFrame m #[(.ref x0)] 1 = mkF m 0 #[.val (.ref x0)] [] := by first | (simp [entryFrame, mkF, argsToLocals, Value.category]; done) | rfl
def Q8 (Z : State) (a1 : Addr) (h0 : Heap) (n0 : Nat) (v : Option Value) (h : Heap) (L : List Loc) : Prop := v = none ∧ Fr n0 L ∧ Keep h0 h [a1]
set_option maxRecDepth 65536 in
set_option maxHeartbeats 40000000 in
theorem rm8 (l : Launch) (Z : State) (a0 : Array Value) (hw : ∀ d ∈ tables_1, d.before a0 Z = true) (ws : List Jvm.Cond) (a1 : Addr) (u_map_a1 : Value) (h0 : Heap) (n0 : Nat) (Z0 : n0 ≤ h0.size) (E_a1 : Exa Z h0 a1 "java/util/HashSet") (F_map_a1 : Fld Z h0 a1 "java/util/HashSet" "map" "Ljava/util/HashMap;" u_map_a1) (g_a1 : n0 ≤ a1) :
    MetFree l (⟨"java/util/HashSet", "<init>", "()V"⟩ : MethodName) (head1 (Jvm.Cond.code (⟨"java/util/HashSet", "<init>", "()V"⟩ : MethodName) jdk_93_method_1_code 1 none :: ws) ({ frames := 3, cells := 1, slots := 8, locals := 38 } : Room)) (fun a U => a = #[(.ref a1)] ∧ Z.Warmed39 U.vm ∧ U.heap = h0) (fun _ _ _ _ _ => True) (fun _ U o U' => ∃ v L, o = .returned v ∧ Q8 Z a1 h0 n0 v U'.heap L ∧ FrameEnd U o U' L ({ frames := 3, cells := 1, slots := 8, locals := 38 } : Room).cells ({ frames := 3, cells := 1, slots := 8, locals := 38 } : Room).slots) := by
  refine MetFree.of_bodySF (plainFor_of_name pn_8) hisR ?_
  intro p e s m args below meth c s₁ Bd hml0 hP hK
  obtain ⟨rfl, hZ, hh⟩ := hP
  have hx := Bd.exec
  have hby := Bd.bytes
  have hml : c.maxLocals = 1 := hml0
  have hown : s.vm.findClass "java/util/HashSet" = some m.cls := findClass_of_methodNamed Bd.named
  have hnm := (name_of_methodNamed Bd.named Bd.method).1
  have X0 : Stand p l e ({ frames := 3, cells := 1, slots := 8, locals := 38 } : Room) s m #[(.ref a1)] below meth c s₁ [] 0 0 := Stand.of_body Bd
  have e0 : s₁.heap = h0 := by rw [← hh, Bd.state]; rfl
  have N0 := Fr.nil n0
  have pre0 : ∀ t, Steps p.tables e below (s₁.setTop (mkF m 0 #[.val (.ref a1)] [])) t → Steps p.tables e below (s₁.setTop (entryFrame m #[(.ref a1)] 1)) t := fun t k => castTop (ef_8 m a1) k
  -- 3. LAWS
  -- pc 1: the constructor of java/util/AbstractSet by its contract rm9
  obtain ⟨_, _, ⟨T2, L2, k2, n2⟩, -, X2, ⟨Lc2, hQ2, l2, y2, z2⟩, st2⟩ := X0.specialBack hx (y := (⟨"java/util/AbstractSet", "<init>", "()V"⟩ : MethodName)) rfl hown (mvT hZ (hw _ (List.mem_of_getElem? (i := 67) rfl))) (mvT hZ (hw _ (List.mem_of_getElem? (i := 68) rfl))) (mvT hZ (hw _ (List.mem_of_getElem? (i := 72) rfl))) (by decide) (backOf (W := 0) (rm9 l Z a0 hw [] a1  h0 n0 Z0) hZ (hw _ (List.mem_of_getElem? (i := 72) rfl)) (hw _ (List.mem_of_getElem? (i := 71) rfl)) (by decide) (by decide)) (g := (mkF m 1 #[.val (.ref a1)] [(.ref a1)])) rfl (by rw [hml]; rfl) (Steps.refl _) (a := a1) (argsL := []) (rest := []) (lenOf pd_8_0 rfl) rfl (by show 2 * 0 + _ ≤ _; exact Nat.le_of_eq rfl) (hb hby d8_1) (fun _ _ => ⟨rfl, e0, (by decide : 0 + 0 ≤ _), (by decide : 0 + 0 ≤ _)⟩)
  dsimp only [Pt.U, Pt.locs, Pt.cells, Pt.slots] at X2 l2 y2 z2 st2 hQ2
  subst l2 y2 z2
  obtain ⟨rfl, N2q, q2⟩ := hQ2      -- what it returned, that it wrote nothing old, and the rest of your Q9
  have N2 := Fr.app N0 N2q
  have F_2 : Fld Z T2.heap a1 "java/util/HashSet" "map" "Ljava/util/HashMap;" u_map_a1 := by rw [q2]; exact F_map_a1
  have E_2 : Exa Z T2.heap a1 "java/util/HashSet" := by rw [q2]; exact E_a1
  have K2 : Keep h0 T2.heap [a1] := by rw [q2]; exact Keep.refl h0 [a1]
  obtain ⟨T3, h3, X3, e3, E3, A3, D3, -, st3⟩ := newO X2 hx hZ hown (hw _ (List.mem_of_getElem? (i := 75) rfl)) (hw _ (List.mem_of_getElem? (i := 38) rfl)) (hw _ (List.mem_of_getElem? (i := 39) rfl)) rfl (g := (mkF m 5 #[.val (.ref a1)] [(.ref a1)])) rfl (hb hby d8_5) (by decide) (by decide)
  obtain ⟨b3, g3⟩ : ∃ z, z = T2.heap.size := ⟨_, rfl⟩      -- the fresh object's address
  rw [← g3] at A3 D3 st3      -- A3 : Exa Z h3 b3 "java/util/HashMap"; E3 : Ext T2.heap h3 (carries every older fact: .ext E3)
  have F_loadFactor_b3 : Fld Z h3 b3 "java/util/HashMap" "loadFactor" "F" (.float (0 : UInt32)) := D3 (Or.inr (hw _ (List.mem_of_getElem? (i := 52) rfl))) (ty := .float) (by decide)
  have E_b3 := A3
  have g_b3 : n0 ≤ b3 := Nat.le_trans (Nat.le_trans Z0 K2.1) (Nat.le_of_eq g3.symm)
  have sz_b3 : h0.size ≤ b3 := (Nat.le_trans K2.1 (Nat.le_of_eq g3.symm))
  have K3 : Keep h0 h3 [a1] := K2.ext E3
  -- pc 9: the constructor of java/util/HashMap by its contract rm6
  obtain ⟨_, _, ⟨T4, L4, k4, n4⟩, -, X4, ⟨Lc4, hQ4, l4, y4, z4⟩, st4⟩ := X3.specialBack hx (y := (⟨"java/util/HashMap", "<init>", "()V"⟩ : MethodName)) rfl hown (mvT hZ (hw _ (List.mem_of_getElem? (i := 76) rfl))) (mvT hZ (hw _ (List.mem_of_getElem? (i := 41) rfl))) (mvT hZ (hw _ (List.mem_of_getElem? (i := 42) rfl))) (by decide) (backOf (W := 2) (rm6 l Z a0 hw [] b3 _ h3 n0 (Nat.le_trans Z0 K3.1) E_b3 F_loadFactor_b3 g_b3) hZ (hw _ (List.mem_of_getElem? (i := 42) rfl)) (hw _ (List.mem_of_getElem? (i := 39) rfl)) (by decide) (by decide)) (g := (mkF m 9 #[.val (.ref a1)] [(.ref b3), (.ref b3), (.ref a1)])) rfl (by rw [hml]; rfl) (Steps.refl _) (a := b3) (argsL := []) (rest := [(.ref b3), (.ref a1)]) (lenOf pd_8_0 rfl) rfl (by show 2 * 0 + _ ≤ _; exact Nat.le_of_eq rfl) (hb hby d8_9) (fun _ _ => ⟨rfl, e3, (by decide : 1 + 0 ≤ _), (by decide : 8 + 0 ≤ _)⟩)
  dsimp only [Pt.U, Pt.locs, Pt.cells, Pt.slots] at X4 l4 y4 z4 st4 hQ4
  subst l4 y4 z4
  obtain ⟨rfl, N4q, K4⟩ := hQ4      -- what it returned, that it wrote nothing old, and the rest of your Q6
  have N4 := Fr.app N2 N4q
  have ne3 : a1 ≠ b3 := Nat.ne_of_lt (Nat.lt_of_lt_of_le E_a1.lt sz_b3)
  have K4' : Keep h0 T4.heap [a1] := K3.trans K4 fun x hx => by cases List.mem_singleton.mp hx; exact Or.inr sz_b3
  obtain ⟨T5, h5, X5, e5, W5, st5⟩ := putF X4 hx hZ hown (host := "") (Or.inl (hw _ (List.mem_of_getElem? (i := 78) rfl))) Via.refl rfl ((F_2.ext E3).keep K4 (fun q => ne3 (List.mem_singleton.mp q))) ((E_2.ext E3).keep K4) (Or.inl (hw _ (List.mem_of_getElem? (i := 79) rfl))) (hw _ (List.mem_of_getElem? (i := 62) rfl)) (ty := (.object "java/util/HashMap")) (by decide) rfl rfl (g := (mkF m 12 #[.val (.ref a1)] [(.ref b3), (.ref a1)])) rfl rfl (hb hby d8_12)
  have Fw5 := ((F_2.ext E3).keep K4 (fun q => ne3 (List.mem_singleton.mp q))).same W5      -- the field now holds (.ref b3)
  have K5 : Keep h0 h5 [a1] := K4'.wr W5 (Or.inl (List.mem_of_getElem? (i := 0) rfl))
  have N5 := Fr.snoc X5 N4 g_a1
  obtain ⟨fs, hr, hrun, hended, hW, hsame⟩ := X5.leave (v := none) (fun _ => rfl)
  refine ⟨_, _, pre0 _ ?_, hrun, hended, _, _, rfl, ?_, ⟨_, rfl⟩, hW, hsame.mono (by decide) (by decide)⟩
  -- 4. STEPS
  · show Steps p.tables e below (s₁.setTop (mkF m 0 #[.val (.ref a1)] [])) _
    refine XS.aloadN X0.here hx rfl (hb hby d8_0) rfl rfl ?_
    show Steps p.tables e below (s₁.setTop (mkF m 1 #[.val (.ref a1)] [(.ref a1)])) _
    refine st2.trans ?_
    show Steps p.tables e below (T2.setTop (mkF m 4 #[.val (.ref a1)] [])) _
    refine XS.aloadN X2.here hx rfl (hb hby d8_4) rfl rfl ?_
    show Steps p.tables e below (T2.setTop (mkF m 5 #[.val (.ref a1)] [(.ref a1)])) _
    refine st3 _ ?_
    show Steps p.tables e below (T3.setTop (mkF m 8 #[.val (.ref a1)] [(.ref b3), (.ref a1)])) _
    refine XS.dup X3.here hx rfl (hb hby d8_8) rfl rfl ?_
    show Steps p.tables e below (T3.setTop (mkF m 9 #[.val (.ref a1)] [(.ref b3), (.ref b3), (.ref a1)])) _
    refine st4.trans ?_
    show Steps p.tables e below (T4.setTop (mkF m 12 #[.val (.ref a1)] [(.ref b3), (.ref a1)])) _
    refine st5 _ ?_
    show Steps p.tables e below (T5.setTop (mkF m 15 #[.val (.ref a1)] [])) _
    exact X5.returnOut hx Bd.returns (hb hby d8_15) hr
  · show Q8 Z a1 h0 n0 _ T5.heap _
    rw [e5]
    exact ⟨rfl, N5, K5⟩
theorem d10_0 : decode prog_135_method_1_code 0 = .ok (.aload_n 0, 1) := by decide +kernel
theorem d10_1 : decode prog_135_method_1_code 1 = .ok (.aload_n 1, 1) := by decide +kernel
theorem d10_2 : decode prog_135_method_1_code 2 = .ok (.putfield 1, 3) := by decide +kernel
theorem d10_5 : decode prog_135_method_1_code 5 = .ok (.aload_n 0, 1) := by decide +kernel
theorem d10_6 : decode prog_135_method_1_code 6 = .ok (.invokespecial 7, 3) := by decide +kernel
theorem d10_9 : decode prog_135_method_1_code 9 = .ok (.aload_n 0, 1) := by decide +kernel
theorem d10_10 : decode prog_135_method_1_code 10 = .ok (.new 13, 3) := by decide +kernel
theorem d10_13 : decode prog_135_method_1_code 13 = .ok (.dup, 1) := by decide +kernel
theorem d10_14 : decode prog_135_method_1_code 14 = .ok (.invokespecial 15, 3) := by decide +kernel
theorem d10_17 : decode prog_135_method_1_code 17 = .ok (.putfield 16, 3) := by decide +kernel
theorem d10_20 : decode prog_135_method_1_code 20 = .ok (.aload_n 0, 1) := by decide +kernel
theorem d10_21 : decode prog_135_method_1_code 21 = .ok (.new 13, 3) := by decide +kernel
theorem d10_24 : decode prog_135_method_1_code 24 = .ok (.dup, 1) := by decide +kernel
theorem d10_25 : decode prog_135_method_1_code 25 = .ok (.invokespecial 15, 3) := by decide +kernel
theorem d10_28 : decode prog_135_method_1_code 28 = .ok (.putfield 20, 3) := by decide +kernel
theorem d10_31 : decode prog_135_method_1_code 31 = .ok (.return_, 1) := by decide +kernel
theorem pn_10 : plainName "com/example/steplint/steplint/prove/SmtScript$SharedForms" = true := by first | (simp [plainName, overriddenIn]; done) | decide +kernel
theorem pd_10_0 : parseMethodDescriptor "()V" = some ⟨[], none⟩ := by decide +kernel
theorem ef_10 (m : MethodId) (x0 : Addr) (x1 : Addr) : entryFrame m #[(.ref x0), (.ref x1)] 2 = mkF m 0 #[.val (.ref x0), .val (.ref x1)] [] := by first | (simp [entryFrame, mkF, argsToLocals, Value.category]; done) | rfl
def Q10 (Z : State) (a1 : Addr) (h0 : Heap) (n0 : Nat) (v : Option Value) (h : Heap) (L : List Loc) : Prop := v = none ∧ Fr n0 L ∧ Keep h0 h [a1]
set_option maxRecDepth 65536 in
set_option maxHeartbeats 40000000 in
theorem rm10 (l : Launch) (Z : State) (a0 : Array Value) (hw : ∀ d ∈ tables_1, d.before a0 Z = true) (ws : List Jvm.Cond) (a1 : Addr) (a2 : Addr) (u_this_0_a1 : Value) (u_atoms_a1 : Value) (u_lists_a1 : Value) (h0 : Heap) (n0 : Nat) (Z0 : n0 ≤ h0.size) (E_a1 : Exa Z h0 a1 "com/example/steplint/steplint/prove/SmtScript$SharedForms") (F_this_0_a1 : Fld Z h0 a1 "com/example/steplint/steplint/prove/SmtScript$SharedForms" "this$0" "Lcom/example/steplint/steplint/prove/SmtScript;" u_this_0_a1) (g_a1 : n0 ≤ a1) (F_atoms_a1 : Fld Z h0 a1 "com/example/steplint/steplint/prove/SmtScript$SharedForms" "atoms" "Ljava/util/Map;" u_atoms_a1) (F_lists_a1 : Fld Z h0 a1 "com/example/steplint/steplint/prove/SmtScript$SharedForms" "lists" "Ljava/util/Map;" u_lists_a1) :
    MetFree l (⟨"com/example/steplint/steplint/prove/SmtScript$SharedForms", "<init>", "(Lcom/example/steplint/steplint/prove/SmtScript;)V"⟩ : MethodName) (head1 (Jvm.Cond.code (⟨"com/example/steplint/steplint/prove/SmtScript$SharedForms", "<init>", "(Lcom/example/steplint/steplint/prove/SmtScript;)V"⟩ : MethodName) prog_135_method_1_code 2 none :: ws) ({ frames := 3, cells := 2, slots := 16, locals := 38 } : Room)) (fun a U => a = #[(.ref a1), (.ref a2)] ∧ Z.Warmed39 U.vm ∧ U.heap = h0) (fun _ _ _ _ _ => True) (fun _ U o U' => ∃ v L, o = .returned v ∧ Q10 Z a1 h0 n0 v U'.heap L ∧ FrameEnd U o U' L ({ frames := 3, cells := 2, slots := 16, locals := 38 } : Room).cells ({ frames := 3, cells := 2, slots := 16, locals := 38 } : Room).slots) := by
  refine MetFree.of_bodySF (plainFor_of_name pn_10) hisR ?_
  intro p e s m args below meth c s₁ Bd hml0 hP hK
  obtain ⟨rfl, hZ, hh⟩ := hP
  have hx := Bd.exec
  have hby := Bd.bytes
  have hml : c.maxLocals = 2 := hml0
  have hown : s.vm.findClass "com/example/steplint/steplint/prove/SmtScript$SharedForms" = some m.cls := findClass_of_methodNamed Bd.named
  have hnm := (name_of_methodNamed Bd.named Bd.method).1
  have X0 : Stand p l e ({ frames := 3, cells := 2, slots := 16, locals := 38 } : Room) s m #[(.ref a1), (.ref a2)] below meth c s₁ [] 0 0 := Stand.of_body Bd
  have e0 : s₁.heap = h0 := by rw [← hh, Bd.state]; rfl
  have N0 := Fr.nil n0
  have pre0 : ∀ t, Steps p.tables e below (s₁.setTop (mkF m 0 #[.val (.ref a1), .val (.ref a2)] [])) t → Steps p.tables e below (s₁.setTop (entryFrame m #[(.ref a1), (.ref a2)] 2)) t := fun t k => castTop (ef_10 m a1 a2) k
  -- 3. LAWS
  obtain ⟨T3, h3, X3, e3, W3, st3⟩ := putF X0 hx hZ hown (host := "") (Or.inl (hw _ (List.mem_of_getElem? (i := 96) rfl))) Via.refl e0 F_this_0_a1 E_a1 (Or.inr ⟨(hw _ (List.mem_of_getElem? (i := 97) rfl)), rfl, hnm⟩) (hw _ (List.mem_of_getElem? (i := 91) rfl)) (ty := (.object "com/example/steplint/steplint/prove/SmtScript")) (by decide) rfl rfl (g := (mkF m 2 #[.val (.ref a1), .val (.ref a2)] [(.ref a2), (.ref a1)])) rfl rfl (hb hby d10_2)
  have Fw3 := F_this_0_a1.same W3      -- the field now holds (.ref a2)
  have K3 : Keep h0 h3 [a1] := (Keep.refl h0 [a1]).wr W3 (Or.inl (List.mem_of_getElem? (i := 0) rfl))
  have N3 := Fr.snoc X3 N0 g_a1
  obtain ⟨T4, X4, e4, st4⟩ := initO X3 hx hZ hown (hw _ (List.mem_of_getElem? (i := 98) rfl)) (hw _ (List.mem_of_getElem? (i := 7) rfl)) (hw _ (List.mem_of_getElem? (i := 8) rfl)) e3 (g := (mkF m 6 #[.val (.ref a1), .val (.ref a2)] [(.ref a1)])) rfl (by rw [hml]; rfl) rfl (hb hby d10_6) (by decide) (W := 0) (by show 2 * 0 + _ ≤ _; exact Nat.le_of_eq rfl) (by decide)
  obtain ⟨T5, h5, X5, e5, E5, A5, D5, -, st5⟩ := newO X4 hx hZ hown (hw _ (List.mem_of_getElem? (i := 99) rfl)) (hw _ (List.mem_of_getElem? (i := 38) rfl)) (hw _ (List.mem_of_getElem? (i := 39) rfl)) e4 (g := (mkF m 10 #[.val (.ref a1), .val (.ref a2)] [(.ref a1)])) rfl (hb hby d10_10) (by decide) (by decide)
  obtain ⟨b5, g5⟩ : ∃ z, z = h3.size := ⟨_, rfl⟩      -- the fresh object's address
  rw [← g5] at A5 D5 st5      -- A5 : Exa Z h5 b5 "java/util/HashMap"; E5 : Ext h3 h5 (carries every older fact: .ext E5)
  have F_loadFactor_b5 : Fld Z h5 b5 "java/util/HashMap" "loadFactor" "F" (.float (0 : UInt32)) := D5 (Or.inr (hw _ (List.mem_of_getElem? (i := 52) rfl))) (ty := .float) (by decide)
  have E_b5 := A5
  have g_b5 : n0 ≤ b5 := Nat.le_trans (Nat.le_trans Z0 (Keep.of_wr W3).1) (Nat.le_of_eq g5.symm)
  have sz_b5 : h0.size ≤ b5 := (Nat.le_trans K3.1 (Nat.le_of_eq g5.symm))
  have K5 : Keep h0 h5 [a1] := K3.ext E5
  -- pc 14: the constructor of java/util/HashMap by its contract rm6
  obtain ⟨_, _, ⟨T6, L6, k6, n6⟩, -, X6, ⟨Lc6, hQ6, l6, y6, z6⟩, st6⟩ := X5.specialBack hx (y := (⟨"java/util/HashMap", "<init>", "()V"⟩ : MethodName)) rfl hown (mvT hZ (hw _ (List.mem_of_getElem? (i := 100) rfl))) (mvT hZ (hw _ (List.mem_of_getElem? (i := 41) rfl))) (mvT hZ (hw _ (List.mem_of_getElem? (i := 42) rfl))) (by decide) (backOf (W := 2) (rm6 l Z a0 hw [] b5 _ h5 n0 (Nat.le_trans Z0 K5.1) E_b5 F_loadFactor_b5 g_b5) hZ (hw _ (List.mem_of_getElem? (i := 42) rfl)) (hw _ (List.mem_of_getElem? (i := 39) rfl)) (by decide) (by decide)) (g := (mkF m 14 #[.val (.ref a1), .val (.ref a2)] [(.ref b5), (.ref b5), (.ref a1)])) rfl (by rw [hml]; rfl) (Steps.refl _) (a := b5) (argsL := []) (rest := [(.ref b5), (.ref a1)]) (lenOf pd_10_0 rfl) rfl (by show 2 * 0 + _ ≤ _; exact Nat.le_of_eq rfl) (hb hby d10_14) (fun _ _ => ⟨rfl, e5, (by decide : 1 + 0 ≤ _), (by decide : 8 + 0 ≤ _)⟩)
  dsimp only [Pt.U, Pt.locs, Pt.cells, Pt.slots] at X6 l6 y6 z6 st6 hQ6
  subst l6 y6 z6
  obtain ⟨rfl, N6q, K6⟩ := hQ6      -- what it returned, that it wrote nothing old, and the rest of your Q6
  have N6 := Fr.app N3 N6q
  have ne_b5 : a1 ≠ b5 := Nat.ne_of_lt (Nat.lt_of_lt_of_le E_a1.lt sz_b5)
  have K6' : Keep h0 T6.heap [a1] := K5.trans K6 fun x hx => by cases List.mem_singleton.mp hx; exact Or.inr sz_b5
  obtain ⟨T7, h7, X7, e7, W7, st7⟩ := putF X6 hx hZ hown (host := "") (Or.inl (hw _ (List.mem_of_getElem? (i := 101) rfl))) Via.refl rfl (((F_atoms_a1.other W3 (Or.inr (slot_ne (Or.inr (hw _ (List.mem_of_getElem? (i := 102) rfl))) (Or.inr (hw _ (List.mem_of_getElem? (i := 97) rfl))) (by decide) (t := (.object "java/util/Map")) (t' := (.object "com/example/steplint/steplint/prove/SmtScript")) (by decide) (by decide)))).ext E5).keep K6 (fun q => ne_b5 (List.mem_singleton.mp q))) (((E_a1.wr W3).ext E5).keep K6) (Or.inr ⟨(hw _ (List.mem_of_getElem? (i := 102) rfl)), rfl, hnm⟩) (hw _ (List.mem_of_getElem? (i := 91) rfl)) (ty := (.object "java/util/Map")) (by decide) rfl rfl (g := (mkF m 17 #[.val (.ref a1), .val (.ref a2)] [(.ref b5), (.ref a1)])) rfl rfl (hb hby d10_17)
  have Fw7 := (((F_atoms_a1.other W3 (Or.inr (slot_ne (Or.inr (hw _ (List.mem_of_getElem? (i := 102) rfl))) (Or.inr (hw _ (List.mem_of_getElem? (i := 97) rfl))) (by decide) (t := (.object "java/util/Map")) (t' := (.object "com/example/steplint/steplint/prove/SmtScript")) (by decide) (by decide)))).ext E5).keep K6 (fun q => ne_b5 (List.mem_singleton.mp q))).same W7      -- the field now holds (.ref b5)
  have K7 : Keep h0 h7 [a1] := K6'.wr W7 (Or.inl (List.mem_of_getElem? (i := 0) rfl))
  have N7 := Fr.snoc X7 N6 g_a1
  obtain ⟨T8, h8, X8, e8, E8, A8, D8, -, st8⟩ := newO X7 hx hZ hown (hw _ (List.mem_of_getElem? (i := 99) rfl)) (hw _ (List.mem_of_getElem? (i := 38) rfl)) (hw _ (List.mem_of_getElem? (i := 39) rfl)) e7 (g := (mkF m 21 #[.val (.ref a1), .val (.ref a2)] [(.ref a1)])) rfl (hb hby d10_21) (by decide) (by decide)
  obtain ⟨b8, g8⟩ : ∃ z, z = h7.size := ⟨_, rfl⟩      -- the fresh object's address
  rw [← g8] at A8 D8 st8      -- A8 : Exa Z h8 b8 "java/util/HashMap"; E8 : Ext h7 h8 (carries every older fact: .ext E8)
  have F_loadFactor_b8 : Fld Z h8 b8 "java/util/HashMap" "loadFactor" "F" (.float (0 : UInt32)) := D8 (Or.inr (hw _ (List.mem_of_getElem? (i := 52) rfl))) (ty := .float) (by decide)
  have E_b8 := A8
  have g_b8 : n0 ≤ b8 := Nat.le_trans (Nat.le_trans (Nat.le_trans (Nat.le_trans (Nat.le_trans Z0 (Keep.of_wr W3).1) E5.1) K6.1) (Keep.of_wr W7).1) (Nat.le_of_eq g8.symm)
  have sz_b8 : h0.size ≤ b8 := (Nat.le_trans K7.1 (Nat.le_of_eq g8.symm))
  have K8 : Keep h0 h8 [a1] := K7.ext E8
  -- pc 25: the constructor of java/util/HashMap by its contract rm6
  obtain ⟨_, _, ⟨T9, L9, k9, n9⟩, -, X9, ⟨Lc9, hQ9, l9, y9, z9⟩, st9⟩ := X8.specialBack hx (y := (⟨"java/util/HashMap", "<init>", "()V"⟩ : MethodName)) rfl hown (mvT hZ (hw _ (List.mem_of_getElem? (i := 100) rfl))) (mvT hZ (hw _ (List.mem_of_getElem? (i := 41) rfl))) (mvT hZ (hw _ (List.mem_of_getElem? (i := 42) rfl))) (by decide) (backOf (W := 2) (rm6 l Z a0 hw [] b8 _ h8 n0 (Nat.le_trans Z0 K8.1) E_b8 F_loadFactor_b8 g_b8) hZ (hw _ (List.mem_of_getElem? (i := 42) rfl)) (hw _ (List.mem_of_getElem? (i := 39) rfl)) (by decide) (by decide)) (g := (mkF m 25 #[.val (.ref a1), .val (.ref a2)] [(.ref b8), (.ref b8), (.ref a1)])) rfl (by rw [hml]; rfl) (Steps.refl _) (a := b8) (argsL := []) (rest := [(.ref b8), (.ref a1)]) (lenOf pd_10_0 rfl) rfl (by show 2 * 0 + _ ≤ _; exact Nat.le_of_eq rfl) (hb hby d10_25) (fun _ _ => ⟨rfl, e8, (by decide : 2 + 0 ≤ _), (by decide : 16 + 0 ≤ _)⟩)
  dsimp only [Pt.U, Pt.locs, Pt.cells, Pt.slots] at X9 l9 y9 z9 st9 hQ9
  subst l9 y9 z9
  obtain ⟨rfl, N9q, K9⟩ := hQ9      -- what it returned, that it wrote nothing old, and the rest of your Q6
  have N9 := Fr.app N7 N9q
  have ne_b8 : a1 ≠ b8 := Nat.ne_of_lt (Nat.lt_of_lt_of_le E_a1.lt sz_b8)
  have K9' : Keep h0 T9.heap [a1] := K8.trans K9 fun x hx => by cases List.mem_singleton.mp hx; exact Or.inr sz_b8
  obtain ⟨T10, h10, X10, e10, W10, st10⟩ := putF X9 hx hZ hown (host := "") (Or.inl (hw _ (List.mem_of_getElem? (i := 103) rfl))) Via.refl rfl ((((((F_lists_a1.other W3 (Or.inr (slot_ne (Or.inr (hw _ (List.mem_of_getElem? (i := 104) rfl))) (Or.inr (hw _ (List.mem_of_getElem? (i := 97) rfl))) (by decide) (t := (.object "java/util/Map")) (t' := (.object "com/example/steplint/steplint/prove/SmtScript")) (by decide) (by decide)))).ext E5).keep K6 (fun q => ne_b5 (List.mem_singleton.mp q))).other W7 (Or.inr (slot_ne (Or.inr (hw _ (List.mem_of_getElem? (i := 104) rfl))) (Or.inr (hw _ (List.mem_of_getElem? (i := 102) rfl))) (by decide) (t := (.object "java/util/Map")) (t' := (.object "java/util/Map")) (by decide) (by decide)))).ext E8).keep K9 (fun q => ne_b8 (List.mem_singleton.mp q))) ((((((E_a1.wr W3).ext E5).keep K6).wr W7).ext E8).keep K9) (Or.inr ⟨(hw _ (List.mem_of_getElem? (i := 104) rfl)), rfl, hnm⟩) (hw _ (List.mem_of_getElem? (i := 91) rfl)) (ty := (.object "java/util/Map")) (by decide) rfl rfl (g := (mkF m 28 #[.val (.ref a1), .val (.ref a2)] [(.ref b8), (.ref a1)])) rfl rfl (hb hby d10_28)
  have Fw10 := ((((((F_lists_a1.other W3 (Or.inr (slot_ne (Or.inr (hw _ (List.mem_of_getElem? (i := 104) rfl))) (Or.inr (hw _ (List.mem_of_getElem? (i := 97) rfl))) (by decide) (t := (.object "java/util/Map")) (t' := (.object "com/example/steplint/steplint/prove/SmtScript")) (by decide) (by decide)))).ext E5).keep K6 (fun q => ne_b5 (List.mem_singleton.mp q))).other W7 (Or.inr (slot_ne (Or.inr (hw _ (List.mem_of_getElem? (i := 104) rfl))) (Or.inr (hw _ (List.mem_of_getElem? (i := 102) rfl))) (by decide) (t := (.object "java/util/Map")) (t' := (.object "java/util/Map")) (by decide) (by decide)))).ext E8).keep K9 (fun q => ne_b8 (List.mem_singleton.mp q))).same W10      -- the field now holds (.ref b8)
  have K10 : Keep h0 h10 [a1] := K9'.wr W10 (Or.inl (List.mem_of_getElem? (i := 0) rfl))
  have N10 := Fr.snoc X10 N9 g_a1
  obtain ⟨fs, hr, hrun, hended, hW, hsame⟩ := X10.leave (v := none) (fun _ => rfl)
  refine ⟨_, _, pre0 _ ?_, hrun, hended, _, _, rfl, ?_, ⟨_, rfl⟩, hW, hsame.mono (by decide) (by decide)⟩
  -- 4. STEPS
  · show Steps p.tables e below (s₁.setTop (mkF m 0 #[.val (.ref a1), .val (.ref a2)] [])) _
    refine XS.aloadN X0.here hx rfl (hb hby d10_0) rfl rfl ?_
    show Steps p.tables e below (s₁.setTop (mkF m 1 #[.val (.ref a1), .val (.ref a2)] [(.ref a1)])) _
    refine XS.aloadN X0.here hx rfl (hb hby d10_1) rfl rfl ?_
    show Steps p.tables e below (s₁.setTop (mkF m 2 #[.val (.ref a1), .val (.ref a2)] [(.ref a2), (.ref a1)])) _
    refine st3 _ ?_
    show Steps p.tables e below (T3.setTop (mkF m 5 #[.val (.ref a1), .val (.ref a2)] [])) _
    refine XS.aloadN X3.here hx rfl (hb hby d10_5) rfl rfl ?_
    show Steps p.tables e below (T3.setTop (mkF m 6 #[.val (.ref a1), .val (.ref a2)] [(.ref a1)])) _
    refine st4 _ ?_
    show Steps p.tables e below (T4.setTop (mkF m 9 #[.val (.ref a1), .val (.ref a2)] [])) _
    refine XS.aloadN X4.here hx rfl (hb hby d10_9) rfl rfl ?_
    show Steps p.tables e below (T4.setTop (mkF m 10 #[.val (.ref a1), .val (.ref a2)] [(.ref a1)])) _
    refine st5 _ ?_
    show Steps p.tables e below (T5.setTop (mkF m 13 #[.val (.ref a1), .val (.ref a2)] [(.ref b5), (.ref a1)])) _
    refine XS.dup X5.here hx rfl (hb hby d10_13) rfl rfl ?_
    show Steps p.tables e below (T5.setTop (mkF m 14 #[.val (.ref a1), .val (.ref a2)] [(.ref b5), (.ref b5), (.ref a1)])) _
    refine st6.trans ?_
    show Steps p.tables e below (T6.setTop (mkF m 17 #[.val (.ref a1), .val (.ref a2)] [(.ref b5), (.ref a1)])) _
    refine st7 _ ?_
    show Steps p.tables e below (T7.setTop (mkF m 20 #[.val (.ref a1), .val (.ref a2)] [])) _
    refine XS.aloadN X7.here hx rfl (hb hby d10_20) rfl rfl ?_
    show Steps p.tables e below (T7.setTop (mkF m 21 #[.val (.ref a1), .val (.ref a2)] [(.ref a1)])) _
    refine st8 _ ?_
    show Steps p.tables e below (T8.setTop (mkF m 24 #[.val (.ref a1), .val (.ref a2)] [(.ref b8), (.ref a1)])) _
    refine XS.dup X8.here hx rfl (hb hby d10_24) rfl rfl ?_
    show Steps p.tables e below (T8.setTop (mkF m 25 #[.val (.ref a1), .val (.ref a2)] [(.ref b8), (.ref b8), (.ref a1)])) _
    refine st9.trans ?_
    show Steps p.tables e below (T9.setTop (mkF m 28 #[.val (.ref a1), .val (.ref a2)] [(.ref b8), (.ref a1)])) _
    refine st10 _ ?_
    show Steps p.tables e below (T10.setTop (mkF m 31 #[.val (.ref a1), .val (.ref a2)] [])) _
    exact X10.returnOut hx Bd.returns (hb hby d10_31) hr
  · show Q10 Z a1 h0 n0 _ T10.heap _
    rw [e10]
    exact ⟨rfl, N10, K10⟩
theorem d13_0 : decode jdk_38_method_8_code 0 = .ok (.aload_n 0, 1) := by decide +kernel
theorem d13_1 : decode jdk_38_method_8_code 1 = .ok (.getfield 48, 3) := by decide +kernel
theorem d13_4 : decode jdk_38_method_8_code 4 = .ok (.ireturn, 1) := by decide +kernel
theorem pn_13 : plainName "java/util/ArrayList" = true := by first | (simp [plainName, overriddenIn]; done) | decide +kernel
theorem ef_13 (m : MethodId) (x0 : Addr) : entryFrame m #[(.ref x0)] 1 = mkF m 0 #[.val (.ref x0)] [] := by first | (simp [entryFrame, mkF, argsToLocals, Value.category]; done) | rfl
def Q13 (Z : State) (a1 : Addr) (w2 : Int32) (h0 : Heap) (n0 : Nat) (v : Option Value) (h : Heap) (L : List Loc) : Prop := v = some (.int w2) ∧ Fr n0 L ∧ h = h0
set_option maxRecDepth 65536 in
set_option maxHeartbeats 40000000 in
theorem rm13 (l : Launch) (Z : State) (a0 : Array Value) (hw : ∀ d ∈ tables_1, d.before a0 Z = true) (ws : List Jvm.Cond) (a1 : Addr) (w2 : Int32) (h0 : Heap) (n0 : Nat) (Z0 : n0 ≤ h0.size) (F_size_a1 : Fld Z h0 a1 "java/util/ArrayList" "size" "I" (.int w2)) :
    MetFree l (⟨"java/util/ArrayList", "size", "()I"⟩ : MethodName) (head1 (Jvm.Cond.code (⟨"java/util/ArrayList", "size", "()I"⟩ : MethodName) jdk_38_method_8_code 1 (some .int) :: ws) ({ frames := 0, cells := 0, slots := 0, locals := 0 } : Room)) (fun a U => a = #[(.ref a1)] ∧ Z.Warmed39 U.vm ∧ U.heap = h0) (fun _ _ _ _ _ => True) (fun _ U o U' => ∃ v L, o = .returned v ∧ Q13 Z a1 w2 h0 n0 v U'.heap L ∧ FrameEnd U o U' L ({ frames := 0, cells := 0, slots := 0, locals := 0 } : Room).cells ({ frames := 0, cells := 0, slots := 0, locals := 0 } : Room).slots) := by
  refine MetFree.of_bodySF (plainFor_of_name pn_13) hisR ?_
  intro p e s m args below meth c s₁ Bd hml0 hP hK
  obtain ⟨rfl, hZ, hh⟩ := hP
  have hx := Bd.exec
  have hby := Bd.bytes
  have hml : c.maxLocals = 1 := hml0
  have hown : s.vm.findClass "java/util/ArrayList" = some m.cls := findClass_of_methodNamed Bd.named
  have hnm := (name_of_methodNamed Bd.named Bd.method).1
  have X0 : Stand p l e ({ frames := 0, cells := 0, slots := 0, locals := 0 } : Room) s m #[(.ref a1)] below meth c s₁ [] 0 0 := Stand.of_body Bd
  have e0 : s₁.heap = h0 := by rw [← hh, Bd.state]; rfl
  have N0 := Fr.nil n0
  have pre0 : ∀ t, Steps p.tables e below (s₁.setTop (mkF m 0 #[.val (.ref a1)] [])) t → Steps p.tables e below (s₁.setTop (entryFrame m #[(.ref a1)] 1)) t := fun t k => castTop (ef_13 m a1) k
  -- 3. LAWS
  obtain ⟨T3, X3, e3, st3⟩ := getF X0 hx hZ hown (host := "") (Or.inl (hw _ (List.mem_of_getElem? (i := 140) rfl))) Via.refl e0 F_size_a1 (g := (mkF m 1 #[.val (.ref a1)] [(.ref a1)])) rfl rfl (hb hby d13_1)
  obtain ⟨fs, hr, hrun, hended, hW, hsame⟩ := X3.leave (v := some (.int w2)) (fun h => by rw [Bd.returns] at h; cases h)
  refine ⟨_, _, pre0 _ ?_, hrun, hended, _, _, rfl, ?_, ⟨_, rfl⟩, hW, hsame.mono (by decide) (by decide)⟩
  -- 4. STEPS
  · show Steps p.tables e below (s₁.setTop (mkF m 0 #[.val (.ref a1)] [])) _
    refine XS.aloadN X0.here hx rfl (hb hby d13_0) rfl rfl ?_
    show Steps p.tables e below (s₁.setTop (mkF m 1 #[.val (.ref a1)] [(.ref a1)])) _
    refine st3 _ ?_
    show Steps p.tables e below (T3.setTop (mkF m 4 #[.val (.ref a1)] [(.int w2)])) _
    exact retI X3 hx Bd.returns (hb hby d13_4) hr      -- retI stands in the head ('lawwalk <made dir>' prints it)
  · show Q13 Z a1 w2 h0 n0 _ T3.heap _
    rw [e3]
    exact ⟨rfl, N0, rfl⟩
theorem d12_0 : decode prog_131_method_4_code 0 = .ok (.aload_n 0, 1) := by decide +kernel
theorem d12_1 : decode prog_131_method_4_code 1 = .ok (.getfield 10, 3) := by decide +kernel
theorem d12_4 : decode prog_131_method_4_code 4 = .ok (.invokeinterface 162 1, 5) := by decide +kernel
theorem d12_9 : decode prog_131_method_4_code 9 = .ok (.aload_n 0, 1) := by decide +kernel
theorem d12_10 : decode prog_131_method_4_code 10 = .ok (.getfield 16, 3) := by decide +kernel
theorem d12_13 : decode prog_131_method_4_code 13 = .ok (.invokeinterface 162 1, 5) := by decide +kernel
theorem d12_18 : decode prog_131_method_4_code 18 = .ok (.iadd, 1) := by decide +kernel
theorem d12_19 : decode prog_131_method_4_code 19 = .ok (.ireturn, 1) := by decide +kernel
theorem pn_12 : plainName "com/example/steplint/steplint/prove/SmtScript" = true := by first | (simp [plainName, overriddenIn]; done) | decide +kernel
theorem pd_12_2 : parseMethodDescriptor "()I" = some ⟨[], some .int⟩ := by decide +kernel
theorem ef_12 (m : MethodId) (x0 : Addr) : entryFrame m #[(.ref x0)] 1 = mkF m 0 #[.val (.ref x0)] [] := by first | (simp [entryFrame, mkF, argsToLocals, Value.category]; done) | rfl
def Q12 (Z : State) (a1 : Addr) (w2 w5 : Addr) (h0 : Heap) (n0 : Nat) (v : Option Value) (h : Heap) (L : List Loc) : Prop := v = some (.int ((0 : Int32) + (0 : Int32))) ∧ Fr n0 L ∧ h = h0
set_option maxRecDepth 65536 in
set_option maxHeartbeats 40000000 in
theorem rm12 (l : Launch) (Z : State) (a0 : Array Value) (hw : ∀ d ∈ tables_1, d.before a0 Z = true) (ws : List Jvm.Cond) (a1 : Addr) (w2 : Addr) (w5 : Addr) (h0 : Heap) (n0 : Nat) (Z0 : n0 ≤ h0.size) (F_declarations_a1 : Fld Z h0 a1 "com/example/steplint/steplint/prove/SmtScript" "declarations" "Ljava/util/List;" (.ref w2)) (E_w2 : Exa Z h0 w2 "java/util/ArrayList") (F_assertions_a1 : Fld Z h0 a1 "com/example/steplint/steplint/prove/SmtScript" "assertions" "Ljava/util/List;" (.ref w5)) (E_w5 : Exa Z h0 w5 "java/util/ArrayList") (F_s2 : Fld Z h0 w2 "java/util/ArrayList" "size" "I" (.int (0 : Int32))) (F_s5 : Fld Z h0 w5 "java/util/ArrayList" "size" "I" (.int (0 : Int32))) :
    MetFree l (⟨"com/example/steplint/steplint/prove/SmtScript", "said", "()I"⟩ : MethodName) (head1 (Jvm.Cond.code (⟨"com/example/steplint/steplint/prove/SmtScript", "said", "()I"⟩ : MethodName) prog_131_method_4_code 1 (some .int) :: ws) ({ frames := 1, cells := 0, slots := 0, locals := 13 } : Room)) (fun a U => a = #[(.ref a1)] ∧ Z.Warmed39 U.vm ∧ U.heap = h0) (fun _ _ _ _ _ => True) (fun _ U o U' => ∃ v L, o = .returned v ∧ Q12 Z a1 w2 w5 h0 n0 v U'.heap L ∧ FrameEnd U o U' L ({ frames := 1, cells := 0, slots := 0, locals := 13 } : Room).cells ({ frames := 1, cells := 0, slots := 0, locals := 13 } : Room).slots) := by
  refine MetFree.of_bodySF (plainFor_of_name pn_12) hisR ?_
  intro p e s m args below meth c s₁ Bd hml0 hP hK
  obtain ⟨rfl, hZ, hh⟩ := hP
  have hx := Bd.exec
  have hby := Bd.bytes
  have hml : c.maxLocals = 1 := hml0
  have hown : s.vm.findClass "com/example/steplint/steplint/prove/SmtScript" = some m.cls := findClass_of_methodNamed Bd.named
  have hnm := (name_of_methodNamed Bd.named Bd.method).1
  have X0 : Stand p l e ({ frames := 1, cells := 0, slots := 0, locals := 13 } : Room) s m #[(.ref a1)] below meth c s₁ [] 0 0 := Stand.of_body Bd
  have e0 : s₁.heap = h0 := by rw [← hh, Bd.state]; rfl
  have N0 := Fr.nil n0
  have pre0 : ∀ t, Steps p.tables e below (s₁.setTop (mkF m 0 #[.val (.ref a1)] [])) t → Steps p.tables e below (s₁.setTop (entryFrame m #[(.ref a1)] 1)) t := fun t k => castTop (ef_12 m a1) k
  -- 3. LAWS
  obtain ⟨T3, X3, e3, st3⟩ := getF X0 hx hZ hown (host := "") (Or.inl (hw _ (List.mem_of_getElem? (i := 33) rfl))) Via.refl e0 F_declarations_a1 (g := (mkF m 1 #[.val (.ref a1)] [(.ref a1)])) rfl rfl (hb hby d12_1)
  -- pc 4: java/util/List.size by the contract of the body that the receiver's class selects, rm13
  obtain ⟨cq4, kq4, q4a, q4b, q4c⟩ := isOf hZ e3 E_w2
  obtain ⟨_, _, ⟨T4, L4, k4, n4⟩, -, X4, ⟨Lc4, hQ4, l4, y4, z4⟩, st4⟩ := X3.interfaceBack hx (xi := (⟨"java/util/List", "size", "()I"⟩ : MethodName)) (y := (⟨"java/util/ArrayList", "size", "()I"⟩ : MethodName)) hown (mvT hZ (hw _ (List.mem_of_getElem? (i := 131) rfl))) (mvT hZ (hw _ (List.mem_of_getElem? (i := 132) rfl))) (mvT hZ (hw _ (List.mem_of_getElem? (i := 133) rfl))) (mvT hZ (hw _ (List.mem_of_getElem? (i := 134) rfl))) (mvT hZ (hw _ (List.mem_of_getElem? (i := 135) rfl))) (mvT hZ (hw _ (List.mem_of_getElem? (i := 136) rfl))) (mvT hZ (hw _ (List.mem_of_getElem? (i := 137) rfl))) (mvT hZ (hw _ (List.mem_of_getElem? (i := 138) rfl))) (by decide) (backOf (W := 0) (rm13 l Z a0 hw [] w2 (0 : Int32) h0 n0 Z0 F_s2) hZ (hw _ (List.mem_of_getElem? (i := 139) rfl)) (hw _ (List.mem_of_getElem? (i := 11) rfl)) (by decide) (by decide)) q4a q4b q4c (g := (mkF m 4 #[.val (.ref a1)] [(.ref w2)])) rfl (by rw [hml]; rfl) (Steps.refl _) (argsL := []) (rest := []) (lenOf pd_12_2 rfl) rfl (by show 2 * 0 + _ ≤ _; exact Nat.le_of_eq rfl) (hb hby d12_4) (fun _ _ => ⟨rfl, e3, (by decide : 0 + 0 ≤ _), (by decide : 0 + 0 ≤ _)⟩)
  dsimp only [Pt.U, Pt.locs, Pt.cells, Pt.slots] at X4 l4 y4 z4 st4 hQ4
  subst l4 y4 z4
  obtain ⟨rfl, N4q, q4⟩ := hQ4      -- what it returned, that it wrote nothing old, and the rest of your Q13
  have N4 := Fr.app N0 N4q
  have F_4 : Fld Z T4.heap a1 "com/example/steplint/steplint/prove/SmtScript" "assertions" "Ljava/util/List;" (.ref w5) := by rw [q4]; exact F_assertions_a1
  have E_4 : Exa Z T4.heap w5 "java/util/ArrayList" := by rw [q4]; exact E_w5
  have F_s4 : Fld Z T4.heap w5 "java/util/ArrayList" "size" "I" (.int (0 : Int32)) := by rw [q4]; exact F_s5
  have Z4 : n0 ≤ T4.heap.size := by rw [q4]; exact Z0
  obtain ⟨T6, X6, e6, st6⟩ := getF X4 hx hZ hown (host := "") (Or.inl (hw _ (List.mem_of_getElem? (i := 35) rfl))) Via.refl rfl F_4 (g := (mkF m 10 #[.val (.ref a1)] [(.ref a1), (.int (0 : Int32))])) rfl rfl (hb hby d12_10)
  -- pc 13: java/util/List.size by the contract of the body that the receiver's class selects, rm13
  obtain ⟨cq7, kq7, q7a, q7b, q7c⟩ := isOf hZ e6 E_4
  obtain ⟨_, _, ⟨T7, L7, k7, n7⟩, -, X7, ⟨Lc7, hQ7, l7, y7, z7⟩, st7⟩ := X6.interfaceBack hx (xi := (⟨"java/util/List", "size", "()I"⟩ : MethodName)) (y := (⟨"java/util/ArrayList", "size", "()I"⟩ : MethodName)) hown (mvT hZ (hw _ (List.mem_of_getElem? (i := 131) rfl))) (mvT hZ (hw _ (List.mem_of_getElem? (i := 132) rfl))) (mvT hZ (hw _ (List.mem_of_getElem? (i := 133) rfl))) (mvT hZ (hw _ (List.mem_of_getElem? (i := 134) rfl))) (mvT hZ (hw _ (List.mem_of_getElem? (i := 135) rfl))) (mvT hZ (hw _ (List.mem_of_getElem? (i := 136) rfl))) (mvT hZ (hw _ (List.mem_of_getElem? (i := 137) rfl))) (mvT hZ (hw _ (List.mem_of_getElem? (i := 138) rfl))) (by decide) (backOf (W := 1) (rm13 l Z a0 hw [] w5 (0 : Int32) T4.heap n0 Z4 F_s4) hZ (hw _ (List.mem_of_getElem? (i := 139) rfl)) (hw _ (List.mem_of_getElem? (i := 11) rfl)) (by decide) (by decide)) q7a q7b q7c (g := (mkF m 13 #[.val (.ref a1)] [(.ref w5), (.int (0 : Int32))])) rfl (by rw [hml]; rfl) (Steps.refl _) (argsL := []) (rest := [(.int (0 : Int32))]) (lenOf pd_12_2 rfl) rfl (by show 2 * 0 + _ ≤ _; exact Nat.le_of_eq rfl) (hb hby d12_13) (fun _ _ => ⟨rfl, e6, (by decide : 0 + 0 ≤ _), (by decide : 0 + 0 ≤ _)⟩)
  dsimp only [Pt.U, Pt.locs, Pt.cells, Pt.slots] at X7 l7 y7 z7 st7 hQ7
  subst l7 y7 z7
  obtain ⟨rfl, N7q, q7⟩ := hQ7      -- what it returned, that it wrote nothing old, and the rest of your Q13
  have N7 := Fr.app N4 N7q
  obtain ⟨fs, hr, hrun, hended, hW, hsame⟩ := X7.leave (v := some (.int ((0 : Int32) + (0 : Int32)))) (fun h => by rw [Bd.returns] at h; cases h)
  refine ⟨_, _, pre0 _ ?_, hrun, hended, _, _, rfl, ?_, ⟨_, rfl⟩, hW, hsame.mono (by decide) (by decide)⟩
  -- 4. STEPS
  · show Steps p.tables e below (s₁.setTop (mkF m 0 #[.val (.ref a1)] [])) _
    refine XS.aloadN X0.here hx rfl (hb hby d12_0) rfl rfl ?_
    show Steps p.tables e below (s₁.setTop (mkF m 1 #[.val (.ref a1)] [(.ref a1)])) _
    refine st3 _ ?_
    show Steps p.tables e below (T3.setTop (mkF m 4 #[.val (.ref a1)] [(.ref w2)])) _
    refine st4.trans ?_
    show Steps p.tables e below (T4.setTop (mkF m 9 #[.val (.ref a1)] [(.int (0 : Int32))])) _
    refine XS.aloadN X4.here hx rfl (hb hby d12_9) rfl rfl ?_
    show Steps p.tables e below (T4.setTop (mkF m 10 #[.val (.ref a1)] [(.ref a1), (.int (0 : Int32))])) _
    refine st6 _ ?_
    show Steps p.tables e below (T6.setTop (mkF m 13 #[.val (.ref a1)] [(.ref w5), (.int (0 : Int32))])) _
    refine st7.trans ?_
    show Steps p.tables e below (T7.setTop (mkF m 18 #[.val (.ref a1)] [(.int (0 : Int32)), (.int (0 : Int32))])) _
    refine XS.iadd X7.here hx rfl (hb hby d12_18) rfl ?_
    show Steps p.tables e below (T7.setTop (mkF m 19 #[.val (.ref a1)] [(.int ((0 : Int32) + (0 : Int32)))])) _
    exact retI X7 hx Bd.returns (hb hby d12_19) hr      -- retI stands in the head ('lawwalk <made dir>' prints it)
  · show Q12 Z a1 w2 w5 h0 n0 _ T7.heap _
    exact ⟨rfl, N7, q7.trans q4⟩
theorem d11_0 : decode prog_131_method_48_code 0 = .ok (.aload_n 0, 1) := by decide +kernel
theorem d11_1 : decode prog_131_method_48_code 1 = .ok (.dup, 1) := by decide +kernel
theorem d11_2 : decode prog_131_method_48_code 2 = .ok (.getfield 544, 3) := by decide +kernel
theorem d11_5 : decode prog_131_method_48_code 5 = .ok (.iconst 1, 1) := by decide +kernel
theorem d11_6 : decode prog_131_method_48_code 6 = .ok (.iadd, 1) := by decide +kernel
theorem d11_7 : decode prog_131_method_48_code 7 = .ok (.dup_x1, 1) := by decide +kernel
theorem d11_8 : decode prog_131_method_48_code 8 = .ok (.putfield 544, 3) := by decide +kernel
theorem d11_11 : decode prog_131_method_48_code 11 = .ok (.ireturn, 1) := by decide +kernel
theorem pn_11 : plainName "com/example/steplint/steplint/prove/SmtScript" = true := by first | (simp [plainName, overriddenIn]; done) | decide +kernel
theorem ef_11 (m : MethodId) (x0 : Addr) : entryFrame m #[(.ref x0)] 1 = mkF m 0 #[.val (.ref x0)] [] := by first | (simp [entryFrame, mkF, argsToLocals, Value.category]; done) | rfl
def Q11 (Z : State) (a1 : Addr) (d s0 : Addr) (w2 : Int32) (h0 : Heap) (n0 : Nat) (v : Option Value) (h : Heap) (L : List Loc) : Prop := v = some (.int (w2 + (1 : Int32))) ∧ Fr n0 L ∧ Keep h0 h [a1] ∧ Scr Z h a1 d s0 (w2 + (1 : Int32))
set_option maxRecDepth 65536 in
set_option maxHeartbeats 40000000 in
theorem rm11 (l : Launch) (Z : State) (a0 : Array Value) (hw : ∀ d ∈ tables_1, d.before a0 Z = true) (ws : List Jvm.Cond) (a1 : Addr) (d s0 : Addr) (w2 : Int32) (h0 : Heap) (n0 : Nat) (Z0 : n0 ≤ h0.size) (B0 : Scr Z h0 a1 d s0 w2) (g_a1 : n0 ≤ a1) :
    MetFree l (⟨"com/example/steplint/steplint/prove/SmtScript", "fresh", "()I"⟩ : MethodName) (head1 (Jvm.Cond.code (⟨"com/example/steplint/steplint/prove/SmtScript", "fresh", "()I"⟩ : MethodName) prog_131_method_48_code 1 (some .int) :: ws) ({ frames := 0, cells := 0, slots := 0, locals := 0 } : Room)) (fun a U => a = #[(.ref a1)] ∧ Z.Warmed39 U.vm ∧ U.heap = h0) (fun _ _ _ _ _ => True) (fun _ U o U' => ∃ v L, o = .returned v ∧ Q11 Z a1 d s0 w2 h0 n0 v U'.heap L ∧ FrameEnd U o U' L ({ frames := 0, cells := 0, slots := 0, locals := 0 } : Room).cells ({ frames := 0, cells := 0, slots := 0, locals := 0 } : Room).slots) := by
  refine MetFree.of_bodySF (plainFor_of_name pn_11) hisR ?_
  intro p e s m args below meth c s₁ Bd hml0 hP hK
  obtain ⟨rfl, hZ, hh⟩ := hP
  have hx := Bd.exec
  have hby := Bd.bytes
  have hml : c.maxLocals = 1 := hml0
  have hown : s.vm.findClass "com/example/steplint/steplint/prove/SmtScript" = some m.cls := findClass_of_methodNamed Bd.named
  have hnm := (name_of_methodNamed Bd.named Bd.method).1
  have X0 : Stand p l e ({ frames := 0, cells := 0, slots := 0, locals := 0 } : Room) s m #[(.ref a1)] below meth c s₁ [] 0 0 := Stand.of_body Bd
  have e0 : s₁.heap = h0 := by rw [← hh, Bd.state]; rfl
  have N0 := Fr.nil n0
  have pre0 : ∀ t, Steps p.tables e below (s₁.setTop (mkF m 0 #[.val (.ref a1)] [])) t → Steps p.tables e below (s₁.setTop (entryFrame m #[(.ref a1)] 1)) t := fun t k => castTop (ef_11 m a1) k
  -- 3. LAWS
  have F_names_a1 := B0.2.1
  have E_a1 := B0.1
  obtain ⟨T3, X3, e3, st3⟩ := getF X0 hx hZ hown (host := "") (Or.inl (hw _ (List.mem_of_getElem? (i := 124) rfl))) Via.refl e0 F_names_a1 (g := (mkF m 2 #[.val (.ref a1)] [(.ref a1), (.ref a1)])) rfl rfl (hb hby d11_2)
  obtain ⟨T4, h4, X4, e4, W4, st4⟩ := putF X3 hx hZ hown (host := "") (Or.inl (hw _ (List.mem_of_getElem? (i := 124) rfl))) Via.refl e3 F_names_a1 E_a1 (Or.inl (hw _ (List.mem_of_getElem? (i := 125) rfl))) (hw _ (List.mem_of_getElem? (i := 1) rfl)) (ty := .int) (by decide) rfl rfl (g := (mkF m 8 #[.val (.ref a1)] [(.int (w2 + (1 : Int32))), (.ref a1), (.int (w2 + (1 : Int32)))])) rfl rfl (hb hby d11_8)
  have Fw4 := F_names_a1.same W4      -- the field now holds (.int (w2 + (1 : Int32)))
  have K4 : Keep h0 h4 [a1] := (Keep.refl h0 [a1]).wr W4 (Or.inl (List.mem_of_getElem? (i := 0) rfl))
  have N4 := Fr.snoc X4 N0 g_a1
  obtain ⟨fs, hr, hrun, hended, hW, hsame⟩ := X4.leave (v := some (.int (w2 + (1 : Int32)))) (fun h => by rw [Bd.returns] at h; cases h)
  refine ⟨_, _, pre0 _ ?_, hrun, hended, _, _, rfl, ?_, ⟨_, rfl⟩, hW, hsame.mono (by decide) (by decide)⟩
  -- 4. STEPS
  · show Steps p.tables e below (s₁.setTop (mkF m 0 #[.val (.ref a1)] [])) _
    refine XS.aloadN X0.here hx rfl (hb hby d11_0) rfl rfl ?_
    show Steps p.tables e below (s₁.setTop (mkF m 1 #[.val (.ref a1)] [(.ref a1)])) _
    refine XS.dup X0.here hx rfl (hb hby d11_1) rfl rfl ?_
    show Steps p.tables e below (s₁.setTop (mkF m 2 #[.val (.ref a1)] [(.ref a1), (.ref a1)])) _
    refine st3 _ ?_
    show Steps p.tables e below (T3.setTop (mkF m 5 #[.val (.ref a1)] [(.int w2), (.ref a1)])) _
    refine XS.iconst X3.here hx rfl (hb hby d11_5) ?_
    show Steps p.tables e below (T3.setTop (mkF m 6 #[.val (.ref a1)] [(.int (1 : Int32)), (.int w2), (.ref a1)])) _
    refine XS.iadd X3.here hx rfl (hb hby d11_6) rfl ?_
    show Steps p.tables e below (T3.setTop (mkF m 7 #[.val (.ref a1)] [(.int (w2 + (1 : Int32))), (.ref a1)])) _
    refine XS.dupX1 X3.here hx rfl (hb hby d11_7) rfl rfl rfl ?_
    show Steps p.tables e below (T3.setTop (mkF m 8 #[.val (.ref a1)] [(.int (w2 + (1 : Int32))), (.ref a1), (.int (w2 + (1 : Int32)))])) _
    refine st4 _ ?_
    show Steps p.tables e below (T4.setTop (mkF m 11 #[.val (.ref a1)] [(.int (w2 + (1 : Int32)))])) _
    exact retI X4 hx Bd.returns (hb hby d11_11) hr      -- retI stands in the head ('lawwalk <made dir>' prints it)
  · show Q11 Z a1 d s0 w2 h0 n0 _ T4.heap _
    rw [e4]
    exact ⟨rfl, N4, K4, B0.names hw W4⟩
theorem d1_0 : decode prog_131_method_1_code 0 = .ok (.aload_n 0, 1) := by decide +kernel
theorem d1_1 : decode prog_131_method_1_code 1 = .ok (.invokespecial 1, 3) := by decide +kernel
theorem d1_4 : decode prog_131_method_1_code 4 = .ok (.aload_n 0, 1) := by decide +kernel
theorem d1_5 : decode prog_131_method_1_code 5 = .ok (.new 7, 3) := by decide +kernel
theorem d1_8 : decode prog_131_method_1_code 8 = .ok (.dup, 1) := by decide +kernel
theorem d1_9 : decode prog_131_method_1_code 9 = .ok (.invokespecial 9, 3) := by decide +kernel
theorem d1_12 : decode prog_131_method_1_code 12 = .ok (.putfield 10, 3) := by decide +kernel
theorem d1_15 : decode prog_131_method_1_code 15 = .ok (.aload_n 0, 1) := by decide +kernel
theorem d1_16 : decode prog_131_method_1_code 16 = .ok (.new 7, 3) := by decide +kernel
theorem d1_19 : decode prog_131_method_1_code 19 = .ok (.dup, 1) := by decide +kernel
theorem d1_20 : decode prog_131_method_1_code 20 = .ok (.invokespecial 9, 3) := by decide +kernel
theorem d1_23 : decode prog_131_method_1_code 23 = .ok (.putfield 16, 3) := by decide +kernel
theorem d1_26 : decode prog_131_method_1_code 26 = .ok (.aload_n 0, 1) := by decide +kernel
theorem d1_27 : decode prog_131_method_1_code 27 = .ok (.new 19, 3) := by decide +kernel
theorem d1_30 : decode prog_131_method_1_code 30 = .ok (.dup, 1) := by decide +kernel
theorem d1_31 : decode prog_131_method_1_code 31 = .ok (.invokespecial 21, 3) := by decide +kernel
theorem d1_34 : decode prog_131_method_1_code 34 = .ok (.putfield 22, 3) := by decide +kernel
theorem d1_37 : decode prog_131_method_1_code 37 = .ok (.aload_n 0, 1) := by decide +kernel
theorem d1_38 : decode prog_131_method_1_code 38 = .ok (.new 19, 3) := by decide +kernel
theorem d1_41 : decode prog_131_method_1_code 41 = .ok (.dup, 1) := by decide +kernel
theorem d1_42 : decode prog_131_method_1_code 42 = .ok (.invokespecial 21, 3) := by decide +kernel
theorem d1_45 : decode prog_131_method_1_code 45 = .ok (.putfield 26, 3) := by decide +kernel
theorem d1_48 : decode prog_131_method_1_code 48 = .ok (.aload_n 0, 1) := by decide +kernel
theorem d1_49 : decode prog_131_method_1_code 49 = .ok (.new 19, 3) := by decide +kernel
theorem d1_52 : decode prog_131_method_1_code 52 = .ok (.dup, 1) := by decide +kernel
theorem d1_53 : decode prog_131_method_1_code 53 = .ok (.invokespecial 21, 3) := by decide +kernel
theorem d1_56 : decode prog_131_method_1_code 56 = .ok (.putfield 29, 3) := by decide +kernel
theorem d1_59 : decode prog_131_method_1_code 59 = .ok (.aload_n 0, 1) := by decide +kernel
theorem d1_60 : decode prog_131_method_1_code 60 = .ok (.new 19, 3) := by decide +kernel
theorem d1_63 : decode prog_131_method_1_code 63 = .ok (.dup, 1) := by decide +kernel
theorem d1_64 : decode prog_131_method_1_code 64 = .ok (.invokespecial 21, 3) := by decide +kernel
theorem d1_67 : decode prog_131_method_1_code 67 = .ok (.putfield 32, 3) := by decide +kernel
theorem d1_70 : decode prog_131_method_1_code 70 = .ok (.aload_n 0, 1) := by decide +kernel
theorem d1_71 : decode prog_131_method_1_code 71 = .ok (.new 35, 3) := by decide +kernel
theorem d1_74 : decode prog_131_method_1_code 74 = .ok (.dup, 1) := by decide +kernel
theorem d1_75 : decode prog_131_method_1_code 75 = .ok (.invokespecial 37, 3) := by decide +kernel
theorem d1_78 : decode prog_131_method_1_code 78 = .ok (.putfield 38, 3) := by decide +kernel
theorem d1_81 : decode prog_131_method_1_code 81 = .ok (.aload_n 0, 1) := by decide +kernel
theorem d1_82 : decode prog_131_method_1_code 82 = .ok (.new 19, 3) := by decide +kernel
theorem d1_85 : decode prog_131_method_1_code 85 = .ok (.dup, 1) := by decide +kernel
theorem d1_86 : decode prog_131_method_1_code 86 = .ok (.invokespecial 21, 3) := by decide +kernel
theorem d1_89 : decode prog_131_method_1_code 89 = .ok (.putfield 42, 3) := by decide +kernel
theorem d1_92 : decode prog_131_method_1_code 92 = .ok (.aload_n 0, 1) := by decide +kernel
theorem d1_93 : decode prog_131_method_1_code 93 = .ok (.new 35, 3) := by decide +kernel
theorem d1_96 : decode prog_131_method_1_code 96 = .ok (.dup, 1) := by decide +kernel
theorem d1_97 : decode prog_131_method_1_code 97 = .ok (.invokespecial 37, 3) := by decide +kernel
theorem d1_100 : decode prog_131_method_1_code 100 = .ok (.putfield 45, 3) := by decide +kernel
theorem d1_103 : decode prog_131_method_1_code 103 = .ok (.aload_n 0, 1) := by decide +kernel
theorem d1_104 : decode prog_131_method_1_code 104 = .ok (.new 19, 3) := by decide +kernel
theorem d1_107 : decode prog_131_method_1_code 107 = .ok (.dup, 1) := by decide +kernel
theorem d1_108 : decode prog_131_method_1_code 108 = .ok (.invokespecial 21, 3) := by decide +kernel
theorem d1_111 : decode prog_131_method_1_code 111 = .ok (.putfield 48, 3) := by decide +kernel
theorem d1_114 : decode prog_131_method_1_code 114 = .ok (.aload_n 0, 1) := by decide +kernel
theorem d1_115 : decode prog_131_method_1_code 115 = .ok (.new 35, 3) := by decide +kernel
theorem d1_118 : decode prog_131_method_1_code 118 = .ok (.dup, 1) := by decide +kernel
theorem d1_119 : decode prog_131_method_1_code 119 = .ok (.invokespecial 37, 3) := by decide +kernel
theorem d1_122 : decode prog_131_method_1_code 122 = .ok (.putfield 51, 3) := by decide +kernel
theorem d1_125 : decode prog_131_method_1_code 125 = .ok (.aload_n 0, 1) := by decide +kernel
theorem d1_126 : decode prog_131_method_1_code 126 = .ok (.new 54, 3) := by decide +kernel
theorem d1_129 : decode prog_131_method_1_code 129 = .ok (.dup, 1) := by decide +kernel
theorem d1_130 : decode prog_131_method_1_code 130 = .ok (.aload_n 0, 1) := by decide +kernel
theorem d1_131 : decode prog_131_method_1_code 131 = .ok (.invokespecial 56, 3) := by decide +kernel
theorem d1_134 : decode prog_131_method_1_code 134 = .ok (.putfield 59, 3) := by decide +kernel
theorem d1_137 : decode prog_131_method_1_code 137 = .ok (.aload_n 0, 1) := by decide +kernel
theorem d1_138 : decode prog_131_method_1_code 138 = .ok (.new 7, 3) := by decide +kernel
theorem d1_141 : decode prog_131_method_1_code 141 = .ok (.dup, 1) := by decide +kernel
theorem d1_142 : decode prog_131_method_1_code 142 = .ok (.invokespecial 9, 3) := by decide +kernel
theorem d1_145 : decode prog_131_method_1_code 145 = .ok (.putfield 63, 3) := by decide +kernel
theorem d1_148 : decode prog_131_method_1_code 148 = .ok (.aload_n 0, 1) := by decide +kernel
theorem d1_149 : decode prog_131_method_1_code 149 = .ok (.new 35, 3) := by decide +kernel
theorem d1_152 : decode prog_131_method_1_code 152 = .ok (.dup, 1) := by decide +kernel
theorem d1_153 : decode prog_131_method_1_code 153 = .ok (.invokespecial 37, 3) := by decide +kernel
theorem d1_156 : decode prog_131_method_1_code 156 = .ok (.putfield 66, 3) := by decide +kernel
theorem d1_159 : decode prog_131_method_1_code 159 = .ok (.aload_n 0, 1) := by decide +kernel
theorem d1_160 : decode prog_131_method_1_code 160 = .ok (.new 35, 3) := by decide +kernel
theorem d1_163 : decode prog_131_method_1_code 163 = .ok (.dup, 1) := by decide +kernel
theorem d1_164 : decode prog_131_method_1_code 164 = .ok (.invokespecial 37, 3) := by decide +kernel
theorem d1_167 : decode prog_131_method_1_code 167 = .ok (.putfield 69, 3) := by decide +kernel
theorem d1_170 : decode prog_131_method_1_code 170 = .ok (.aload_n 0, 1) := by decide +kernel
theorem d1_171 : decode prog_131_method_1_code 171 = .ok (.new 19, 3) := by decide +kernel
theorem d1_174 : decode prog_131_method_1_code 174 = .ok (.dup, 1) := by decide +kernel
theorem d1_175 : decode prog_131_method_1_code 175 = .ok (.invokespecial 21, 3) := by decide +kernel
theorem d1_178 : decode prog_131_method_1_code 178 = .ok (.putfield 72, 3) := by decide +kernel
theorem d1_181 : decode prog_131_method_1_code 181 = .ok (.aload_n 0, 1) := by decide +kernel
theorem d1_182 : decode prog_131_method_1_code 182 = .ok (.new 7, 3) := by decide +kernel
theorem d1_185 : decode prog_131_method_1_code 185 = .ok (.dup, 1) := by decide +kernel
theorem d1_186 : decode prog_131_method_1_code 186 = .ok (.invokespecial 9, 3) := by decide +kernel
theorem d1_189 : decode prog_131_method_1_code 189 = .ok (.putfield 75, 3) := by decide +kernel
theorem d1_192 : decode prog_131_method_1_code 192 = .ok (.aload_n 0, 1) := by decide +kernel
theorem d1_193 : decode prog_131_method_1_code 193 = .ok (.new 35, 3) := by decide +kernel
theorem d1_196 : decode prog_131_method_1_code 196 = .ok (.dup, 1) := by decide +kernel
theorem d1_197 : decode prog_131_method_1_code 197 = .ok (.invokespecial 37, 3) := by decide +kernel
theorem d1_200 : decode prog_131_method_1_code 200 = .ok (.putfield 78, 3) := by decide +kernel
theorem d1_203 : decode prog_131_method_1_code 203 = .ok (.return_, 1) := by decide +kernel
theorem pn_1 : plainName "com/example/steplint/steplint/prove/SmtScript" = true := by first | (simp [plainName, overriddenIn]; done) | decide +kernel
theorem pd_1_0 : parseMethodDescriptor "()V" = some ⟨[], none⟩ := by decide +kernel
theorem pd_1_1 : parseMethodDescriptor "(Lcom/example/steplint/steplint/prove/SmtScript;)V" = some ⟨[(.object "com/example/steplint/steplint/prove/SmtScript")], none⟩ := by decide +kernel
theorem ef_1 (m : MethodId) (x0 : Addr) : entryFrame m #[(.ref x0)] 1 = mkF m 0 #[.val (.ref x0)] [] := by first | (simp [entryFrame, mkF, argsToLocals, Value.category]; done) | rfl
def Q1 (Z : State) (a1 : Addr) (h0 : Heap) (n0 : Nat) (v : Option Value) (h : Heap) (L : List Loc) : Prop := v = none ∧ Fr n0 L ∧ Keep h0 h [a1] ∧ ∃ d s0, h0.size ≤ d ∧ h0.size ≤ s0 ∧ Scr Z h a1 d s0 (0 : Int32)
set_option maxRecDepth 65536 in
set_option maxHeartbeats 40000000 in
theorem rm1 (l : Launch) (Z : State) (a0 : Array Value) (hw : ∀ d ∈ tables_1, d.before a0 Z = true) (ws : List Jvm.Cond) (a1 : Addr) (w3 : Addr) (f : String → Value) (h0 : Heap) (n0 : Nat) (Z0 : n0 ≤ h0.size) (B0 : Sc Z h0 a1 f) (ST0 : Sta Z h0 "java/util/ArrayList" "DEFAULTCAPACITY_EMPTY_ELEMENTDATA" "[Ljava/lang/Object;" (.ref w3)) (hf : f "names" = .int (0 : Int32)) (g_a1 : n0 ≤ a1) :
    MetFree l (⟨"com/example/steplint/steplint/prove/SmtScript", "<init>", "()V"⟩ : MethodName) (head1 (Jvm.Cond.code (⟨"com/example/steplint/steplint/prove/SmtScript", "<init>", "()V"⟩ : MethodName) prog_131_method_1_code 1 none :: ws) ({ frames := 4, cells := 26, slots := 141, locals := 53 } : Room)) (fun a U => a = #[(.ref a1)] ∧ Z.Warmed39 U.vm ∧ U.heap = h0) (fun _ _ _ _ _ => True) (fun _ U o U' => ∃ v L, o = .returned v ∧ Q1 Z a1 h0 n0 v U'.heap L ∧ FrameEnd U o U' L ({ frames := 4, cells := 26, slots := 141, locals := 53 } : Room).cells ({ frames := 4, cells := 26, slots := 141, locals := 53 } : Room).slots) := by
  refine MetFree.of_bodySF (plainFor_of_name pn_1) hisR ?_
  intro p e s m args below meth c s₁ Bd hml0 hP hK
  obtain ⟨rfl, hZ, hh⟩ := hP
  have hx := Bd.exec
  have hby := Bd.bytes
  have hml : c.maxLocals = 1 := hml0
  have hown : s.vm.findClass "com/example/steplint/steplint/prove/SmtScript" = some m.cls := findClass_of_methodNamed Bd.named
  have hnm := (name_of_methodNamed Bd.named Bd.method).1
  have X0 : Stand p l e ({ frames := 4, cells := 26, slots := 141, locals := 53 } : Room) s m #[(.ref a1)] below meth c s₁ [] 0 0 := Stand.of_body Bd
  have e0 : s₁.heap = h0 := by rw [← hh, Bd.state]; rfl
  have N0 := Fr.nil n0
  have pre0 : ∀ t, Steps p.tables e below (s₁.setTop (mkF m 0 #[.val (.ref a1)] [])) t → Steps p.tables e below (s₁.setTop (entryFrame m #[(.ref a1)] 1)) t := fun t k => castTop (ef_1 m a1) k
  -- 3. LAWS
  have KK0 : Keep h0 h0 [a1] := Keep.refl h0 [a1]
  obtain ⟨T2, X2, e2, st2⟩ := initO X0 hx hZ hown (hw _ (List.mem_of_getElem? (i := 6) rfl)) (hw _ (List.mem_of_getElem? (i := 7) rfl)) (hw _ (List.mem_of_getElem? (i := 8) rfl)) e0 (g := (mkF m 1 #[.val (.ref a1)] [(.ref a1)])) rfl (by rw [hml]; rfl) rfl (hb hby d1_1) (by decide) (W := 0) (by show 2 * 0 + _ ≤ _; exact Nat.le_of_eq rfl) (by decide)
  obtain ⟨T3, h3, X3, e3, E3, A3, D3, -, st3⟩ := newO X2 hx hZ hown (hw _ (List.mem_of_getElem? (i := 9) rfl)) (hw _ (List.mem_of_getElem? (i := 10) rfl)) (hw _ (List.mem_of_getElem? (i := 11) rfl)) e2 (g := (mkF m 5 #[.val (.ref a1)] [(.ref a1)])) rfl (hb hby d1_5) (by decide) (by decide)
  obtain ⟨b3, g3⟩ : ∃ z, z = h0.size := ⟨_, rfl⟩
  rw [← g3] at A3 D3 st3
  have F_modCount_b3 : Fld Z h3 b3 "java/util/AbstractList" "modCount" "I" (.int (0 : Int32)) := D3 (Or.inl (hw _ (List.mem_of_getElem? (i := 29) rfl))) (ty := .int) (by decide)
  have F_elementData_b3 : Fld Z h3 b3 "java/util/ArrayList" "elementData" "[Ljava/lang/Object;" .null := D3 (Or.inl (hw _ (List.mem_of_getElem? (i := 32) rfl))) (ty := (.array (.object "java/lang/Object"))) (by decide)
  have F_size_b3 : Fld Z h3 b3 "java/util/ArrayList" "size" "I" (.int (0 : Int32)) := D3 (Or.inl (hw _ (List.mem_of_getElem? (i := 141) rfl))) (ty := .int) (by decide)
  have E_b3 := A3
  have g_b3 : n0 ≤ b3 := Nat.le_trans Z0 (Nat.le_trans KK0.1 (Nat.le_of_eq g3.symm))
  have sz_b3 : h0.size ≤ b3 := Nat.le_trans KK0.1 (Nat.le_of_eq g3.symm)
  have ne_b3 : a1 ≠ b3 := Nat.ne_of_lt (Nat.lt_of_lt_of_le B0.1.lt sz_b3)
  have B3 := B0.ext E3
  have ST3 := ST0.ext E3
  have KK3 : Keep h0 h3 [a1] := KK0.ext E3
  obtain ⟨_, _, ⟨T4, L4, k4, n4⟩, -, X4, ⟨Lc4, hQ4, l4, y4, z4⟩, st4⟩ := X3.specialBack hx (y := (⟨"java/util/ArrayList", "<init>", "()V"⟩ : MethodName)) rfl hown (mvT hZ (hw _ (List.mem_of_getElem? (i := 12) rfl))) (mvT hZ (hw _ (List.mem_of_getElem? (i := 13) rfl))) (mvT hZ (hw _ (List.mem_of_getElem? (i := 14) rfl))) (by decide) (backOf (W := 2) (rm3 l Z a0 hw [] b3 w3 _ h3 n0 (Nat.le_trans Z0 KK3.1) ST3 E_b3 F_elementData_b3 g_b3 F_modCount_b3 F_size_b3) hZ (hw _ (List.mem_of_getElem? (i := 14) rfl)) (hw _ (List.mem_of_getElem? (i := 11) rfl)) (by decide) (by decide)) (g := (mkF m 9 #[.val (.ref a1)] [(.ref b3), (.ref b3), (.ref a1)])) rfl (by rw [hml]; rfl) (Steps.refl _) (a := b3) (argsL := []) (rest := [(.ref b3), (.ref a1)]) (lenOf pd_1_0 rfl) rfl (by show 2 * 0 + _ ≤ _; exact Nat.le_of_eq rfl) (hb hby d1_9) (fun _ _ => ⟨rfl, e3, (by decide : 1 + 0 ≤ _), (by decide : 3 + 0 ≤ _)⟩)
  dsimp only [Pt.U, Pt.locs, Pt.cells, Pt.slots] at X4 l4 y4 z4 st4 hQ4
  have y4' : k4 = 1 := y4
  have z4' : n4 = 3 := z4
  clear y4 z4
  subst y4' z4'
  obtain ⟨rfl, N4q, K4, Li_b3_4⟩ := hQ4
  have N4 : Fr n0 L4 := by rw [l4]; exact Fr.app N0 N4q
  clear l4
  have B4 := B3.keep K4 (fun q => ne_b3 (List.mem_singleton.mp q))
  have ST4 := own_sta_keep ST3 K4 E_b3
  have KK4 : Keep h0 T4.heap [a1] := KK3.trans K4 fun x hx => by cases List.mem_singleton.mp hx; exact Or.inr sz_b3
  obtain ⟨T5, h5, X5, e5, W5, st5⟩ := putF X4 hx hZ hown (host := "") (Or.inl (hw _ (List.mem_of_getElem? (i := 33) rfl))) Via.refl rfl (B4.2 ("declarations", "Ljava/util/List;") (by decide)) B4.1 (Or.inr ⟨(hw _ (List.mem_of_getElem? (i := 34) rfl)), rfl, hnm⟩) (hw _ (List.mem_of_getElem? (i := 1) rfl)) (ty := (.object "java/util/List")) (by decide) rfl rfl (g := (mkF m 12 #[.val (.ref a1)] [(.ref b3), (.ref a1)])) rfl rfl (hb hby d1_12)
  have B5 := B4.put hw (k := "declarations") (d := "Ljava/util/List;") (by decide) (by decide) W5
  have ST5 := ST4.wr W5
  have KK5 : Keep h0 h5 [a1] := KK4.wr W5 (Or.inl (List.mem_of_getElem? (i := 0) rfl))
  have Li_b3_5 := Li_b3_4.other W5 (Ne.symm ne_b3)
  have N5 := Fr.snoc X5 N4 g_a1
  obtain ⟨T6, h6, X6, e6, E6, A6, D6, -, st6⟩ := newO X5 hx hZ hown (hw _ (List.mem_of_getElem? (i := 9) rfl)) (hw _ (List.mem_of_getElem? (i := 10) rfl)) (hw _ (List.mem_of_getElem? (i := 11) rfl)) e5 (g := (mkF m 16 #[.val (.ref a1)] [(.ref a1)])) rfl (hb hby d1_16) (by decide) (by decide)
  obtain ⟨b6, g6⟩ : ∃ z, z = h5.size := ⟨_, rfl⟩
  rw [← g6] at A6 D6 st6
  have F_modCount_b6 : Fld Z h6 b6 "java/util/AbstractList" "modCount" "I" (.int (0 : Int32)) := D6 (Or.inl (hw _ (List.mem_of_getElem? (i := 29) rfl))) (ty := .int) (by decide)
  have F_elementData_b6 : Fld Z h6 b6 "java/util/ArrayList" "elementData" "[Ljava/lang/Object;" .null := D6 (Or.inl (hw _ (List.mem_of_getElem? (i := 32) rfl))) (ty := (.array (.object "java/lang/Object"))) (by decide)
  have F_size_b6 : Fld Z h6 b6 "java/util/ArrayList" "size" "I" (.int (0 : Int32)) := D6 (Or.inl (hw _ (List.mem_of_getElem? (i := 141) rfl))) (ty := .int) (by decide)
  have E_b6 := A6
  have g_b6 : n0 ≤ b6 := Nat.le_trans Z0 (Nat.le_trans KK5.1 (Nat.le_of_eq g6.symm))
  have sz_b6 : h0.size ≤ b6 := Nat.le_trans KK5.1 (Nat.le_of_eq g6.symm)
  have ne_b6 : a1 ≠ b6 := Nat.ne_of_lt (Nat.lt_of_lt_of_le B0.1.lt sz_b6)
  have B6 := B5.ext E6
  have ST6 := ST5.ext E6
  have KK6 : Keep h0 h6 [a1] := KK5.ext E6
  have Li_b3_6 := Li_b3_5.ext E6
  obtain ⟨_, _, ⟨T7, L7, k7, n7⟩, -, X7, ⟨Lc7, hQ7, l7, y7, z7⟩, st7⟩ := X6.specialBack hx (y := (⟨"java/util/ArrayList", "<init>", "()V"⟩ : MethodName)) rfl hown (mvT hZ (hw _ (List.mem_of_getElem? (i := 12) rfl))) (mvT hZ (hw _ (List.mem_of_getElem? (i := 13) rfl))) (mvT hZ (hw _ (List.mem_of_getElem? (i := 14) rfl))) (by decide) (backOf (W := 2) (rm3 l Z a0 hw [] b6 w3 _ h6 n0 (Nat.le_trans Z0 KK6.1) ST6 E_b6 F_elementData_b6 g_b6 F_modCount_b6 F_size_b6) hZ (hw _ (List.mem_of_getElem? (i := 14) rfl)) (hw _ (List.mem_of_getElem? (i := 11) rfl)) (by decide) (by decide)) (g := (mkF m 20 #[.val (.ref a1)] [(.ref b6), (.ref b6), (.ref a1)])) rfl (by rw [hml]; rfl) (Steps.refl _) (a := b6) (argsL := []) (rest := [(.ref b6), (.ref a1)]) (lenOf pd_1_0 rfl) rfl (by show 2 * 0 + _ ≤ _; exact Nat.le_of_eq rfl) (hb hby d1_20) (fun _ _ => ⟨rfl, e6, (by decide : 2 + 0 ≤ _), (by decide : 6 + 0 ≤ _)⟩)
  dsimp only [Pt.U, Pt.locs, Pt.cells, Pt.slots] at X7 l7 y7 z7 st7 hQ7
  have y7' : k7 = 2 := y7
  have z7' : n7 = 6 := z7
  clear y7 z7
  subst y7' z7'
  obtain ⟨rfl, N7q, K7, Li_b6_7⟩ := hQ7
  have N7 : Fr n0 L7 := by rw [l7]; exact Fr.app N5 N7q
  clear l7
  have B7 := B6.keep K7 (fun q => ne_b6 (List.mem_singleton.mp q))
  have ST7 := own_sta_keep ST6 K7 E_b6
  have KK7 : Keep h0 T7.heap [a1] := KK6.trans K7 fun x hx => by cases List.mem_singleton.mp hx; exact Or.inr sz_b6
  have Li_b3_7 := Li_b3_6.keep K7 (fun q => Nat.ne_of_lt (Nat.lt_of_lt_of_le Li_b3_5.lt (Nat.le_of_eq g6.symm)) (List.mem_singleton.mp q))
  obtain ⟨T8, h8, X8, e8, W8, st8⟩ := putF X7 hx hZ hown (host := "") (Or.inl (hw _ (List.mem_of_getElem? (i := 35) rfl))) Via.refl rfl (B7.2 ("assertions", "Ljava/util/List;") (by decide)) B7.1 (Or.inr ⟨(hw _ (List.mem_of_getElem? (i := 36) rfl)), rfl, hnm⟩) (hw _ (List.mem_of_getElem? (i := 1) rfl)) (ty := (.object "java/util/List")) (by decide) rfl rfl (g := (mkF m 23 #[.val (.ref a1)] [(.ref b6), (.ref a1)])) rfl rfl (hb hby d1_23)
  have B8 := B7.put hw (k := "assertions") (d := "Ljava/util/List;") (by decide) (by decide) W8
  have ST8 := ST7.wr W8
  have KK8 : Keep h0 h8 [a1] := KK7.wr W8 (Or.inl (List.mem_of_getElem? (i := 0) rfl))
  have Li_b3_8 := Li_b3_7.other W8 (Ne.symm ne_b3)
  have Li_b6_8 := Li_b6_7.other W8 (Ne.symm ne_b6)
  have N8 := Fr.snoc X8 N7 g_a1
  obtain ⟨T9, h9, X9, e9, E9, A9, D9, -, st9⟩ := newO X8 hx hZ hown (hw _ (List.mem_of_getElem? (i := 37) rfl)) (hw _ (List.mem_of_getElem? (i := 38) rfl)) (hw _ (List.mem_of_getElem? (i := 39) rfl)) e8 (g := (mkF m 27 #[.val (.ref a1)] [(.ref a1)])) rfl (hb hby d1_27) (by decide) (by decide)
  obtain ⟨b9, g9⟩ : ∃ z, z = h8.size := ⟨_, rfl⟩
  rw [← g9] at A9 D9 st9
  have F_loadFactor_b9 : Fld Z h9 b9 "java/util/HashMap" "loadFactor" "F" (.float (0 : UInt32)) := D9 (Or.inr (hw _ (List.mem_of_getElem? (i := 52) rfl))) (ty := .float) (by decide)
  have E_b9 := A9
  have g_b9 : n0 ≤ b9 := Nat.le_trans Z0 (Nat.le_trans KK8.1 (Nat.le_of_eq g9.symm))
  have sz_b9 : h0.size ≤ b9 := Nat.le_trans KK8.1 (Nat.le_of_eq g9.symm)
  have ne_b9 : a1 ≠ b9 := Nat.ne_of_lt (Nat.lt_of_lt_of_le B0.1.lt sz_b9)
  have B9 := B8.ext E9
  have ST9 := ST8.ext E9
  have KK9 : Keep h0 h9 [a1] := KK8.ext E9
  have Li_b3_9 := Li_b3_8.ext E9
  have Li_b6_9 := Li_b6_8.ext E9
  obtain ⟨_, _, ⟨T10, L10, k10, n10⟩, -, X10, ⟨Lc10, hQ10, l10, y10, z10⟩, st10⟩ := X9.specialBack hx (y := (⟨"java/util/HashMap", "<init>", "()V"⟩ : MethodName)) rfl hown (mvT hZ (hw _ (List.mem_of_getElem? (i := 40) rfl))) (mvT hZ (hw _ (List.mem_of_getElem? (i := 41) rfl))) (mvT hZ (hw _ (List.mem_of_getElem? (i := 42) rfl))) (by decide) (backOf (W := 2) (rm6 l Z a0 hw [] b9 _ h9 n0 (Nat.le_trans Z0 KK9.1) E_b9 F_loadFactor_b9 g_b9) hZ (hw _ (List.mem_of_getElem? (i := 42) rfl)) (hw _ (List.mem_of_getElem? (i := 39) rfl)) (by decide) (by decide)) (g := (mkF m 31 #[.val (.ref a1)] [(.ref b9), (.ref b9), (.ref a1)])) rfl (by rw [hml]; rfl) (Steps.refl _) (a := b9) (argsL := []) (rest := [(.ref b9), (.ref a1)]) (lenOf pd_1_0 rfl) rfl (by show 2 * 0 + _ ≤ _; exact Nat.le_of_eq rfl) (hb hby d1_31) (fun _ _ => ⟨rfl, e9, (by decide : 3 + 0 ≤ _), (by decide : 14 + 0 ≤ _)⟩)
  dsimp only [Pt.U, Pt.locs, Pt.cells, Pt.slots] at X10 l10 y10 z10 st10 hQ10
  have y10' : k10 = 3 := y10
  have z10' : n10 = 14 := z10
  clear y10 z10
  subst y10' z10'
  obtain ⟨rfl, N10q, K10⟩ := hQ10
  have N10 : Fr n0 L10 := by rw [l10]; exact Fr.app N8 N10q
  clear l10
  have B10 := B9.keep K10 (fun q => ne_b9 (List.mem_singleton.mp q))
  have ST10 := own_sta_keep ST9 K10 E_b9
  have KK10 : Keep h0 T10.heap [a1] := KK9.trans K10 fun x hx => by cases List.mem_singleton.mp hx; exact Or.inr sz_b9
  have Li_b3_10 := Li_b3_9.keep K10 (fun q => Nat.ne_of_lt (Nat.lt_of_lt_of_le Li_b3_8.lt (Nat.le_of_eq g9.symm)) (List.mem_singleton.mp q))
  have Li_b6_10 := Li_b6_9.keep K10 (fun q => Nat.ne_of_lt (Nat.lt_of_lt_of_le Li_b6_8.lt (Nat.le_of_eq g9.symm)) (List.mem_singleton.mp q))
  obtain ⟨T11, h11, X11, e11, W11, st11⟩ := putF X10 hx hZ hown (host := "") (Or.inl (hw _ (List.mem_of_getElem? (i := 53) rfl))) Via.refl rfl (B10.2 ("sorts", "Ljava/util/Map;") (by decide)) B10.1 (Or.inr ⟨(hw _ (List.mem_of_getElem? (i := 54) rfl)), rfl, hnm⟩) (hw _ (List.mem_of_getElem? (i := 1) rfl)) (ty := (.object "java/util/Map")) (by decide) rfl rfl (g := (mkF m 34 #[.val (.ref a1)] [(.ref b9), (.ref a1)])) rfl rfl (hb hby d1_34)
  have B11 := B10.put hw (k := "sorts") (d := "Ljava/util/Map;") (by decide) (by decide) W11
  have ST11 := ST10.wr W11
  have KK11 : Keep h0 h11 [a1] := KK10.wr W11 (Or.inl (List.mem_of_getElem? (i := 0) rfl))
  have Li_b3_11 := Li_b3_10.other W11 (Ne.symm ne_b3)
  have Li_b6_11 := Li_b6_10.other W11 (Ne.symm ne_b6)
  have N11 := Fr.snoc X11 N10 g_a1
  obtain ⟨T12, h12, X12, e12, E12, A12, D12, -, st12⟩ := newO X11 hx hZ hown (hw _ (List.mem_of_getElem? (i := 37) rfl)) (hw _ (List.mem_of_getElem? (i := 38) rfl)) (hw _ (List.mem_of_getElem? (i := 39) rfl)) e11 (g := (mkF m 38 #[.val (.ref a1)] [(.ref a1)])) rfl (hb hby d1_38) (by decide) (by decide)
  obtain ⟨b12, g12⟩ : ∃ z, z = h11.size := ⟨_, rfl⟩
  rw [← g12] at A12 D12 st12
  have F_loadFactor_b12 : Fld Z h12 b12 "java/util/HashMap" "loadFactor" "F" (.float (0 : UInt32)) := D12 (Or.inr (hw _ (List.mem_of_getElem? (i := 52) rfl))) (ty := .float) (by decide)
  have E_b12 := A12
  have g_b12 : n0 ≤ b12 := Nat.le_trans Z0 (Nat.le_trans KK11.1 (Nat.le_of_eq g12.symm))
  have sz_b12 : h0.size ≤ b12 := Nat.le_trans KK11.1 (Nat.le_of_eq g12.symm)
  have ne_b12 : a1 ≠ b12 := Nat.ne_of_lt (Nat.lt_of_lt_of_le B0.1.lt sz_b12)
  have B12 := B11.ext E12
  have ST12 := ST11.ext E12
  have KK12 : Keep h0 h12 [a1] := KK11.ext E12
  have Li_b3_12 := Li_b3_11.ext E12
  have Li_b6_12 := Li_b6_11.ext E12
  obtain ⟨_, _, ⟨T13, L13, k13, n13⟩, -, X13, ⟨Lc13, hQ13, l13, y13, z13⟩, st13⟩ := X12.specialBack hx (y := (⟨"java/util/HashMap", "<init>", "()V"⟩ : MethodName)) rfl hown (mvT hZ (hw _ (List.mem_of_getElem? (i := 40) rfl))) (mvT hZ (hw _ (List.mem_of_getElem? (i := 41) rfl))) (mvT hZ (hw _ (List.mem_of_getElem? (i := 42) rfl))) (by decide) (backOf (W := 2) (rm6 l Z a0 hw [] b12 _ h12 n0 (Nat.le_trans Z0 KK12.1) E_b12 F_loadFactor_b12 g_b12) hZ (hw _ (List.mem_of_getElem? (i := 42) rfl)) (hw _ (List.mem_of_getElem? (i := 39) rfl)) (by decide) (by decide)) (g := (mkF m 42 #[.val (.ref a1)] [(.ref b12), (.ref b12), (.ref a1)])) rfl (by rw [hml]; rfl) (Steps.refl _) (a := b12) (argsL := []) (rest := [(.ref b12), (.ref a1)]) (lenOf pd_1_0 rfl) rfl (by show 2 * 0 + _ ≤ _; exact Nat.le_of_eq rfl) (hb hby d1_42) (fun _ _ => ⟨rfl, e12, (by decide : 4 + 0 ≤ _), (by decide : 22 + 0 ≤ _)⟩)
  dsimp only [Pt.U, Pt.locs, Pt.cells, Pt.slots] at X13 l13 y13 z13 st13 hQ13
  have y13' : k13 = 4 := y13
  have z13' : n13 = 22 := z13
  clear y13 z13
  subst y13' z13'
  obtain ⟨rfl, N13q, K13⟩ := hQ13
  have N13 : Fr n0 L13 := by rw [l13]; exact Fr.app N11 N13q
  clear l13
  have B13 := B12.keep K13 (fun q => ne_b12 (List.mem_singleton.mp q))
  have ST13 := own_sta_keep ST12 K13 E_b12
  have KK13 : Keep h0 T13.heap [a1] := KK12.trans K13 fun x hx => by cases List.mem_singleton.mp hx; exact Or.inr sz_b12
  have Li_b3_13 := Li_b3_12.keep K13 (fun q => Nat.ne_of_lt (Nat.lt_of_lt_of_le Li_b3_11.lt (Nat.le_of_eq g12.symm)) (List.mem_singleton.mp q))
  have Li_b6_13 := Li_b6_12.keep K13 (fun q => Nat.ne_of_lt (Nat.lt_of_lt_of_le Li_b6_11.lt (Nat.le_of_eq g12.symm)) (List.mem_singleton.mp q))
  obtain ⟨T14, h14, X14, e14, W14, st14⟩ := putF X13 hx hZ hown (host := "") (Or.inl (hw _ (List.mem_of_getElem? (i := 55) rfl))) Via.refl rfl (B13.2 ("pairTypes", "Ljava/util/Map;") (by decide)) B13.1 (Or.inr ⟨(hw _ (List.mem_of_getElem? (i := 56) rfl)), rfl, hnm⟩) (hw _ (List.mem_of_getElem? (i := 1) rfl)) (ty := (.object "java/util/Map")) (by decide) rfl rfl (g := (mkF m 45 #[.val (.ref a1)] [(.ref b12), (.ref a1)])) rfl rfl (hb hby d1_45)
  have B14 := B13.put hw (k := "pairTypes") (d := "Ljava/util/Map;") (by decide) (by decide) W14
  have ST14 := ST13.wr W14
  have KK14 : Keep h0 h14 [a1] := KK13.wr W14 (Or.inl (List.mem_of_getElem? (i := 0) rfl))
  have Li_b3_14 := Li_b3_13.other W14 (Ne.symm ne_b3)
  have Li_b6_14 := Li_b6_13.other W14 (Ne.symm ne_b6)
  have N14 := Fr.snoc X14 N13 g_a1
  obtain ⟨T15, h15, X15, e15, E15, A15, D15, -, st15⟩ := newO X14 hx hZ hown (hw _ (List.mem_of_getElem? (i := 37) rfl)) (hw _ (List.mem_of_getElem? (i := 38) rfl)) (hw _ (List.mem_of_getElem? (i := 39) rfl)) e14 (g := (mkF m 49 #[.val (.ref a1)] [(.ref a1)])) rfl (hb hby d1_49) (by decide) (by decide)
  obtain ⟨b15, g15⟩ : ∃ z, z = h14.size := ⟨_, rfl⟩
  rw [← g15] at A15 D15 st15
  have F_loadFactor_b15 : Fld Z h15 b15 "java/util/HashMap" "loadFactor" "F" (.float (0 : UInt32)) := D15 (Or.inr (hw _ (List.mem_of_getElem? (i := 52) rfl))) (ty := .float) (by decide)
  have E_b15 := A15
  have g_b15 : n0 ≤ b15 := Nat.le_trans Z0 (Nat.le_trans KK14.1 (Nat.le_of_eq g15.symm))
  have sz_b15 : h0.size ≤ b15 := Nat.le_trans KK14.1 (Nat.le_of_eq g15.symm)
  have ne_b15 : a1 ≠ b15 := Nat.ne_of_lt (Nat.lt_of_lt_of_le B0.1.lt sz_b15)
  have B15 := B14.ext E15
  have ST15 := ST14.ext E15
  have KK15 : Keep h0 h15 [a1] := KK14.ext E15
  have Li_b3_15 := Li_b3_14.ext E15
  have Li_b6_15 := Li_b6_14.ext E15
  obtain ⟨_, _, ⟨T16, L16, k16, n16⟩, -, X16, ⟨Lc16, hQ16, l16, y16, z16⟩, st16⟩ := X15.specialBack hx (y := (⟨"java/util/HashMap", "<init>", "()V"⟩ : MethodName)) rfl hown (mvT hZ (hw _ (List.mem_of_getElem? (i := 40) rfl))) (mvT hZ (hw _ (List.mem_of_getElem? (i := 41) rfl))) (mvT hZ (hw _ (List.mem_of_getElem? (i := 42) rfl))) (by decide) (backOf (W := 2) (rm6 l Z a0 hw [] b15 _ h15 n0 (Nat.le_trans Z0 KK15.1) E_b15 F_loadFactor_b15 g_b15) hZ (hw _ (List.mem_of_getElem? (i := 42) rfl)) (hw _ (List.mem_of_getElem? (i := 39) rfl)) (by decide) (by decide)) (g := (mkF m 53 #[.val (.ref a1)] [(.ref b15), (.ref b15), (.ref a1)])) rfl (by rw [hml]; rfl) (Steps.refl _) (a := b15) (argsL := []) (rest := [(.ref b15), (.ref a1)]) (lenOf pd_1_0 rfl) rfl (by show 2 * 0 + _ ≤ _; exact Nat.le_of_eq rfl) (hb hby d1_53) (fun _ _ => ⟨rfl, e15, (by decide : 5 + 0 ≤ _), (by decide : 30 + 0 ≤ _)⟩)
  dsimp only [Pt.U, Pt.locs, Pt.cells, Pt.slots] at X16 l16 y16 z16 st16 hQ16
  have y16' : k16 = 5 := y16
  have z16' : n16 = 30 := z16
  clear y16 z16
  subst y16' z16'
  obtain ⟨rfl, N16q, K16⟩ := hQ16
  have N16 : Fr n0 L16 := by rw [l16]; exact Fr.app N14 N16q
  clear l16
  have B16 := B15.keep K16 (fun q => ne_b15 (List.mem_singleton.mp q))
  have ST16 := own_sta_keep ST15 K16 E_b15
  have KK16 : Keep h0 T16.heap [a1] := KK15.trans K16 fun x hx => by cases List.mem_singleton.mp hx; exact Or.inr sz_b15
  have Li_b3_16 := Li_b3_15.keep K16 (fun q => Nat.ne_of_lt (Nat.lt_of_lt_of_le Li_b3_14.lt (Nat.le_of_eq g15.symm)) (List.mem_singleton.mp q))
  have Li_b6_16 := Li_b6_15.keep K16 (fun q => Nat.ne_of_lt (Nat.lt_of_lt_of_le Li_b6_14.lt (Nat.le_of_eq g15.symm)) (List.mem_singleton.mp q))
  obtain ⟨T17, h17, X17, e17, W17, st17⟩ := putF X16 hx hZ hown (host := "") (Or.inl (hw _ (List.mem_of_getElem? (i := 57) rfl))) Via.refl rfl (B16.2 ("constants", "Ljava/util/Map;") (by decide)) B16.1 (Or.inr ⟨(hw _ (List.mem_of_getElem? (i := 58) rfl)), rfl, hnm⟩) (hw _ (List.mem_of_getElem? (i := 1) rfl)) (ty := (.object "java/util/Map")) (by decide) rfl rfl (g := (mkF m 56 #[.val (.ref a1)] [(.ref b15), (.ref a1)])) rfl rfl (hb hby d1_56)
  have B17 := B16.put hw (k := "constants") (d := "Ljava/util/Map;") (by decide) (by decide) W17
  have ST17 := ST16.wr W17
  have KK17 : Keep h0 h17 [a1] := KK16.wr W17 (Or.inl (List.mem_of_getElem? (i := 0) rfl))
  have Li_b3_17 := Li_b3_16.other W17 (Ne.symm ne_b3)
  have Li_b6_17 := Li_b6_16.other W17 (Ne.symm ne_b6)
  have N17 := Fr.snoc X17 N16 g_a1
  obtain ⟨T18, h18, X18, e18, E18, A18, D18, -, st18⟩ := newO X17 hx hZ hown (hw _ (List.mem_of_getElem? (i := 37) rfl)) (hw _ (List.mem_of_getElem? (i := 38) rfl)) (hw _ (List.mem_of_getElem? (i := 39) rfl)) e17 (g := (mkF m 60 #[.val (.ref a1)] [(.ref a1)])) rfl (hb hby d1_60) (by decide) (by decide)
  obtain ⟨b18, g18⟩ : ∃ z, z = h17.size := ⟨_, rfl⟩
  rw [← g18] at A18 D18 st18
  have F_loadFactor_b18 : Fld Z h18 b18 "java/util/HashMap" "loadFactor" "F" (.float (0 : UInt32)) := D18 (Or.inr (hw _ (List.mem_of_getElem? (i := 52) rfl))) (ty := .float) (by decide)
  have E_b18 := A18
  have g_b18 : n0 ≤ b18 := Nat.le_trans Z0 (Nat.le_trans KK17.1 (Nat.le_of_eq g18.symm))
  have sz_b18 : h0.size ≤ b18 := Nat.le_trans KK17.1 (Nat.le_of_eq g18.symm)
  have ne_b18 : a1 ≠ b18 := Nat.ne_of_lt (Nat.lt_of_lt_of_le B0.1.lt sz_b18)
  have B18 := B17.ext E18
  have ST18 := ST17.ext E18
  have KK18 : Keep h0 h18 [a1] := KK17.ext E18
  have Li_b3_18 := Li_b3_17.ext E18
  have Li_b6_18 := Li_b6_17.ext E18
  obtain ⟨_, _, ⟨T19, L19, k19, n19⟩, -, X19, ⟨Lc19, hQ19, l19, y19, z19⟩, st19⟩ := X18.specialBack hx (y := (⟨"java/util/HashMap", "<init>", "()V"⟩ : MethodName)) rfl hown (mvT hZ (hw _ (List.mem_of_getElem? (i := 40) rfl))) (mvT hZ (hw _ (List.mem_of_getElem? (i := 41) rfl))) (mvT hZ (hw _ (List.mem_of_getElem? (i := 42) rfl))) (by decide) (backOf (W := 2) (rm6 l Z a0 hw [] b18 _ h18 n0 (Nat.le_trans Z0 KK18.1) E_b18 F_loadFactor_b18 g_b18) hZ (hw _ (List.mem_of_getElem? (i := 42) rfl)) (hw _ (List.mem_of_getElem? (i := 39) rfl)) (by decide) (by decide)) (g := (mkF m 64 #[.val (.ref a1)] [(.ref b18), (.ref b18), (.ref a1)])) rfl (by rw [hml]; rfl) (Steps.refl _) (a := b18) (argsL := []) (rest := [(.ref b18), (.ref a1)]) (lenOf pd_1_0 rfl) rfl (by show 2 * 0 + _ ≤ _; exact Nat.le_of_eq rfl) (hb hby d1_64) (fun _ _ => ⟨rfl, e18, (by decide : 6 + 0 ≤ _), (by decide : 38 + 0 ≤ _)⟩)
  dsimp only [Pt.U, Pt.locs, Pt.cells, Pt.slots] at X19 l19 y19 z19 st19 hQ19
  have y19' : k19 = 6 := y19
  have z19' : n19 = 38 := z19
  clear y19 z19
  subst y19' z19'
  obtain ⟨rfl, N19q, K19⟩ := hQ19
  have N19 : Fr n0 L19 := by rw [l19]; exact Fr.app N17 N19q
  clear l19
  have B19 := B18.keep K19 (fun q => ne_b18 (List.mem_singleton.mp q))
  have ST19 := own_sta_keep ST18 K19 E_b18
  have KK19 : Keep h0 T19.heap [a1] := KK18.trans K19 fun x hx => by cases List.mem_singleton.mp hx; exact Or.inr sz_b18
  have Li_b3_19 := Li_b3_18.keep K19 (fun q => Nat.ne_of_lt (Nat.lt_of_lt_of_le Li_b3_17.lt (Nat.le_of_eq g18.symm)) (List.mem_singleton.mp q))
  have Li_b6_19 := Li_b6_18.keep K19 (fun q => Nat.ne_of_lt (Nat.lt_of_lt_of_le Li_b6_17.lt (Nat.le_of_eq g18.symm)) (List.mem_singleton.mp q))
  obtain ⟨T20, h20, X20, e20, W20, st20⟩ := putF X19 hx hZ hown (host := "") (Or.inl (hw _ (List.mem_of_getElem? (i := 59) rfl))) Via.refl rfl (B19.2 ("definitions", "Ljava/util/Map;") (by decide)) B19.1 (Or.inr ⟨(hw _ (List.mem_of_getElem? (i := 60) rfl)), rfl, hnm⟩) (hw _ (List.mem_of_getElem? (i := 1) rfl)) (ty := (.object "java/util/Map")) (by decide) rfl rfl (g := (mkF m 67 #[.val (.ref a1)] [(.ref b18), (.ref a1)])) rfl rfl (hb hby d1_67)
  have B20 := B19.put hw (k := "definitions") (d := "Ljava/util/Map;") (by decide) (by decide) W20
  have ST20 := ST19.wr W20
  have KK20 : Keep h0 h20 [a1] := KK19.wr W20 (Or.inl (List.mem_of_getElem? (i := 0) rfl))
  have Li_b3_20 := Li_b3_19.other W20 (Ne.symm ne_b3)
  have Li_b6_20 := Li_b6_19.other W20 (Ne.symm ne_b6)
  have N20 := Fr.snoc X20 N19 g_a1
  obtain ⟨T21, h21, X21, e21, E21, A21, D21, -, st21⟩ := newO X20 hx hZ hown (hw _ (List.mem_of_getElem? (i := 61) rfl)) (hw _ (List.mem_of_getElem? (i := 62) rfl)) (hw _ (List.mem_of_getElem? (i := 63) rfl)) e20 (g := (mkF m 71 #[.val (.ref a1)] [(.ref a1)])) rfl (hb hby d1_71) (by decide) (by decide)
  obtain ⟨b21, g21⟩ : ∃ z, z = h20.size := ⟨_, rfl⟩
  rw [← g21] at A21 D21 st21
  have F_map_b21 : Fld Z h21 b21 "java/util/HashSet" "map" "Ljava/util/HashMap;" .null := D21 (Or.inl (hw _ (List.mem_of_getElem? (i := 79) rfl))) (ty := (.object "java/util/HashMap")) (by decide)
  have E_b21 := A21
  have g_b21 : n0 ≤ b21 := Nat.le_trans Z0 (Nat.le_trans KK20.1 (Nat.le_of_eq g21.symm))
  have sz_b21 : h0.size ≤ b21 := Nat.le_trans KK20.1 (Nat.le_of_eq g21.symm)
  have ne_b21 : a1 ≠ b21 := Nat.ne_of_lt (Nat.lt_of_lt_of_le B0.1.lt sz_b21)
  have B21 := B20.ext E21
  have ST21 := ST20.ext E21
  have KK21 : Keep h0 h21 [a1] := KK20.ext E21
  have Li_b3_21 := Li_b3_20.ext E21
  have Li_b6_21 := Li_b6_20.ext E21
  obtain ⟨_, _, ⟨T22, L22, k22, n22⟩, -, X22, ⟨Lc22, hQ22, l22, y22, z22⟩, st22⟩ := X21.specialBack hx (y := (⟨"java/util/HashSet", "<init>", "()V"⟩ : MethodName)) rfl hown (mvT hZ (hw _ (List.mem_of_getElem? (i := 64) rfl))) (mvT hZ (hw _ (List.mem_of_getElem? (i := 65) rfl))) (mvT hZ (hw _ (List.mem_of_getElem? (i := 66) rfl))) (by decide) (backOf (W := 2) (rm8 l Z a0 hw [] b21 _ h21 n0 (Nat.le_trans Z0 KK21.1) E_b21 F_map_b21 g_b21) hZ (hw _ (List.mem_of_getElem? (i := 66) rfl)) (hw _ (List.mem_of_getElem? (i := 63) rfl)) (by decide) (by decide)) (g := (mkF m 75 #[.val (.ref a1)] [(.ref b21), (.ref b21), (.ref a1)])) rfl (by rw [hml]; rfl) (Steps.refl _) (a := b21) (argsL := []) (rest := [(.ref b21), (.ref a1)]) (lenOf pd_1_0 rfl) rfl (by show 2 * 0 + _ ≤ _; exact Nat.le_of_eq rfl) (hb hby d1_75) (fun _ _ => ⟨rfl, e21, (by decide : 7 + 1 ≤ _), (by decide : 39 + 8 ≤ _)⟩)
  dsimp only [Pt.U, Pt.locs, Pt.cells, Pt.slots] at X22 l22 y22 z22 st22 hQ22
  have y22' : k22 = 8 := y22
  have z22' : n22 = 47 := z22
  clear y22 z22
  subst y22' z22'
  obtain ⟨rfl, N22q, K22⟩ := hQ22
  have N22 : Fr n0 L22 := by rw [l22]; exact Fr.app N20 N22q
  clear l22
  have B22 := B21.keep K22 (fun q => ne_b21 (List.mem_singleton.mp q))
  have ST22 := own_sta_keep ST21 K22 E_b21
  have KK22 : Keep h0 T22.heap [a1] := KK21.trans K22 fun x hx => by cases List.mem_singleton.mp hx; exact Or.inr sz_b21
  have Li_b3_22 := Li_b3_21.keep K22 (fun q => Nat.ne_of_lt (Nat.lt_of_lt_of_le Li_b3_20.lt (Nat.le_of_eq g21.symm)) (List.mem_singleton.mp q))
  have Li_b6_22 := Li_b6_21.keep K22 (fun q => Nat.ne_of_lt (Nat.lt_of_lt_of_le Li_b6_20.lt (Nat.le_of_eq g21.symm)) (List.mem_singleton.mp q))
  obtain ⟨T23, h23, X23, e23, W23, st23⟩ := putF X22 hx hZ hown (host := "") (Or.inl (hw _ (List.mem_of_getElem? (i := 80) rfl))) Via.refl rfl (B22.2 ("definedValues", "Ljava/util/Set;") (by decide)) B22.1 (Or.inr ⟨(hw _ (List.mem_of_getElem? (i := 81) rfl)), rfl, hnm⟩) (hw _ (List.mem_of_getElem? (i := 1) rfl)) (ty := (.object "java/util/Set")) (by decide) rfl rfl (g := (mkF m 78 #[.val (.ref a1)] [(.ref b21), (.ref a1)])) rfl rfl (hb hby d1_78)
  have B23 := B22.put hw (k := "definedValues") (d := "Ljava/util/Set;") (by decide) (by decide) W23
  have ST23 := ST22.wr W23
  have KK23 : Keep h0 h23 [a1] := KK22.wr W23 (Or.inl (List.mem_of_getElem? (i := 0) rfl))
  have Li_b3_23 := Li_b3_22.other W23 (Ne.symm ne_b3)
  have Li_b6_23 := Li_b6_22.other W23 (Ne.symm ne_b6)
  have N23 := Fr.snoc X23 N22 g_a1
  obtain ⟨T24, h24, X24, e24, E24, A24, D24, -, st24⟩ := newO X23 hx hZ hown (hw _ (List.mem_of_getElem? (i := 37) rfl)) (hw _ (List.mem_of_getElem? (i := 38) rfl)) (hw _ (List.mem_of_getElem? (i := 39) rfl)) e23 (g := (mkF m 82 #[.val (.ref a1)] [(.ref a1)])) rfl (hb hby d1_82) (by decide) (by decide)
  obtain ⟨b24, g24⟩ : ∃ z, z = h23.size := ⟨_, rfl⟩
  rw [← g24] at A24 D24 st24
  have F_loadFactor_b24 : Fld Z h24 b24 "java/util/HashMap" "loadFactor" "F" (.float (0 : UInt32)) := D24 (Or.inr (hw _ (List.mem_of_getElem? (i := 52) rfl))) (ty := .float) (by decide)
  have E_b24 := A24
  have g_b24 : n0 ≤ b24 := Nat.le_trans Z0 (Nat.le_trans KK23.1 (Nat.le_of_eq g24.symm))
  have sz_b24 : h0.size ≤ b24 := Nat.le_trans KK23.1 (Nat.le_of_eq g24.symm)
  have ne_b24 : a1 ≠ b24 := Nat.ne_of_lt (Nat.lt_of_lt_of_le B0.1.lt sz_b24)
  have B24 := B23.ext E24
  have ST24 := ST23.ext E24
  have KK24 : Keep h0 h24 [a1] := KK23.ext E24
  have Li_b3_24 := Li_b3_23.ext E24
  have Li_b6_24 := Li_b6_23.ext E24
  obtain ⟨_, _, ⟨T25, L25, k25, n25⟩, -, X25, ⟨Lc25, hQ25, l25, y25, z25⟩, st25⟩ := X24.specialBack hx (y := (⟨"java/util/HashMap", "<init>", "()V"⟩ : MethodName)) rfl hown (mvT hZ (hw _ (List.mem_of_getElem? (i := 40) rfl))) (mvT hZ (hw _ (List.mem_of_getElem? (i := 41) rfl))) (mvT hZ (hw _ (List.mem_of_getElem? (i := 42) rfl))) (by decide) (backOf (W := 2) (rm6 l Z a0 hw [] b24 _ h24 n0 (Nat.le_trans Z0 KK24.1) E_b24 F_loadFactor_b24 g_b24) hZ (hw _ (List.mem_of_getElem? (i := 42) rfl)) (hw _ (List.mem_of_getElem? (i := 39) rfl)) (by decide) (by decide)) (g := (mkF m 86 #[.val (.ref a1)] [(.ref b24), (.ref b24), (.ref a1)])) rfl (by rw [hml]; rfl) (Steps.refl _) (a := b24) (argsL := []) (rest := [(.ref b24), (.ref a1)]) (lenOf pd_1_0 rfl) rfl (by show 2 * 0 + _ ≤ _; exact Nat.le_of_eq rfl) (hb hby d1_86) (fun _ _ => ⟨rfl, e24, (by decide : 9 + 0 ≤ _), (by decide : 55 + 0 ≤ _)⟩)
  dsimp only [Pt.U, Pt.locs, Pt.cells, Pt.slots] at X25 l25 y25 z25 st25 hQ25
  have y25' : k25 = 9 := y25
  have z25' : n25 = 55 := z25
  clear y25 z25
  subst y25' z25'
  obtain ⟨rfl, N25q, K25⟩ := hQ25
  have N25 : Fr n0 L25 := by rw [l25]; exact Fr.app N23 N25q
  clear l25
  have B25 := B24.keep K25 (fun q => ne_b24 (List.mem_singleton.mp q))
  have ST25 := own_sta_keep ST24 K25 E_b24
  have KK25 : Keep h0 T25.heap [a1] := KK24.trans K25 fun x hx => by cases List.mem_singleton.mp hx; exact Or.inr sz_b24
  have Li_b3_25 := Li_b3_24.keep K25 (fun q => Nat.ne_of_lt (Nat.lt_of_lt_of_le Li_b3_23.lt (Nat.le_of_eq g24.symm)) (List.mem_singleton.mp q))
  have Li_b6_25 := Li_b6_24.keep K25 (fun q => Nat.ne_of_lt (Nat.lt_of_lt_of_le Li_b6_23.lt (Nat.le_of_eq g24.symm)) (List.mem_singleton.mp q))
  obtain ⟨T26, h26, X26, e26, W26, st26⟩ := putF X25 hx hZ hown (host := "") (Or.inl (hw _ (List.mem_of_getElem? (i := 82) rfl))) Via.refl rfl (B25.2 ("functions", "Ljava/util/Map;") (by decide)) B25.1 (Or.inr ⟨(hw _ (List.mem_of_getElem? (i := 83) rfl)), rfl, hnm⟩) (hw _ (List.mem_of_getElem? (i := 1) rfl)) (ty := (.object "java/util/Map")) (by decide) rfl rfl (g := (mkF m 89 #[.val (.ref a1)] [(.ref b24), (.ref a1)])) rfl rfl (hb hby d1_89)
  have B26 := B25.put hw (k := "functions") (d := "Ljava/util/Map;") (by decide) (by decide) W26
  have ST26 := ST25.wr W26
  have KK26 : Keep h0 h26 [a1] := KK25.wr W26 (Or.inl (List.mem_of_getElem? (i := 0) rfl))
  have Li_b3_26 := Li_b3_25.other W26 (Ne.symm ne_b3)
  have Li_b6_26 := Li_b6_25.other W26 (Ne.symm ne_b6)
  have N26 := Fr.snoc X26 N25 g_a1
  obtain ⟨T27, h27, X27, e27, E27, A27, D27, -, st27⟩ := newO X26 hx hZ hown (hw _ (List.mem_of_getElem? (i := 61) rfl)) (hw _ (List.mem_of_getElem? (i := 62) rfl)) (hw _ (List.mem_of_getElem? (i := 63) rfl)) e26 (g := (mkF m 93 #[.val (.ref a1)] [(.ref a1)])) rfl (hb hby d1_93) (by decide) (by decide)
  obtain ⟨b27, g27⟩ : ∃ z, z = h26.size := ⟨_, rfl⟩
  rw [← g27] at A27 D27 st27
  have F_map_b27 : Fld Z h27 b27 "java/util/HashSet" "map" "Ljava/util/HashMap;" .null := D27 (Or.inl (hw _ (List.mem_of_getElem? (i := 79) rfl))) (ty := (.object "java/util/HashMap")) (by decide)
  have E_b27 := A27
  have g_b27 : n0 ≤ b27 := Nat.le_trans Z0 (Nat.le_trans KK26.1 (Nat.le_of_eq g27.symm))
  have sz_b27 : h0.size ≤ b27 := Nat.le_trans KK26.1 (Nat.le_of_eq g27.symm)
  have ne_b27 : a1 ≠ b27 := Nat.ne_of_lt (Nat.lt_of_lt_of_le B0.1.lt sz_b27)
  have B27 := B26.ext E27
  have ST27 := ST26.ext E27
  have KK27 : Keep h0 h27 [a1] := KK26.ext E27
  have Li_b3_27 := Li_b3_26.ext E27
  have Li_b6_27 := Li_b6_26.ext E27
  obtain ⟨_, _, ⟨T28, L28, k28, n28⟩, -, X28, ⟨Lc28, hQ28, l28, y28, z28⟩, st28⟩ := X27.specialBack hx (y := (⟨"java/util/HashSet", "<init>", "()V"⟩ : MethodName)) rfl hown (mvT hZ (hw _ (List.mem_of_getElem? (i := 64) rfl))) (mvT hZ (hw _ (List.mem_of_getElem? (i := 65) rfl))) (mvT hZ (hw _ (List.mem_of_getElem? (i := 66) rfl))) (by decide) (backOf (W := 2) (rm8 l Z a0 hw [] b27 _ h27 n0 (Nat.le_trans Z0 KK27.1) E_b27 F_map_b27 g_b27) hZ (hw _ (List.mem_of_getElem? (i := 66) rfl)) (hw _ (List.mem_of_getElem? (i := 63) rfl)) (by decide) (by decide)) (g := (mkF m 97 #[.val (.ref a1)] [(.ref b27), (.ref b27), (.ref a1)])) rfl (by rw [hml]; rfl) (Steps.refl _) (a := b27) (argsL := []) (rest := [(.ref b27), (.ref a1)]) (lenOf pd_1_0 rfl) rfl (by show 2 * 0 + _ ≤ _; exact Nat.le_of_eq rfl) (hb hby d1_97) (fun _ _ => ⟨rfl, e27, (by decide : 10 + 1 ≤ _), (by decide : 56 + 8 ≤ _)⟩)
  dsimp only [Pt.U, Pt.locs, Pt.cells, Pt.slots] at X28 l28 y28 z28 st28 hQ28
  have y28' : k28 = 11 := y28
  have z28' : n28 = 64 := z28
  clear y28 z28
  subst y28' z28'
  obtain ⟨rfl, N28q, K28⟩ := hQ28
  have N28 : Fr n0 L28 := by rw [l28]; exact Fr.app N26 N28q
  clear l28
  have B28 := B27.keep K28 (fun q => ne_b27 (List.mem_singleton.mp q))
  have ST28 := own_sta_keep ST27 K28 E_b27
  have KK28 : Keep h0 T28.heap [a1] := KK27.trans K28 fun x hx => by cases List.mem_singleton.mp hx; exact Or.inr sz_b27
  have Li_b3_28 := Li_b3_27.keep K28 (fun q => Nat.ne_of_lt (Nat.lt_of_lt_of_le Li_b3_26.lt (Nat.le_of_eq g27.symm)) (List.mem_singleton.mp q))
  have Li_b6_28 := Li_b6_27.keep K28 (fun q => Nat.ne_of_lt (Nat.lt_of_lt_of_le Li_b6_26.lt (Nat.le_of_eq g27.symm)) (List.mem_singleton.mp q))
  obtain ⟨T29, h29, X29, e29, W29, st29⟩ := putF X28 hx hZ hown (host := "") (Or.inl (hw _ (List.mem_of_getElem? (i := 84) rfl))) Via.refl rfl (B28.2 ("facts", "Ljava/util/Set;") (by decide)) B28.1 (Or.inr ⟨(hw _ (List.mem_of_getElem? (i := 85) rfl)), rfl, hnm⟩) (hw _ (List.mem_of_getElem? (i := 1) rfl)) (ty := (.object "java/util/Set")) (by decide) rfl rfl (g := (mkF m 100 #[.val (.ref a1)] [(.ref b27), (.ref a1)])) rfl rfl (hb hby d1_100)
  have B29 := B28.put hw (k := "facts") (d := "Ljava/util/Set;") (by decide) (by decide) W29
  have ST29 := ST28.wr W29
  have KK29 : Keep h0 h29 [a1] := KK28.wr W29 (Or.inl (List.mem_of_getElem? (i := 0) rfl))
  have Li_b3_29 := Li_b3_28.other W29 (Ne.symm ne_b3)
  have Li_b6_29 := Li_b6_28.other W29 (Ne.symm ne_b6)
  have N29 := Fr.snoc X29 N28 g_a1
  obtain ⟨T30, h30, X30, e30, E30, A30, D30, -, st30⟩ := newO X29 hx hZ hown (hw _ (List.mem_of_getElem? (i := 37) rfl)) (hw _ (List.mem_of_getElem? (i := 38) rfl)) (hw _ (List.mem_of_getElem? (i := 39) rfl)) e29 (g := (mkF m 104 #[.val (.ref a1)] [(.ref a1)])) rfl (hb hby d1_104) (by decide) (by decide)
  obtain ⟨b30, g30⟩ : ∃ z, z = h29.size := ⟨_, rfl⟩
  rw [← g30] at A30 D30 st30
  have F_loadFactor_b30 : Fld Z h30 b30 "java/util/HashMap" "loadFactor" "F" (.float (0 : UInt32)) := D30 (Or.inr (hw _ (List.mem_of_getElem? (i := 52) rfl))) (ty := .float) (by decide)
  have E_b30 := A30
  have g_b30 : n0 ≤ b30 := Nat.le_trans Z0 (Nat.le_trans KK29.1 (Nat.le_of_eq g30.symm))
  have sz_b30 : h0.size ≤ b30 := Nat.le_trans KK29.1 (Nat.le_of_eq g30.symm)
  have ne_b30 : a1 ≠ b30 := Nat.ne_of_lt (Nat.lt_of_lt_of_le B0.1.lt sz_b30)
  have B30 := B29.ext E30
  have ST30 := ST29.ext E30
  have KK30 : Keep h0 h30 [a1] := KK29.ext E30
  have Li_b3_30 := Li_b3_29.ext E30
  have Li_b6_30 := Li_b6_29.ext E30
  obtain ⟨_, _, ⟨T31, L31, k31, n31⟩, -, X31, ⟨Lc31, hQ31, l31, y31, z31⟩, st31⟩ := X30.specialBack hx (y := (⟨"java/util/HashMap", "<init>", "()V"⟩ : MethodName)) rfl hown (mvT hZ (hw _ (List.mem_of_getElem? (i := 40) rfl))) (mvT hZ (hw _ (List.mem_of_getElem? (i := 41) rfl))) (mvT hZ (hw _ (List.mem_of_getElem? (i := 42) rfl))) (by decide) (backOf (W := 2) (rm6 l Z a0 hw [] b30 _ h30 n0 (Nat.le_trans Z0 KK30.1) E_b30 F_loadFactor_b30 g_b30) hZ (hw _ (List.mem_of_getElem? (i := 42) rfl)) (hw _ (List.mem_of_getElem? (i := 39) rfl)) (by decide) (by decide)) (g := (mkF m 108 #[.val (.ref a1)] [(.ref b30), (.ref b30), (.ref a1)])) rfl (by rw [hml]; rfl) (Steps.refl _) (a := b30) (argsL := []) (rest := [(.ref b30), (.ref a1)]) (lenOf pd_1_0 rfl) rfl (by show 2 * 0 + _ ≤ _; exact Nat.le_of_eq rfl) (hb hby d1_108) (fun _ _ => ⟨rfl, e30, (by decide : 12 + 0 ≤ _), (by decide : 72 + 0 ≤ _)⟩)
  dsimp only [Pt.U, Pt.locs, Pt.cells, Pt.slots] at X31 l31 y31 z31 st31 hQ31
  have y31' : k31 = 12 := y31
  have z31' : n31 = 72 := z31
  clear y31 z31
  subst y31' z31'
  obtain ⟨rfl, N31q, K31⟩ := hQ31
  have N31 : Fr n0 L31 := by rw [l31]; exact Fr.app N29 N31q
  clear l31
  have B31 := B30.keep K31 (fun q => ne_b30 (List.mem_singleton.mp q))
  have ST31 := own_sta_keep ST30 K31 E_b30
  have KK31 : Keep h0 T31.heap [a1] := KK30.trans K31 fun x hx => by cases List.mem_singleton.mp hx; exact Or.inr sz_b30
  have Li_b3_31 := Li_b3_30.keep K31 (fun q => Nat.ne_of_lt (Nat.lt_of_lt_of_le Li_b3_29.lt (Nat.le_of_eq g30.symm)) (List.mem_singleton.mp q))
  have Li_b6_31 := Li_b6_30.keep K31 (fun q => Nat.ne_of_lt (Nat.lt_of_lt_of_le Li_b6_29.lt (Nat.le_of_eq g30.symm)) (List.mem_singleton.mp q))
  obtain ⟨T32, h32, X32, e32, W32, st32⟩ := putF X31 hx hZ hown (host := "") (Or.inl (hw _ (List.mem_of_getElem? (i := 86) rfl))) Via.refl rfl (B31.2 ("placeholders", "Ljava/util/Map;") (by decide)) B31.1 (Or.inr ⟨(hw _ (List.mem_of_getElem? (i := 87) rfl)), rfl, hnm⟩) (hw _ (List.mem_of_getElem? (i := 1) rfl)) (ty := (.object "java/util/Map")) (by decide) rfl rfl (g := (mkF m 111 #[.val (.ref a1)] [(.ref b30), (.ref a1)])) rfl rfl (hb hby d1_111)
  have B32 := B31.put hw (k := "placeholders") (d := "Ljava/util/Map;") (by decide) (by decide) W32
  have ST32 := ST31.wr W32
  have KK32 : Keep h0 h32 [a1] := KK31.wr W32 (Or.inl (List.mem_of_getElem? (i := 0) rfl))
  have Li_b3_32 := Li_b3_31.other W32 (Ne.symm ne_b3)
  have Li_b6_32 := Li_b6_31.other W32 (Ne.symm ne_b6)
  have N32 := Fr.snoc X32 N31 g_a1
  obtain ⟨T33, h33, X33, e33, E33, A33, D33, -, st33⟩ := newO X32 hx hZ hown (hw _ (List.mem_of_getElem? (i := 61) rfl)) (hw _ (List.mem_of_getElem? (i := 62) rfl)) (hw _ (List.mem_of_getElem? (i := 63) rfl)) e32 (g := (mkF m 115 #[.val (.ref a1)] [(.ref a1)])) rfl (hb hby d1_115) (by decide) (by decide)
  obtain ⟨b33, g33⟩ : ∃ z, z = h32.size := ⟨_, rfl⟩
  rw [← g33] at A33 D33 st33
  have F_map_b33 : Fld Z h33 b33 "java/util/HashSet" "map" "Ljava/util/HashMap;" .null := D33 (Or.inl (hw _ (List.mem_of_getElem? (i := 79) rfl))) (ty := (.object "java/util/HashMap")) (by decide)
  have E_b33 := A33
  have g_b33 : n0 ≤ b33 := Nat.le_trans Z0 (Nat.le_trans KK32.1 (Nat.le_of_eq g33.symm))
  have sz_b33 : h0.size ≤ b33 := Nat.le_trans KK32.1 (Nat.le_of_eq g33.symm)
  have ne_b33 : a1 ≠ b33 := Nat.ne_of_lt (Nat.lt_of_lt_of_le B0.1.lt sz_b33)
  have B33 := B32.ext E33
  have ST33 := ST32.ext E33
  have KK33 : Keep h0 h33 [a1] := KK32.ext E33
  have Li_b3_33 := Li_b3_32.ext E33
  have Li_b6_33 := Li_b6_32.ext E33
  obtain ⟨_, _, ⟨T34, L34, k34, n34⟩, -, X34, ⟨Lc34, hQ34, l34, y34, z34⟩, st34⟩ := X33.specialBack hx (y := (⟨"java/util/HashSet", "<init>", "()V"⟩ : MethodName)) rfl hown (mvT hZ (hw _ (List.mem_of_getElem? (i := 64) rfl))) (mvT hZ (hw _ (List.mem_of_getElem? (i := 65) rfl))) (mvT hZ (hw _ (List.mem_of_getElem? (i := 66) rfl))) (by decide) (backOf (W := 2) (rm8 l Z a0 hw [] b33 _ h33 n0 (Nat.le_trans Z0 KK33.1) E_b33 F_map_b33 g_b33) hZ (hw _ (List.mem_of_getElem? (i := 66) rfl)) (hw _ (List.mem_of_getElem? (i := 63) rfl)) (by decide) (by decide)) (g := (mkF m 119 #[.val (.ref a1)] [(.ref b33), (.ref b33), (.ref a1)])) rfl (by rw [hml]; rfl) (Steps.refl _) (a := b33) (argsL := []) (rest := [(.ref b33), (.ref a1)]) (lenOf pd_1_0 rfl) rfl (by show 2 * 0 + _ ≤ _; exact Nat.le_of_eq rfl) (hb hby d1_119) (fun _ _ => ⟨rfl, e33, (by decide : 13 + 1 ≤ _), (by decide : 73 + 8 ≤ _)⟩)
  dsimp only [Pt.U, Pt.locs, Pt.cells, Pt.slots] at X34 l34 y34 z34 st34 hQ34
  have y34' : k34 = 14 := y34
  have z34' : n34 = 81 := z34
  clear y34 z34
  subst y34' z34'
  obtain ⟨rfl, N34q, K34⟩ := hQ34
  have N34 : Fr n0 L34 := by rw [l34]; exact Fr.app N32 N34q
  clear l34
  have B34 := B33.keep K34 (fun q => ne_b33 (List.mem_singleton.mp q))
  have ST34 := own_sta_keep ST33 K34 E_b33
  have KK34 : Keep h0 T34.heap [a1] := KK33.trans K34 fun x hx => by cases List.mem_singleton.mp hx; exact Or.inr sz_b33
  have Li_b3_34 := Li_b3_33.keep K34 (fun q => Nat.ne_of_lt (Nat.lt_of_lt_of_le Li_b3_32.lt (Nat.le_of_eq g33.symm)) (List.mem_singleton.mp q))
  have Li_b6_34 := Li_b6_33.keep K34 (fun q => Nat.ne_of_lt (Nat.lt_of_lt_of_le Li_b6_32.lt (Nat.le_of_eq g33.symm)) (List.mem_singleton.mp q))
  obtain ⟨T35, h35, X35, e35, W35, st35⟩ := putF X34 hx hZ hown (host := "") (Or.inl (hw _ (List.mem_of_getElem? (i := 88) rfl))) Via.refl rfl (B34.2 ("letNamesInUse", "Ljava/util/Set;") (by decide)) B34.1 (Or.inr ⟨(hw _ (List.mem_of_getElem? (i := 89) rfl)), rfl, hnm⟩) (hw _ (List.mem_of_getElem? (i := 1) rfl)) (ty := (.object "java/util/Set")) (by decide) rfl rfl (g := (mkF m 122 #[.val (.ref a1)] [(.ref b33), (.ref a1)])) rfl rfl (hb hby d1_122)
  have B35 := B34.put hw (k := "letNamesInUse") (d := "Ljava/util/Set;") (by decide) (by decide) W35
  have ST35 := ST34.wr W35
  have KK35 : Keep h0 h35 [a1] := KK34.wr W35 (Or.inl (List.mem_of_getElem? (i := 0) rfl))
  have Li_b3_35 := Li_b3_34.other W35 (Ne.symm ne_b3)
  have Li_b6_35 := Li_b6_34.other W35 (Ne.symm ne_b6)
  have N35 := Fr.snoc X35 N34 g_a1
  obtain ⟨T36, h36, X36, e36, E36, A36, D36, -, st36⟩ := newO X35 hx hZ hown (hw _ (List.mem_of_getElem? (i := 90) rfl)) (hw _ (List.mem_of_getElem? (i := 91) rfl)) (hw _ (List.mem_of_getElem? (i := 92) rfl)) e35 (g := (mkF m 126 #[.val (.ref a1)] [(.ref a1)])) rfl (hb hby d1_126) (by decide) (by decide)
  obtain ⟨b36, g36⟩ : ∃ z, z = h35.size := ⟨_, rfl⟩
  rw [← g36] at A36 D36 st36
  have F_this_0_b36 : Fld Z h36 b36 "com/example/steplint/steplint/prove/SmtScript$SharedForms" "this$0" "Lcom/example/steplint/steplint/prove/SmtScript;" .null := D36 (Or.inr (hw _ (List.mem_of_getElem? (i := 97) rfl))) (ty := (.object "com/example/steplint/steplint/prove/SmtScript")) (by decide)
  have F_atoms_b36 : Fld Z h36 b36 "com/example/steplint/steplint/prove/SmtScript$SharedForms" "atoms" "Ljava/util/Map;" .null := D36 (Or.inr (hw _ (List.mem_of_getElem? (i := 102) rfl))) (ty := (.object "java/util/Map")) (by decide)
  have F_lists_b36 : Fld Z h36 b36 "com/example/steplint/steplint/prove/SmtScript$SharedForms" "lists" "Ljava/util/Map;" .null := D36 (Or.inr (hw _ (List.mem_of_getElem? (i := 104) rfl))) (ty := (.object "java/util/Map")) (by decide)
  have E_b36 := A36
  have g_b36 : n0 ≤ b36 := Nat.le_trans Z0 (Nat.le_trans KK35.1 (Nat.le_of_eq g36.symm))
  have sz_b36 : h0.size ≤ b36 := Nat.le_trans KK35.1 (Nat.le_of_eq g36.symm)
  have ne_b36 : a1 ≠ b36 := Nat.ne_of_lt (Nat.lt_of_lt_of_le B0.1.lt sz_b36)
  have B36 := B35.ext E36
  have ST36 := ST35.ext E36
  have KK36 : Keep h0 h36 [a1] := KK35.ext E36
  have Li_b3_36 := Li_b3_35.ext E36
  have Li_b6_36 := Li_b6_35.ext E36
  obtain ⟨_, _, ⟨T37, L37, k37, n37⟩, -, X37, ⟨Lc37, hQ37, l37, y37, z37⟩, st37⟩ := own_specialRef X36 hx hZ (y := (⟨"com/example/steplint/steplint/prove/SmtScript$SharedForms", "<init>", "(Lcom/example/steplint/steplint/prove/SmtScript;)V"⟩ : MethodName)) rfl hown (hw _ (List.mem_of_getElem? (i := 93) rfl)) (hw _ (List.mem_of_getElem? (i := 94) rfl)) (mvT hZ (hw _ (List.mem_of_getElem? (i := 94) rfl))) (mvT hZ (hw _ (List.mem_of_getElem? (i := 95) rfl))) (by decide) (backOf (W := 2) (rm10 l Z a0 hw [] b36 a1 _ _ _ h36 n0 (Nat.le_trans Z0 KK36.1) E_b36 F_this_0_b36 g_b36 F_atoms_b36 F_lists_b36) hZ (hw _ (List.mem_of_getElem? (i := 95) rfl)) (hw _ (List.mem_of_getElem? (i := 92) rfl)) (by decide) (by decide)) (g := (mkF m 131 #[.val (.ref a1)] [(.ref a1), (.ref b36), (.ref b36), (.ref a1)])) rfl (by rw [hml]; rfl) (Steps.refl _) (a := b36) (argsL := [(.ref a1)]) (rest := [(.ref b36), (.ref a1)]) (lenOf pd_1_1 rfl) rfl (by show 2 * 0 + _ ≤ _; exact Nat.le_of_eq rfl) (hb hby d1_131) (fun _ _ => ⟨rfl, e36, (by decide : 15 + 2 ≤ _), (by decide : 84 + 16 ≤ _)⟩)
  dsimp only [Pt.U, Pt.locs, Pt.cells, Pt.slots] at X37 l37 y37 z37 st37 hQ37
  have y37' : k37 = 17 := y37
  have z37' : n37 = 100 := z37
  clear y37 z37
  subst y37' z37'
  obtain ⟨rfl, N37q, K37⟩ := hQ37
  have N37 : Fr n0 L37 := by rw [l37]; exact Fr.app N35 N37q
  clear l37
  have B37 := B36.keep K37 (fun q => ne_b36 (List.mem_singleton.mp q))
  have ST37 := own_sta_keep ST36 K37 E_b36
  have KK37 : Keep h0 T37.heap [a1] := KK36.trans K37 fun x hx => by cases List.mem_singleton.mp hx; exact Or.inr sz_b36
  have Li_b3_37 := Li_b3_36.keep K37 (fun q => Nat.ne_of_lt (Nat.lt_of_lt_of_le Li_b3_35.lt (Nat.le_of_eq g36.symm)) (List.mem_singleton.mp q))
  have Li_b6_37 := Li_b6_36.keep K37 (fun q => Nat.ne_of_lt (Nat.lt_of_lt_of_le Li_b6_35.lt (Nat.le_of_eq g36.symm)) (List.mem_singleton.mp q))
  obtain ⟨T38, h38, X38, e38, W38, st38⟩ := putF X37 hx hZ hown (host := "") (Or.inl (hw _ (List.mem_of_getElem? (i := 105) rfl))) Via.refl rfl (B37.2 ("sharedForms", "Lcom/example/steplint/steplint/prove/SmtScript$SharedForms;") (by decide)) B37.1 (Or.inr ⟨(hw _ (List.mem_of_getElem? (i := 106) rfl)), rfl, hnm⟩) (hw _ (List.mem_of_getElem? (i := 1) rfl)) (ty := (.object "com/example/steplint/steplint/prove/SmtScript$SharedForms")) (by decide) rfl rfl (g := (mkF m 134 #[.val (.ref a1)] [(.ref b36), (.ref a1)])) rfl rfl (hb hby d1_134)
  have B38 := B37.put hw (k := "sharedForms") (d := "Lcom/example/steplint/steplint/prove/SmtScript$SharedForms;") (by decide) (by decide) W38
  have ST38 := ST37.wr W38
  have KK38 : Keep h0 h38 [a1] := KK37.wr W38 (Or.inl (List.mem_of_getElem? (i := 0) rfl))
  have Li_b3_38 := Li_b3_37.other W38 (Ne.symm ne_b3)
  have Li_b6_38 := Li_b6_37.other W38 (Ne.symm ne_b6)
  have N38 := Fr.snoc X38 N37 g_a1
  obtain ⟨T39, h39, X39, e39, E39, A39, D39, -, st39⟩ := newO X38 hx hZ hown (hw _ (List.mem_of_getElem? (i := 9) rfl)) (hw _ (List.mem_of_getElem? (i := 10) rfl)) (hw _ (List.mem_of_getElem? (i := 11) rfl)) e38 (g := (mkF m 138 #[.val (.ref a1)] [(.ref a1)])) rfl (hb hby d1_138) (by decide) (by decide)
  obtain ⟨b39, g39⟩ : ∃ z, z = h38.size := ⟨_, rfl⟩
  rw [← g39] at A39 D39 st39
  have F_modCount_b39 : Fld Z h39 b39 "java/util/AbstractList" "modCount" "I" (.int (0 : Int32)) := D39 (Or.inl (hw _ (List.mem_of_getElem? (i := 29) rfl))) (ty := .int) (by decide)
  have F_elementData_b39 : Fld Z h39 b39 "java/util/ArrayList" "elementData" "[Ljava/lang/Object;" .null := D39 (Or.inl (hw _ (List.mem_of_getElem? (i := 32) rfl))) (ty := (.array (.object "java/lang/Object"))) (by decide)
  have F_size_b39 : Fld Z h39 b39 "java/util/ArrayList" "size" "I" (.int (0 : Int32)) := D39 (Or.inl (hw _ (List.mem_of_getElem? (i := 141) rfl))) (ty := .int) (by decide)
  have E_b39 := A39
  have g_b39 : n0 ≤ b39 := Nat.le_trans Z0 (Nat.le_trans KK38.1 (Nat.le_of_eq g39.symm))
  have sz_b39 : h0.size ≤ b39 := Nat.le_trans KK38.1 (Nat.le_of_eq g39.symm)
  have ne_b39 : a1 ≠ b39 := Nat.ne_of_lt (Nat.lt_of_lt_of_le B0.1.lt sz_b39)
  have B39 := B38.ext E39
  have ST39 := ST38.ext E39
  have KK39 : Keep h0 h39 [a1] := KK38.ext E39
  have Li_b3_39 := Li_b3_38.ext E39
  have Li_b6_39 := Li_b6_38.ext E39
  obtain ⟨_, _, ⟨T40, L40, k40, n40⟩, -, X40, ⟨Lc40, hQ40, l40, y40, z40⟩, st40⟩ := X39.specialBack hx (y := (⟨"java/util/ArrayList", "<init>", "()V"⟩ : MethodName)) rfl hown (mvT hZ (hw _ (List.mem_of_getElem? (i := 12) rfl))) (mvT hZ (hw _ (List.mem_of_getElem? (i := 13) rfl))) (mvT hZ (hw _ (List.mem_of_getElem? (i := 14) rfl))) (by decide) (backOf (W := 2) (rm3 l Z a0 hw [] b39 w3 _ h39 n0 (Nat.le_trans Z0 KK39.1) ST39 E_b39 F_elementData_b39 g_b39 F_modCount_b39 F_size_b39) hZ (hw _ (List.mem_of_getElem? (i := 14) rfl)) (hw _ (List.mem_of_getElem? (i := 11) rfl)) (by decide) (by decide)) (g := (mkF m 142 #[.val (.ref a1)] [(.ref b39), (.ref b39), (.ref a1)])) rfl (by rw [hml]; rfl) (Steps.refl _) (a := b39) (argsL := []) (rest := [(.ref b39), (.ref a1)]) (lenOf pd_1_0 rfl) rfl (by show 2 * 0 + _ ≤ _; exact Nat.le_of_eq rfl) (hb hby d1_142) (fun _ _ => ⟨rfl, e39, (by decide : 18 + 0 ≤ _), (by decide : 103 + 0 ≤ _)⟩)
  dsimp only [Pt.U, Pt.locs, Pt.cells, Pt.slots] at X40 l40 y40 z40 st40 hQ40
  have y40' : k40 = 18 := y40
  have z40' : n40 = 103 := z40
  clear y40 z40
  subst y40' z40'
  obtain ⟨rfl, N40q, K40, Li_b39_40⟩ := hQ40
  have N40 : Fr n0 L40 := by rw [l40]; exact Fr.app N38 N40q
  clear l40
  have B40 := B39.keep K40 (fun q => ne_b39 (List.mem_singleton.mp q))
  have ST40 := own_sta_keep ST39 K40 E_b39
  have KK40 : Keep h0 T40.heap [a1] := KK39.trans K40 fun x hx => by cases List.mem_singleton.mp hx; exact Or.inr sz_b39
  have Li_b3_40 := Li_b3_39.keep K40 (fun q => Nat.ne_of_lt (Nat.lt_of_lt_of_le Li_b3_38.lt (Nat.le_of_eq g39.symm)) (List.mem_singleton.mp q))
  have Li_b6_40 := Li_b6_39.keep K40 (fun q => Nat.ne_of_lt (Nat.lt_of_lt_of_le Li_b6_38.lt (Nat.le_of_eq g39.symm)) (List.mem_singleton.mp q))
  obtain ⟨T41, h41, X41, e41, W41, st41⟩ := putF X40 hx hZ hown (host := "") (Or.inl (hw _ (List.mem_of_getElem? (i := 107) rfl))) Via.refl rfl (B40.2 ("sizeNotes", "Ljava/util/List;") (by decide)) B40.1 (Or.inr ⟨(hw _ (List.mem_of_getElem? (i := 108) rfl)), rfl, hnm⟩) (hw _ (List.mem_of_getElem? (i := 1) rfl)) (ty := (.object "java/util/List")) (by decide) rfl rfl (g := (mkF m 145 #[.val (.ref a1)] [(.ref b39), (.ref a1)])) rfl rfl (hb hby d1_145)
  have B41 := B40.put hw (k := "sizeNotes") (d := "Ljava/util/List;") (by decide) (by decide) W41
  have ST41 := ST40.wr W41
  have KK41 : Keep h0 h41 [a1] := KK40.wr W41 (Or.inl (List.mem_of_getElem? (i := 0) rfl))
  have Li_b3_41 := Li_b3_40.other W41 (Ne.symm ne_b3)
  have Li_b6_41 := Li_b6_40.other W41 (Ne.symm ne_b6)
  have Li_b39_41 := Li_b39_40.other W41 (Ne.symm ne_b39)
  have N41 := Fr.snoc X41 N40 g_a1
  obtain ⟨T42, h42, X42, e42, E42, A42, D42, -, st42⟩ := newO X41 hx hZ hown (hw _ (List.mem_of_getElem? (i := 61) rfl)) (hw _ (List.mem_of_getElem? (i := 62) rfl)) (hw _ (List.mem_of_getElem? (i := 63) rfl)) e41 (g := (mkF m 149 #[.val (.ref a1)] [(.ref a1)])) rfl (hb hby d1_149) (by decide) (by decide)
  obtain ⟨b42, g42⟩ : ∃ z, z = h41.size := ⟨_, rfl⟩
  rw [← g42] at A42 D42 st42
  have F_map_b42 : Fld Z h42 b42 "java/util/HashSet" "map" "Ljava/util/HashMap;" .null := D42 (Or.inl (hw _ (List.mem_of_getElem? (i := 79) rfl))) (ty := (.object "java/util/HashMap")) (by decide)
  have E_b42 := A42
  have g_b42 : n0 ≤ b42 := Nat.le_trans Z0 (Nat.le_trans KK41.1 (Nat.le_of_eq g42.symm))
  have sz_b42 : h0.size ≤ b42 := Nat.le_trans KK41.1 (Nat.le_of_eq g42.symm)
  have ne_b42 : a1 ≠ b42 := Nat.ne_of_lt (Nat.lt_of_lt_of_le B0.1.lt sz_b42)
  have B42 := B41.ext E42
  have ST42 := ST41.ext E42
  have KK42 : Keep h0 h42 [a1] := KK41.ext E42
  have Li_b3_42 := Li_b3_41.ext E42
  have Li_b6_42 := Li_b6_41.ext E42
  have Li_b39_42 := Li_b39_41.ext E42
  obtain ⟨_, _, ⟨T43, L43, k43, n43⟩, -, X43, ⟨Lc43, hQ43, l43, y43, z43⟩, st43⟩ := X42.specialBack hx (y := (⟨"java/util/HashSet", "<init>", "()V"⟩ : MethodName)) rfl hown (mvT hZ (hw _ (List.mem_of_getElem? (i := 64) rfl))) (mvT hZ (hw _ (List.mem_of_getElem? (i := 65) rfl))) (mvT hZ (hw _ (List.mem_of_getElem? (i := 66) rfl))) (by decide) (backOf (W := 2) (rm8 l Z a0 hw [] b42 _ h42 n0 (Nat.le_trans Z0 KK42.1) E_b42 F_map_b42 g_b42) hZ (hw _ (List.mem_of_getElem? (i := 66) rfl)) (hw _ (List.mem_of_getElem? (i := 63) rfl)) (by decide) (by decide)) (g := (mkF m 153 #[.val (.ref a1)] [(.ref b42), (.ref b42), (.ref a1)])) rfl (by rw [hml]; rfl) (Steps.refl _) (a := b42) (argsL := []) (rest := [(.ref b42), (.ref a1)]) (lenOf pd_1_0 rfl) rfl (by show 2 * 0 + _ ≤ _; exact Nat.le_of_eq rfl) (hb hby d1_153) (fun _ _ => ⟨rfl, e42, (by decide : 19 + 1 ≤ _), (by decide : 104 + 8 ≤ _)⟩)
  dsimp only [Pt.U, Pt.locs, Pt.cells, Pt.slots] at X43 l43 y43 z43 st43 hQ43
  have y43' : k43 = 20 := y43
  have z43' : n43 = 112 := z43
  clear y43 z43
  subst y43' z43'
  obtain ⟨rfl, N43q, K43⟩ := hQ43
  have N43 : Fr n0 L43 := by rw [l43]; exact Fr.app N41 N43q
  clear l43
  have B43 := B42.keep K43 (fun q => ne_b42 (List.mem_singleton.mp q))
  have ST43 := own_sta_keep ST42 K43 E_b42
  have KK43 : Keep h0 T43.heap [a1] := KK42.trans K43 fun x hx => by cases List.mem_singleton.mp hx; exact Or.inr sz_b42
  have Li_b3_43 := Li_b3_42.keep K43 (fun q => Nat.ne_of_lt (Nat.lt_of_lt_of_le Li_b3_41.lt (Nat.le_of_eq g42.symm)) (List.mem_singleton.mp q))
  have Li_b6_43 := Li_b6_42.keep K43 (fun q => Nat.ne_of_lt (Nat.lt_of_lt_of_le Li_b6_41.lt (Nat.le_of_eq g42.symm)) (List.mem_singleton.mp q))
  have Li_b39_43 := Li_b39_42.keep K43 (fun q => Nat.ne_of_lt (Nat.lt_of_lt_of_le Li_b39_41.lt (Nat.le_of_eq g42.symm)) (List.mem_singleton.mp q))
  obtain ⟨T44, h44, X44, e44, W44, st44⟩ := putF X43 hx hZ hown (host := "") (Or.inl (hw _ (List.mem_of_getElem? (i := 109) rfl))) Via.refl rfl (B43.2 ("sizeKeys", "Ljava/util/Set;") (by decide)) B43.1 (Or.inr ⟨(hw _ (List.mem_of_getElem? (i := 110) rfl)), rfl, hnm⟩) (hw _ (List.mem_of_getElem? (i := 1) rfl)) (ty := (.object "java/util/Set")) (by decide) rfl rfl (g := (mkF m 156 #[.val (.ref a1)] [(.ref b42), (.ref a1)])) rfl rfl (hb hby d1_156)
  have B44 := B43.put hw (k := "sizeKeys") (d := "Ljava/util/Set;") (by decide) (by decide) W44
  have ST44 := ST43.wr W44
  have KK44 : Keep h0 h44 [a1] := KK43.wr W44 (Or.inl (List.mem_of_getElem? (i := 0) rfl))
  have Li_b3_44 := Li_b3_43.other W44 (Ne.symm ne_b3)
  have Li_b6_44 := Li_b6_43.other W44 (Ne.symm ne_b6)
  have Li_b39_44 := Li_b39_43.other W44 (Ne.symm ne_b39)
  have N44 := Fr.snoc X44 N43 g_a1
  obtain ⟨T45, h45, X45, e45, E45, A45, D45, -, st45⟩ := newO X44 hx hZ hown (hw _ (List.mem_of_getElem? (i := 61) rfl)) (hw _ (List.mem_of_getElem? (i := 62) rfl)) (hw _ (List.mem_of_getElem? (i := 63) rfl)) e44 (g := (mkF m 160 #[.val (.ref a1)] [(.ref a1)])) rfl (hb hby d1_160) (by decide) (by decide)
  obtain ⟨b45, g45⟩ : ∃ z, z = h44.size := ⟨_, rfl⟩
  rw [← g45] at A45 D45 st45
  have F_map_b45 : Fld Z h45 b45 "java/util/HashSet" "map" "Ljava/util/HashMap;" .null := D45 (Or.inl (hw _ (List.mem_of_getElem? (i := 79) rfl))) (ty := (.object "java/util/HashMap")) (by decide)
  have E_b45 := A45
  have g_b45 : n0 ≤ b45 := Nat.le_trans Z0 (Nat.le_trans KK44.1 (Nat.le_of_eq g45.symm))
  have sz_b45 : h0.size ≤ b45 := Nat.le_trans KK44.1 (Nat.le_of_eq g45.symm)
  have ne_b45 : a1 ≠ b45 := Nat.ne_of_lt (Nat.lt_of_lt_of_le B0.1.lt sz_b45)
  have B45 := B44.ext E45
  have ST45 := ST44.ext E45
  have KK45 : Keep h0 h45 [a1] := KK44.ext E45
  have Li_b3_45 := Li_b3_44.ext E45
  have Li_b6_45 := Li_b6_44.ext E45
  have Li_b39_45 := Li_b39_44.ext E45
  obtain ⟨_, _, ⟨T46, L46, k46, n46⟩, -, X46, ⟨Lc46, hQ46, l46, y46, z46⟩, st46⟩ := X45.specialBack hx (y := (⟨"java/util/HashSet", "<init>", "()V"⟩ : MethodName)) rfl hown (mvT hZ (hw _ (List.mem_of_getElem? (i := 64) rfl))) (mvT hZ (hw _ (List.mem_of_getElem? (i := 65) rfl))) (mvT hZ (hw _ (List.mem_of_getElem? (i := 66) rfl))) (by decide) (backOf (W := 2) (rm8 l Z a0 hw [] b45 _ h45 n0 (Nat.le_trans Z0 KK45.1) E_b45 F_map_b45 g_b45) hZ (hw _ (List.mem_of_getElem? (i := 66) rfl)) (hw _ (List.mem_of_getElem? (i := 63) rfl)) (by decide) (by decide)) (g := (mkF m 164 #[.val (.ref a1)] [(.ref b45), (.ref b45), (.ref a1)])) rfl (by rw [hml]; rfl) (Steps.refl _) (a := b45) (argsL := []) (rest := [(.ref b45), (.ref a1)]) (lenOf pd_1_0 rfl) rfl (by show 2 * 0 + _ ≤ _; exact Nat.le_of_eq rfl) (hb hby d1_164) (fun _ _ => ⟨rfl, e45, (by decide : 21 + 1 ≤ _), (by decide : 113 + 8 ≤ _)⟩)
  dsimp only [Pt.U, Pt.locs, Pt.cells, Pt.slots] at X46 l46 y46 z46 st46 hQ46
  have y46' : k46 = 22 := y46
  have z46' : n46 = 121 := z46
  clear y46 z46
  subst y46' z46'
  obtain ⟨rfl, N46q, K46⟩ := hQ46
  have N46 : Fr n0 L46 := by rw [l46]; exact Fr.app N44 N46q
  clear l46
  have B46 := B45.keep K46 (fun q => ne_b45 (List.mem_singleton.mp q))
  have ST46 := own_sta_keep ST45 K46 E_b45
  have KK46 : Keep h0 T46.heap [a1] := KK45.trans K46 fun x hx => by cases List.mem_singleton.mp hx; exact Or.inr sz_b45
  have Li_b3_46 := Li_b3_45.keep K46 (fun q => Nat.ne_of_lt (Nat.lt_of_lt_of_le Li_b3_44.lt (Nat.le_of_eq g45.symm)) (List.mem_singleton.mp q))
  have Li_b6_46 := Li_b6_45.keep K46 (fun q => Nat.ne_of_lt (Nat.lt_of_lt_of_le Li_b6_44.lt (Nat.le_of_eq g45.symm)) (List.mem_singleton.mp q))
  have Li_b39_46 := Li_b39_45.keep K46 (fun q => Nat.ne_of_lt (Nat.lt_of_lt_of_le Li_b39_44.lt (Nat.le_of_eq g45.symm)) (List.mem_singleton.mp q))
  obtain ⟨T47, h47, X47, e47, W47, st47⟩ := putF X46 hx hZ hown (host := "") (Or.inl (hw _ (List.mem_of_getElem? (i := 111) rfl))) Via.refl rfl (B46.2 ("sizedTerms", "Ljava/util/Set;") (by decide)) B46.1 (Or.inr ⟨(hw _ (List.mem_of_getElem? (i := 112) rfl)), rfl, hnm⟩) (hw _ (List.mem_of_getElem? (i := 1) rfl)) (ty := (.object "java/util/Set")) (by decide) rfl rfl (g := (mkF m 167 #[.val (.ref a1)] [(.ref b45), (.ref a1)])) rfl rfl (hb hby d1_167)
  have B47 := B46.put hw (k := "sizedTerms") (d := "Ljava/util/Set;") (by decide) (by decide) W47
  have ST47 := ST46.wr W47
  have KK47 : Keep h0 h47 [a1] := KK46.wr W47 (Or.inl (List.mem_of_getElem? (i := 0) rfl))
  have Li_b3_47 := Li_b3_46.other W47 (Ne.symm ne_b3)
  have Li_b6_47 := Li_b6_46.other W47 (Ne.symm ne_b6)
  have Li_b39_47 := Li_b39_46.other W47 (Ne.symm ne_b39)
  have N47 := Fr.snoc X47 N46 g_a1
  obtain ⟨T48, h48, X48, e48, E48, A48, D48, -, st48⟩ := newO X47 hx hZ hown (hw _ (List.mem_of_getElem? (i := 37) rfl)) (hw _ (List.mem_of_getElem? (i := 38) rfl)) (hw _ (List.mem_of_getElem? (i := 39) rfl)) e47 (g := (mkF m 171 #[.val (.ref a1)] [(.ref a1)])) rfl (hb hby d1_171) (by decide) (by decide)
  obtain ⟨b48, g48⟩ : ∃ z, z = h47.size := ⟨_, rfl⟩
  rw [← g48] at A48 D48 st48
  have F_loadFactor_b48 : Fld Z h48 b48 "java/util/HashMap" "loadFactor" "F" (.float (0 : UInt32)) := D48 (Or.inr (hw _ (List.mem_of_getElem? (i := 52) rfl))) (ty := .float) (by decide)
  have E_b48 := A48
  have g_b48 : n0 ≤ b48 := Nat.le_trans Z0 (Nat.le_trans KK47.1 (Nat.le_of_eq g48.symm))
  have sz_b48 : h0.size ≤ b48 := Nat.le_trans KK47.1 (Nat.le_of_eq g48.symm)
  have ne_b48 : a1 ≠ b48 := Nat.ne_of_lt (Nat.lt_of_lt_of_le B0.1.lt sz_b48)
  have B48 := B47.ext E48
  have ST48 := ST47.ext E48
  have KK48 : Keep h0 h48 [a1] := KK47.ext E48
  have Li_b3_48 := Li_b3_47.ext E48
  have Li_b6_48 := Li_b6_47.ext E48
  have Li_b39_48 := Li_b39_47.ext E48
  obtain ⟨_, _, ⟨T49, L49, k49, n49⟩, -, X49, ⟨Lc49, hQ49, l49, y49, z49⟩, st49⟩ := X48.specialBack hx (y := (⟨"java/util/HashMap", "<init>", "()V"⟩ : MethodName)) rfl hown (mvT hZ (hw _ (List.mem_of_getElem? (i := 40) rfl))) (mvT hZ (hw _ (List.mem_of_getElem? (i := 41) rfl))) (mvT hZ (hw _ (List.mem_of_getElem? (i := 42) rfl))) (by decide) (backOf (W := 2) (rm6 l Z a0 hw [] b48 _ h48 n0 (Nat.le_trans Z0 KK48.1) E_b48 F_loadFactor_b48 g_b48) hZ (hw _ (List.mem_of_getElem? (i := 42) rfl)) (hw _ (List.mem_of_getElem? (i := 39) rfl)) (by decide) (by decide)) (g := (mkF m 175 #[.val (.ref a1)] [(.ref b48), (.ref b48), (.ref a1)])) rfl (by rw [hml]; rfl) (Steps.refl _) (a := b48) (argsL := []) (rest := [(.ref b48), (.ref a1)]) (lenOf pd_1_0 rfl) rfl (by show 2 * 0 + _ ≤ _; exact Nat.le_of_eq rfl) (hb hby d1_175) (fun _ _ => ⟨rfl, e48, (by decide : 23 + 0 ≤ _), (by decide : 129 + 0 ≤ _)⟩)
  dsimp only [Pt.U, Pt.locs, Pt.cells, Pt.slots] at X49 l49 y49 z49 st49 hQ49
  have y49' : k49 = 23 := y49
  have z49' : n49 = 129 := z49
  clear y49 z49
  subst y49' z49'
  obtain ⟨rfl, N49q, K49⟩ := hQ49
  have N49 : Fr n0 L49 := by rw [l49]; exact Fr.app N47 N49q
  clear l49
  have B49 := B48.keep K49 (fun q => ne_b48 (List.mem_singleton.mp q))
  have ST49 := own_sta_keep ST48 K49 E_b48
  have KK49 : Keep h0 T49.heap [a1] := KK48.trans K49 fun x hx => by cases List.mem_singleton.mp hx; exact Or.inr sz_b48
  have Li_b3_49 := Li_b3_48.keep K49 (fun q => Nat.ne_of_lt (Nat.lt_of_lt_of_le Li_b3_47.lt (Nat.le_of_eq g48.symm)) (List.mem_singleton.mp q))
  have Li_b6_49 := Li_b6_48.keep K49 (fun q => Nat.ne_of_lt (Nat.lt_of_lt_of_le Li_b6_47.lt (Nat.le_of_eq g48.symm)) (List.mem_singleton.mp q))
  have Li_b39_49 := Li_b39_48.keep K49 (fun q => Nat.ne_of_lt (Nat.lt_of_lt_of_le Li_b39_47.lt (Nat.le_of_eq g48.symm)) (List.mem_singleton.mp q))
  obtain ⟨T50, h50, X50, e50, W50, st50⟩ := putF X49 hx hZ hown (host := "") (Or.inl (hw _ (List.mem_of_getElem? (i := 113) rfl))) Via.refl rfl (B49.2 ("countedSets", "Ljava/util/Map;") (by decide)) B49.1 (Or.inr ⟨(hw _ (List.mem_of_getElem? (i := 114) rfl)), rfl, hnm⟩) (hw _ (List.mem_of_getElem? (i := 1) rfl)) (ty := (.object "java/util/Map")) (by decide) rfl rfl (g := (mkF m 178 #[.val (.ref a1)] [(.ref b48), (.ref a1)])) rfl rfl (hb hby d1_178)
  have B50 := B49.put hw (k := "countedSets") (d := "Ljava/util/Map;") (by decide) (by decide) W50
  have ST50 := ST49.wr W50
  have KK50 : Keep h0 h50 [a1] := KK49.wr W50 (Or.inl (List.mem_of_getElem? (i := 0) rfl))
  have Li_b3_50 := Li_b3_49.other W50 (Ne.symm ne_b3)
  have Li_b6_50 := Li_b6_49.other W50 (Ne.symm ne_b6)
  have Li_b39_50 := Li_b39_49.other W50 (Ne.symm ne_b39)
  have N50 := Fr.snoc X50 N49 g_a1
  obtain ⟨T51, h51, X51, e51, E51, A51, D51, -, st51⟩ := newO X50 hx hZ hown (hw _ (List.mem_of_getElem? (i := 9) rfl)) (hw _ (List.mem_of_getElem? (i := 10) rfl)) (hw _ (List.mem_of_getElem? (i := 11) rfl)) e50 (g := (mkF m 182 #[.val (.ref a1)] [(.ref a1)])) rfl (hb hby d1_182) (by decide) (by decide)
  obtain ⟨b51, g51⟩ : ∃ z, z = h50.size := ⟨_, rfl⟩
  rw [← g51] at A51 D51 st51
  have F_modCount_b51 : Fld Z h51 b51 "java/util/AbstractList" "modCount" "I" (.int (0 : Int32)) := D51 (Or.inl (hw _ (List.mem_of_getElem? (i := 29) rfl))) (ty := .int) (by decide)
  have F_elementData_b51 : Fld Z h51 b51 "java/util/ArrayList" "elementData" "[Ljava/lang/Object;" .null := D51 (Or.inl (hw _ (List.mem_of_getElem? (i := 32) rfl))) (ty := (.array (.object "java/lang/Object"))) (by decide)
  have F_size_b51 : Fld Z h51 b51 "java/util/ArrayList" "size" "I" (.int (0 : Int32)) := D51 (Or.inl (hw _ (List.mem_of_getElem? (i := 141) rfl))) (ty := .int) (by decide)
  have E_b51 := A51
  have g_b51 : n0 ≤ b51 := Nat.le_trans Z0 (Nat.le_trans KK50.1 (Nat.le_of_eq g51.symm))
  have sz_b51 : h0.size ≤ b51 := Nat.le_trans KK50.1 (Nat.le_of_eq g51.symm)
  have ne_b51 : a1 ≠ b51 := Nat.ne_of_lt (Nat.lt_of_lt_of_le B0.1.lt sz_b51)
  have B51 := B50.ext E51
  have ST51 := ST50.ext E51
  have KK51 : Keep h0 h51 [a1] := KK50.ext E51
  have Li_b3_51 := Li_b3_50.ext E51
  have Li_b6_51 := Li_b6_50.ext E51
  have Li_b39_51 := Li_b39_50.ext E51
  obtain ⟨_, _, ⟨T52, L52, k52, n52⟩, -, X52, ⟨Lc52, hQ52, l52, y52, z52⟩, st52⟩ := X51.specialBack hx (y := (⟨"java/util/ArrayList", "<init>", "()V"⟩ : MethodName)) rfl hown (mvT hZ (hw _ (List.mem_of_getElem? (i := 12) rfl))) (mvT hZ (hw _ (List.mem_of_getElem? (i := 13) rfl))) (mvT hZ (hw _ (List.mem_of_getElem? (i := 14) rfl))) (by decide) (backOf (W := 2) (rm3 l Z a0 hw [] b51 w3 _ h51 n0 (Nat.le_trans Z0 KK51.1) ST51 E_b51 F_elementData_b51 g_b51 F_modCount_b51 F_size_b51) hZ (hw _ (List.mem_of_getElem? (i := 14) rfl)) (hw _ (List.mem_of_getElem? (i := 11) rfl)) (by decide) (by decide)) (g := (mkF m 186 #[.val (.ref a1)] [(.ref b51), (.ref b51), (.ref a1)])) rfl (by rw [hml]; rfl) (Steps.refl _) (a := b51) (argsL := []) (rest := [(.ref b51), (.ref a1)]) (lenOf pd_1_0 rfl) rfl (by show 2 * 0 + _ ≤ _; exact Nat.le_of_eq rfl) (hb hby d1_186) (fun _ _ => ⟨rfl, e51, (by decide : 24 + 0 ≤ _), (by decide : 132 + 0 ≤ _)⟩)
  dsimp only [Pt.U, Pt.locs, Pt.cells, Pt.slots] at X52 l52 y52 z52 st52 hQ52
  have y52' : k52 = 24 := y52
  have z52' : n52 = 132 := z52
  clear y52 z52
  subst y52' z52'
  obtain ⟨rfl, N52q, K52, Li_b51_52⟩ := hQ52
  have N52 : Fr n0 L52 := by rw [l52]; exact Fr.app N50 N52q
  clear l52
  have B52 := B51.keep K52 (fun q => ne_b51 (List.mem_singleton.mp q))
  have ST52 := own_sta_keep ST51 K52 E_b51
  have KK52 : Keep h0 T52.heap [a1] := KK51.trans K52 fun x hx => by cases List.mem_singleton.mp hx; exact Or.inr sz_b51
  have Li_b3_52 := Li_b3_51.keep K52 (fun q => Nat.ne_of_lt (Nat.lt_of_lt_of_le Li_b3_50.lt (Nat.le_of_eq g51.symm)) (List.mem_singleton.mp q))
  have Li_b6_52 := Li_b6_51.keep K52 (fun q => Nat.ne_of_lt (Nat.lt_of_lt_of_le Li_b6_50.lt (Nat.le_of_eq g51.symm)) (List.mem_singleton.mp q))
  have Li_b39_52 := Li_b39_51.keep K52 (fun q => Nat.ne_of_lt (Nat.lt_of_lt_of_le Li_b39_50.lt (Nat.le_of_eq g51.symm)) (List.mem_singleton.mp q))
  obtain ⟨T53, h53, X53, e53, W53, st53⟩ := putF X52 hx hZ hown (host := "") (Or.inl (hw _ (List.mem_of_getElem? (i := 115) rfl))) Via.refl rfl (B52.2 ("countedNotes", "Ljava/util/List;") (by decide)) B52.1 (Or.inr ⟨(hw _ (List.mem_of_getElem? (i := 116) rfl)), rfl, hnm⟩) (hw _ (List.mem_of_getElem? (i := 1) rfl)) (ty := (.object "java/util/List")) (by decide) rfl rfl (g := (mkF m 189 #[.val (.ref a1)] [(.ref b51), (.ref a1)])) rfl rfl (hb hby d1_189)
  have B53 := B52.put hw (k := "countedNotes") (d := "Ljava/util/List;") (by decide) (by decide) W53
  have ST53 := ST52.wr W53
  have KK53 : Keep h0 h53 [a1] := KK52.wr W53 (Or.inl (List.mem_of_getElem? (i := 0) rfl))
  have Li_b3_53 := Li_b3_52.other W53 (Ne.symm ne_b3)
  have Li_b6_53 := Li_b6_52.other W53 (Ne.symm ne_b6)
  have Li_b39_53 := Li_b39_52.other W53 (Ne.symm ne_b39)
  have Li_b51_53 := Li_b51_52.other W53 (Ne.symm ne_b51)
  have N53 := Fr.snoc X53 N52 g_a1
  obtain ⟨T54, h54, X54, e54, E54, A54, D54, -, st54⟩ := newO X53 hx hZ hown (hw _ (List.mem_of_getElem? (i := 61) rfl)) (hw _ (List.mem_of_getElem? (i := 62) rfl)) (hw _ (List.mem_of_getElem? (i := 63) rfl)) e53 (g := (mkF m 193 #[.val (.ref a1)] [(.ref a1)])) rfl (hb hby d1_193) (by decide) (by decide)
  obtain ⟨b54, g54⟩ : ∃ z, z = h53.size := ⟨_, rfl⟩
  rw [← g54] at A54 D54 st54
  have F_map_b54 : Fld Z h54 b54 "java/util/HashSet" "map" "Ljava/util/HashMap;" .null := D54 (Or.inl (hw _ (List.mem_of_getElem? (i := 79) rfl))) (ty := (.object "java/util/HashMap")) (by decide)
  have E_b54 := A54
  have g_b54 : n0 ≤ b54 := Nat.le_trans Z0 (Nat.le_trans KK53.1 (Nat.le_of_eq g54.symm))
  have sz_b54 : h0.size ≤ b54 := Nat.le_trans KK53.1 (Nat.le_of_eq g54.symm)
  have ne_b54 : a1 ≠ b54 := Nat.ne_of_lt (Nat.lt_of_lt_of_le B0.1.lt sz_b54)
  have B54 := B53.ext E54
  have ST54 := ST53.ext E54
  have KK54 : Keep h0 h54 [a1] := KK53.ext E54
  have Li_b3_54 := Li_b3_53.ext E54
  have Li_b6_54 := Li_b6_53.ext E54
  have Li_b39_54 := Li_b39_53.ext E54
  have Li_b51_54 := Li_b51_53.ext E54
  obtain ⟨_, _, ⟨T55, L55, k55, n55⟩, -, X55, ⟨Lc55, hQ55, l55, y55, z55⟩, st55⟩ := X54.specialBack hx (y := (⟨"java/util/HashSet", "<init>", "()V"⟩ : MethodName)) rfl hown (mvT hZ (hw _ (List.mem_of_getElem? (i := 64) rfl))) (mvT hZ (hw _ (List.mem_of_getElem? (i := 65) rfl))) (mvT hZ (hw _ (List.mem_of_getElem? (i := 66) rfl))) (by decide) (backOf (W := 2) (rm8 l Z a0 hw [] b54 _ h54 n0 (Nat.le_trans Z0 KK54.1) E_b54 F_map_b54 g_b54) hZ (hw _ (List.mem_of_getElem? (i := 66) rfl)) (hw _ (List.mem_of_getElem? (i := 63) rfl)) (by decide) (by decide)) (g := (mkF m 197 #[.val (.ref a1)] [(.ref b54), (.ref b54), (.ref a1)])) rfl (by rw [hml]; rfl) (Steps.refl _) (a := b54) (argsL := []) (rest := [(.ref b54), (.ref a1)]) (lenOf pd_1_0 rfl) rfl (by show 2 * 0 + _ ≤ _; exact Nat.le_of_eq rfl) (hb hby d1_197) (fun _ _ => ⟨rfl, e54, (by decide : 25 + 1 ≤ _), (by decide : 133 + 8 ≤ _)⟩)
  dsimp only [Pt.U, Pt.locs, Pt.cells, Pt.slots] at X55 l55 y55 z55 st55 hQ55
  have y55' : k55 = 26 := y55
  have z55' : n55 = 141 := z55
  clear y55 z55
  subst y55' z55'
  obtain ⟨rfl, N55q, K55⟩ := hQ55
  have N55 : Fr n0 L55 := by rw [l55]; exact Fr.app N53 N55q
  clear l55
  have B55 := B54.keep K55 (fun q => ne_b54 (List.mem_singleton.mp q))
  have ST55 := own_sta_keep ST54 K55 E_b54
  have KK55 : Keep h0 T55.heap [a1] := KK54.trans K55 fun x hx => by cases List.mem_singleton.mp hx; exact Or.inr sz_b54
  have Li_b3_55 := Li_b3_54.keep K55 (fun q => Nat.ne_of_lt (Nat.lt_of_lt_of_le Li_b3_53.lt (Nat.le_of_eq g54.symm)) (List.mem_singleton.mp q))
  have Li_b6_55 := Li_b6_54.keep K55 (fun q => Nat.ne_of_lt (Nat.lt_of_lt_of_le Li_b6_53.lt (Nat.le_of_eq g54.symm)) (List.mem_singleton.mp q))
  have Li_b39_55 := Li_b39_54.keep K55 (fun q => Nat.ne_of_lt (Nat.lt_of_lt_of_le Li_b39_53.lt (Nat.le_of_eq g54.symm)) (List.mem_singleton.mp q))
  have Li_b51_55 := Li_b51_54.keep K55 (fun q => Nat.ne_of_lt (Nat.lt_of_lt_of_le Li_b51_53.lt (Nat.le_of_eq g54.symm)) (List.mem_singleton.mp q))
  obtain ⟨T56, h56, X56, e56, W56, st56⟩ := putF X55 hx hZ hown (host := "") (Or.inl (hw _ (List.mem_of_getElem? (i := 117) rfl))) Via.refl rfl (B55.2 ("variableSymbols", "Ljava/util/Set;") (by decide)) B55.1 (Or.inr ⟨(hw _ (List.mem_of_getElem? (i := 118) rfl)), rfl, hnm⟩) (hw _ (List.mem_of_getElem? (i := 1) rfl)) (ty := (.object "java/util/Set")) (by decide) rfl rfl (g := (mkF m 200 #[.val (.ref a1)] [(.ref b54), (.ref a1)])) rfl rfl (hb hby d1_200)
  have B56 := B55.put hw (k := "variableSymbols") (d := "Ljava/util/Set;") (by decide) (by decide) W56
  have ST56 := ST55.wr W56
  have KK56 : Keep h0 h56 [a1] := KK55.wr W56 (Or.inl (List.mem_of_getElem? (i := 0) rfl))
  have Li_b3_56 := Li_b3_55.other W56 (Ne.symm ne_b3)
  have Li_b6_56 := Li_b6_55.other W56 (Ne.symm ne_b6)
  have Li_b39_56 := Li_b39_55.other W56 (Ne.symm ne_b39)
  have Li_b51_56 := Li_b51_55.other W56 (Ne.symm ne_b51)
  have N56 := Fr.snoc X56 N55 g_a1
  have hfin : Scr Z h56 a1 b3 b6 (0 : Int32) := ⟨B56.1, by have q := B56.2 ("names", "I") (by decide); simpa [upd, hf] using q, by have q := B56.2 ("declarations", "Ljava/util/List;") (by decide); simpa [upd] using q, by have q := B56.2 ("assertions", "Ljava/util/List;") (by decide); simpa [upd] using q, Li_b3_56, Li_b6_56, Ne.symm ne_b3, Ne.symm ne_b6⟩
  obtain ⟨fs, hr, hrun, hended, hW, hsame⟩ := X56.leave (v := none) (fun _ => rfl)
  refine ⟨_, _, pre0 _ ?_, hrun, hended, _, _, rfl, ?_, ⟨_, rfl⟩, hW, hsame.mono (by decide) (by decide)⟩
  -- 4. STEPS
  · show Steps p.tables e below (s₁.setTop (mkF m 0 #[.val (.ref a1)] [])) _
    refine XS.aloadN X0.here hx rfl (hb hby d1_0) rfl rfl ?_
    show Steps p.tables e below (s₁.setTop (mkF m 1 #[.val (.ref a1)] [(.ref a1)])) _
    refine st2 _ ?_
    show Steps p.tables e below (T2.setTop (mkF m 4 #[.val (.ref a1)] [])) _
    refine XS.aloadN X2.here hx rfl (hb hby d1_4) rfl rfl ?_
    show Steps p.tables e below (T2.setTop (mkF m 5 #[.val (.ref a1)] [(.ref a1)])) _
    refine st3 _ ?_
    show Steps p.tables e below (T3.setTop (mkF m 8 #[.val (.ref a1)] [(.ref b3), (.ref a1)])) _
    refine XS.dup X3.here hx rfl (hb hby d1_8) rfl rfl ?_
    show Steps p.tables e below (T3.setTop (mkF m 9 #[.val (.ref a1)] [(.ref b3), (.ref b3), (.ref a1)])) _
    refine st4.trans ?_
    show Steps p.tables e below (T4.setTop (mkF m 12 #[.val (.ref a1)] [(.ref b3), (.ref a1)])) _
    refine st5 _ ?_
    show Steps p.tables e below (T5.setTop (mkF m 15 #[.val (.ref a1)] [])) _
    refine XS.aloadN X5.here hx rfl (hb hby d1_15) rfl rfl ?_
    show Steps p.tables e below (T5.setTop (mkF m 16 #[.val (.ref a1)] [(.ref a1)])) _
    refine st6 _ ?_
    show Steps p.tables e below (T6.setTop (mkF m 19 #[.val (.ref a1)] [(.ref b6), (.ref a1)])) _
    refine XS.dup X6.here hx rfl (hb hby d1_19) rfl rfl ?_
    show Steps p.tables e below (T6.setTop (mkF m 20 #[.val (.ref a1)] [(.ref b6), (.ref b6), (.ref a1)])) _
    refine st7.trans ?_
    show Steps p.tables e below (T7.setTop (mkF m 23 #[.val (.ref a1)] [(.ref b6), (.ref a1)])) _
    refine st8 _ ?_
    show Steps p.tables e below (T8.setTop (mkF m 26 #[.val (.ref a1)] [])) _
    refine XS.aloadN X8.here hx rfl (hb hby d1_26) rfl rfl ?_
    show Steps p.tables e below (T8.setTop (mkF m 27 #[.val (.ref a1)] [(.ref a1)])) _
    refine st9 _ ?_
    show Steps p.tables e below (T9.setTop (mkF m 30 #[.val (.ref a1)] [(.ref b9), (.ref a1)])) _
    refine XS.dup X9.here hx rfl (hb hby d1_30) rfl rfl ?_
    show Steps p.tables e below (T9.setTop (mkF m 31 #[.val (.ref a1)] [(.ref b9), (.ref b9), (.ref a1)])) _
    refine st10.trans ?_
    show Steps p.tables e below (T10.setTop (mkF m 34 #[.val (.ref a1)] [(.ref b9), (.ref a1)])) _
    refine st11 _ ?_
    show Steps p.tables e below (T11.setTop (mkF m 37 #[.val (.ref a1)] [])) _
    refine XS.aloadN X11.here hx rfl (hb hby d1_37) rfl rfl ?_
    show Steps p.tables e below (T11.setTop (mkF m 38 #[.val (.ref a1)] [(.ref a1)])) _
    refine st12 _ ?_
    show Steps p.tables e below (T12.setTop (mkF m 41 #[.val (.ref a1)] [(.ref b12), (.ref a1)])) _
    refine XS.dup X12.here hx rfl (hb hby d1_41) rfl rfl ?_
    show Steps p.tables e below (T12.setTop (mkF m 42 #[.val (.ref a1)] [(.ref b12), (.ref b12), (.ref a1)])) _
    refine st13.trans ?_
    show Steps p.tables e below (T13.setTop (mkF m 45 #[.val (.ref a1)] [(.ref b12), (.ref a1)])) _
    refine st14 _ ?_
    show Steps p.tables e below (T14.setTop (mkF m 48 #[.val (.ref a1)] [])) _
    refine XS.aloadN X14.here hx rfl (hb hby d1_48) rfl rfl ?_
    show Steps p.tables e below (T14.setTop (mkF m 49 #[.val (.ref a1)] [(.ref a1)])) _
    refine st15 _ ?_
    show Steps p.tables e below (T15.setTop (mkF m 52 #[.val (.ref a1)] [(.ref b15), (.ref a1)])) _
    refine XS.dup X15.here hx rfl (hb hby d1_52) rfl rfl ?_
    show Steps p.tables e below (T15.setTop (mkF m 53 #[.val (.ref a1)] [(.ref b15), (.ref b15), (.ref a1)])) _
    refine st16.trans ?_
    show Steps p.tables e below (T16.setTop (mkF m 56 #[.val (.ref a1)] [(.ref b15), (.ref a1)])) _
    refine st17 _ ?_
    show Steps p.tables e below (T17.setTop (mkF m 59 #[.val (.ref a1)] [])) _
    refine XS.aloadN X17.here hx rfl (hb hby d1_59) rfl rfl ?_
    show Steps p.tables e below (T17.setTop (mkF m 60 #[.val (.ref a1)] [(.ref a1)])) _
    refine st18 _ ?_
    show Steps p.tables e below (T18.setTop (mkF m 63 #[.val (.ref a1)] [(.ref b18), (.ref a1)])) _
    refine XS.dup X18.here hx rfl (hb hby d1_63) rfl rfl ?_
    show Steps p.tables e below (T18.setTop (mkF m 64 #[.val (.ref a1)] [(.ref b18), (.ref b18), (.ref a1)])) _
    refine st19.trans ?_
    show Steps p.tables e below (T19.setTop (mkF m 67 #[.val (.ref a1)] [(.ref b18), (.ref a1)])) _
    refine st20 _ ?_
    show Steps p.tables e below (T20.setTop (mkF m 70 #[.val (.ref a1)] [])) _
    refine XS.aloadN X20.here hx rfl (hb hby d1_70) rfl rfl ?_
    show Steps p.tables e below (T20.setTop (mkF m 71 #[.val (.ref a1)] [(.ref a1)])) _
    refine st21 _ ?_
    show Steps p.tables e below (T21.setTop (mkF m 74 #[.val (.ref a1)] [(.ref b21), (.ref a1)])) _
    refine XS.dup X21.here hx rfl (hb hby d1_74) rfl rfl ?_
    show Steps p.tables e below (T21.setTop (mkF m 75 #[.val (.ref a1)] [(.ref b21), (.ref b21), (.ref a1)])) _
    refine st22.trans ?_
    show Steps p.tables e below (T22.setTop (mkF m 78 #[.val (.ref a1)] [(.ref b21), (.ref a1)])) _
    refine st23 _ ?_
    show Steps p.tables e below (T23.setTop (mkF m 81 #[.val (.ref a1)] [])) _
    refine XS.aloadN X23.here hx rfl (hb hby d1_81) rfl rfl ?_
    show Steps p.tables e below (T23.setTop (mkF m 82 #[.val (.ref a1)] [(.ref a1)])) _
    refine st24 _ ?_
    show Steps p.tables e below (T24.setTop (mkF m 85 #[.val (.ref a1)] [(.ref b24), (.ref a1)])) _
    refine XS.dup X24.here hx rfl (hb hby d1_85) rfl rfl ?_
    show Steps p.tables e below (T24.setTop (mkF m 86 #[.val (.ref a1)] [(.ref b24), (.ref b24), (.ref a1)])) _
    refine st25.trans ?_
    show Steps p.tables e below (T25.setTop (mkF m 89 #[.val (.ref a1)] [(.ref b24), (.ref a1)])) _
    refine st26 _ ?_
    show Steps p.tables e below (T26.setTop (mkF m 92 #[.val (.ref a1)] [])) _
    refine XS.aloadN X26.here hx rfl (hb hby d1_92) rfl rfl ?_
    show Steps p.tables e below (T26.setTop (mkF m 93 #[.val (.ref a1)] [(.ref a1)])) _
    refine st27 _ ?_
    show Steps p.tables e below (T27.setTop (mkF m 96 #[.val (.ref a1)] [(.ref b27), (.ref a1)])) _
    refine XS.dup X27.here hx rfl (hb hby d1_96) rfl rfl ?_
    show Steps p.tables e below (T27.setTop (mkF m 97 #[.val (.ref a1)] [(.ref b27), (.ref b27), (.ref a1)])) _
    refine st28.trans ?_
    show Steps p.tables e below (T28.setTop (mkF m 100 #[.val (.ref a1)] [(.ref b27), (.ref a1)])) _
    refine st29 _ ?_
    show Steps p.tables e below (T29.setTop (mkF m 103 #[.val (.ref a1)] [])) _
    refine XS.aloadN X29.here hx rfl (hb hby d1_103) rfl rfl ?_
    show Steps p.tables e below (T29.setTop (mkF m 104 #[.val (.ref a1)] [(.ref a1)])) _
    refine st30 _ ?_
    show Steps p.tables e below (T30.setTop (mkF m 107 #[.val (.ref a1)] [(.ref b30), (.ref a1)])) _
    refine XS.dup X30.here hx rfl (hb hby d1_107) rfl rfl ?_
    show Steps p.tables e below (T30.setTop (mkF m 108 #[.val (.ref a1)] [(.ref b30), (.ref b30), (.ref a1)])) _
    refine st31.trans ?_
    show Steps p.tables e below (T31.setTop (mkF m 111 #[.val (.ref a1)] [(.ref b30), (.ref a1)])) _
    refine st32 _ ?_
    show Steps p.tables e below (T32.setTop (mkF m 114 #[.val (.ref a1)] [])) _
    refine XS.aloadN X32.here hx rfl (hb hby d1_114) rfl rfl ?_
    show Steps p.tables e below (T32.setTop (mkF m 115 #[.val (.ref a1)] [(.ref a1)])) _
    refine st33 _ ?_
    show Steps p.tables e below (T33.setTop (mkF m 118 #[.val (.ref a1)] [(.ref b33), (.ref a1)])) _
    refine XS.dup X33.here hx rfl (hb hby d1_118) rfl rfl ?_
    show Steps p.tables e below (T33.setTop (mkF m 119 #[.val (.ref a1)] [(.ref b33), (.ref b33), (.ref a1)])) _
    refine st34.trans ?_
    show Steps p.tables e below (T34.setTop (mkF m 122 #[.val (.ref a1)] [(.ref b33), (.ref a1)])) _
    refine st35 _ ?_
    show Steps p.tables e below (T35.setTop (mkF m 125 #[.val (.ref a1)] [])) _
    refine XS.aloadN X35.here hx rfl (hb hby d1_125) rfl rfl ?_
    show Steps p.tables e below (T35.setTop (mkF m 126 #[.val (.ref a1)] [(.ref a1)])) _
    refine st36 _ ?_
    show Steps p.tables e below (T36.setTop (mkF m 129 #[.val (.ref a1)] [(.ref b36), (.ref a1)])) _
    refine XS.dup X36.here hx rfl (hb hby d1_129) rfl rfl ?_
    show Steps p.tables e below (T36.setTop (mkF m 130 #[.val (.ref a1)] [(.ref b36), (.ref b36), (.ref a1)])) _
    refine XS.aloadN X36.here hx rfl (hb hby d1_130) rfl rfl ?_
    show Steps p.tables e below (T36.setTop (mkF m 131 #[.val (.ref a1)] [(.ref a1), (.ref b36), (.ref b36), (.ref a1)])) _
    refine st37.trans ?_
    show Steps p.tables e below (T37.setTop (mkF m 134 #[.val (.ref a1)] [(.ref b36), (.ref a1)])) _
    refine st38 _ ?_
    show Steps p.tables e below (T38.setTop (mkF m 137 #[.val (.ref a1)] [])) _
    refine XS.aloadN X38.here hx rfl (hb hby d1_137) rfl rfl ?_
    show Steps p.tables e below (T38.setTop (mkF m 138 #[.val (.ref a1)] [(.ref a1)])) _
    refine st39 _ ?_
    show Steps p.tables e below (T39.setTop (mkF m 141 #[.val (.ref a1)] [(.ref b39), (.ref a1)])) _
    refine XS.dup X39.here hx rfl (hb hby d1_141) rfl rfl ?_
    show Steps p.tables e below (T39.setTop (mkF m 142 #[.val (.ref a1)] [(.ref b39), (.ref b39), (.ref a1)])) _
    refine st40.trans ?_
    show Steps p.tables e below (T40.setTop (mkF m 145 #[.val (.ref a1)] [(.ref b39), (.ref a1)])) _
    refine st41 _ ?_
    show Steps p.tables e below (T41.setTop (mkF m 148 #[.val (.ref a1)] [])) _
    refine XS.aloadN X41.here hx rfl (hb hby d1_148) rfl rfl ?_
    show Steps p.tables e below (T41.setTop (mkF m 149 #[.val (.ref a1)] [(.ref a1)])) _
    refine st42 _ ?_
    show Steps p.tables e below (T42.setTop (mkF m 152 #[.val (.ref a1)] [(.ref b42), (.ref a1)])) _
    refine XS.dup X42.here hx rfl (hb hby d1_152) rfl rfl ?_
    show Steps p.tables e below (T42.setTop (mkF m 153 #[.val (.ref a1)] [(.ref b42), (.ref b42), (.ref a1)])) _
    refine st43.trans ?_
    show Steps p.tables e below (T43.setTop (mkF m 156 #[.val (.ref a1)] [(.ref b42), (.ref a1)])) _
    refine st44 _ ?_
    show Steps p.tables e below (T44.setTop (mkF m 159 #[.val (.ref a1)] [])) _
    refine XS.aloadN X44.here hx rfl (hb hby d1_159) rfl rfl ?_
    show Steps p.tables e below (T44.setTop (mkF m 160 #[.val (.ref a1)] [(.ref a1)])) _
    refine st45 _ ?_
    show Steps p.tables e below (T45.setTop (mkF m 163 #[.val (.ref a1)] [(.ref b45), (.ref a1)])) _
    refine XS.dup X45.here hx rfl (hb hby d1_163) rfl rfl ?_
    show Steps p.tables e below (T45.setTop (mkF m 164 #[.val (.ref a1)] [(.ref b45), (.ref b45), (.ref a1)])) _
    refine st46.trans ?_
    show Steps p.tables e below (T46.setTop (mkF m 167 #[.val (.ref a1)] [(.ref b45), (.ref a1)])) _
    refine st47 _ ?_
    show Steps p.tables e below (T47.setTop (mkF m 170 #[.val (.ref a1)] [])) _
    refine XS.aloadN X47.here hx rfl (hb hby d1_170) rfl rfl ?_
    show Steps p.tables e below (T47.setTop (mkF m 171 #[.val (.ref a1)] [(.ref a1)])) _
    refine st48 _ ?_
    show Steps p.tables e below (T48.setTop (mkF m 174 #[.val (.ref a1)] [(.ref b48), (.ref a1)])) _
    refine XS.dup X48.here hx rfl (hb hby d1_174) rfl rfl ?_
    show Steps p.tables e below (T48.setTop (mkF m 175 #[.val (.ref a1)] [(.ref b48), (.ref b48), (.ref a1)])) _
    refine st49.trans ?_
    show Steps p.tables e below (T49.setTop (mkF m 178 #[.val (.ref a1)] [(.ref b48), (.ref a1)])) _
    refine st50 _ ?_
    show Steps p.tables e below (T50.setTop (mkF m 181 #[.val (.ref a1)] [])) _
    refine XS.aloadN X50.here hx rfl (hb hby d1_181) rfl rfl ?_
    show Steps p.tables e below (T50.setTop (mkF m 182 #[.val (.ref a1)] [(.ref a1)])) _
    refine st51 _ ?_
    show Steps p.tables e below (T51.setTop (mkF m 185 #[.val (.ref a1)] [(.ref b51), (.ref a1)])) _
    refine XS.dup X51.here hx rfl (hb hby d1_185) rfl rfl ?_
    show Steps p.tables e below (T51.setTop (mkF m 186 #[.val (.ref a1)] [(.ref b51), (.ref b51), (.ref a1)])) _
    refine st52.trans ?_
    show Steps p.tables e below (T52.setTop (mkF m 189 #[.val (.ref a1)] [(.ref b51), (.ref a1)])) _
    refine st53 _ ?_
    show Steps p.tables e below (T53.setTop (mkF m 192 #[.val (.ref a1)] [])) _
    refine XS.aloadN X53.here hx rfl (hb hby d1_192) rfl rfl ?_
    show Steps p.tables e below (T53.setTop (mkF m 193 #[.val (.ref a1)] [(.ref a1)])) _
    refine st54 _ ?_
    show Steps p.tables e below (T54.setTop (mkF m 196 #[.val (.ref a1)] [(.ref b54), (.ref a1)])) _
    refine XS.dup X54.here hx rfl (hb hby d1_196) rfl rfl ?_
    show Steps p.tables e below (T54.setTop (mkF m 197 #[.val (.ref a1)] [(.ref b54), (.ref b54), (.ref a1)])) _
    refine st55.trans ?_
    show Steps p.tables e below (T55.setTop (mkF m 200 #[.val (.ref a1)] [(.ref b54), (.ref a1)])) _
    refine st56 _ ?_
    show Steps p.tables e below (T56.setTop (mkF m 203 #[.val (.ref a1)] [])) _
    exact X56.returnOut hx Bd.returns (hb hby d1_203) hr
  · show Q1 Z a1 h0 n0 _ T56.heap _
    rw [e56]
    exact ⟨rfl, N56, KK56, b3, b6, sz_b3, sz_b6, hfin⟩
theorem pn_0 : plainName "com/example/steplint/steplint/prove/SmtScriptFreshPinLaw" = true := by first | (simp [plainName, overriddenIn]; done) | decide +kernel
theorem pd_0_0 : parseMethodDescriptor "()V" = some ⟨[], none⟩ := by decide +kernel
theorem pd_0_2 : parseMethodDescriptor "()I" = some ⟨[], some .int⟩ := by decide +kernel
theorem ef_0 (m : MethodId) (x0 : Int32) : entryFrame m #[(.int x0)] maxLocals = mkF m 0 #[.val (.int x0), .unset, .unset, .unset, .unset, .unset, .unset, .unset, .unset, .unset] [] := by first | (simp [entryFrame, mkF, argsToLocals, Value.category, maxLocals]; done) | rfl
def Q0 (Z : State) (p1 : Int32) (h0 : Heap) (n0 : Nat) (v : Option Value) (h : Heap) (L : List Loc) : Prop := v = some (.int (1 : Int32)) ∧ Fr n0 L
set_option maxRecDepth 65536 in
set_option maxHeartbeats 40000000 in
theorem rm0_1 (l : Launch) (Z : State) (a0 : Array Value) (hw : ∀ d ∈ tables_1, d.before a0 Z = true) (ws : List Jvm.Cond) (p1 : Int32) (w3 : Addr) (h0 : Heap) (n0 : Nat) (Z0 : n0 ≤ h0.size) (ST0 : Sta Z h0 "java/util/ArrayList" "DEFAULTCAPACITY_EMPTY_ELEMENTDATA" "[Ljava/lang/Object;" (.ref w3)) (hc24 : ((p1 &&& (3 : Int32)) + (1 : Int32)) < (2 : Int32)) (hc38 : ((p1 &&& (3 : Int32)) + (1 : Int32)) < (3 : Int32)) (hc52 : ((p1 &&& (3 : Int32)) + (1 : Int32)) < (4 : Int32)) :
    MetFree l x (head1 (Jvm.Cond.code x code maxLocals ret :: ws) room_1) (fun a U => a = #[(.int p1)] ∧ Z.Warmed39 U.vm ∧ U.heap = h0) (fun _ _ _ _ _ => True) (fun _ U o U' => ∃ v L, o = .returned v ∧ Q0 Z p1 h0 n0 v U'.heap L ∧ FrameEnd U o U' L room_1.cells room_1.slots) := by
  refine MetFree.of_bodySF (plainFor_of_name pn_0) hisR ?_
  intro p e s m args below meth c s₁ Bd hml0 hP hK
  obtain ⟨rfl, hZ, hh⟩ := hP
  have hx := Bd.exec
  have hby := Bd.bytes
  have hml : c.maxLocals = 10 := hml0
  have hown : s.vm.findClass "com/example/steplint/steplint/prove/SmtScriptFreshPinLaw" = some m.cls := findClass_of_methodNamed Bd.named
  have hnm := (name_of_methodNamed Bd.named Bd.method).1
  have X0 : Stand p l e room_1 s m #[(.int p1)] below meth c s₁ [] 0 0 := Stand.of_body Bd
  have e0 : s₁.heap = h0 := by rw [← hh, Bd.state]; rfl
  have N0 := Fr.nil n0
  have pre0 : ∀ t, Steps p.tables e below (s₁.setTop (mkF m 0 #[.val (.int p1), .unset, .unset, .unset, .unset, .unset, .unset, .unset, .unset, .unset] [])) t → Steps p.tables e below (s₁.setTop (entryFrame m #[(.int p1)] maxLocals)) t := fun t k => castTop (ef_0 m p1) k
  -- 3. LAWS
  have KK0 : Keep h0 h0 [] := Keep.refl h0 []
  obtain ⟨T2, h2, X2, e2, E2, A2, D2, -, st2⟩ := newO X0 hx hZ hown (hw _ (List.mem_of_getElem? (i := 0) rfl)) (hw _ (List.mem_of_getElem? (i := 1) rfl)) (hw _ (List.mem_of_getElem? (i := 2) rfl)) e0 (g := (mkF m 6 #[.val (.int p1), .val (.int ((p1 &&& (3 : Int32)) + (1 : Int32))), .unset, .unset, .unset, .unset, .unset, .unset, .unset, .unset] [])) rfl (hb hby at_6) (by decide) (by decide)
  obtain ⟨b2, g2⟩ : ∃ z, z = h0.size := ⟨_, rfl⟩
  rw [← g2] at A2 D2 st2
  have F_declarations_b2 : Fld Z h2 b2 "com/example/steplint/steplint/prove/SmtScript" "declarations" "Ljava/util/List;" .null := D2 (Or.inr (hw _ (List.mem_of_getElem? (i := 34) rfl))) (ty := (.object "java/util/List")) (by decide)
  have F_assertions_b2 : Fld Z h2 b2 "com/example/steplint/steplint/prove/SmtScript" "assertions" "Ljava/util/List;" .null := D2 (Or.inr (hw _ (List.mem_of_getElem? (i := 36) rfl))) (ty := (.object "java/util/List")) (by decide)
  have F_sorts_b2 : Fld Z h2 b2 "com/example/steplint/steplint/prove/SmtScript" "sorts" "Ljava/util/Map;" .null := D2 (Or.inr (hw _ (List.mem_of_getElem? (i := 54) rfl))) (ty := (.object "java/util/Map")) (by decide)
  have F_pairTypes_b2 : Fld Z h2 b2 "com/example/steplint/steplint/prove/SmtScript" "pairTypes" "Ljava/util/Map;" .null := D2 (Or.inr (hw _ (List.mem_of_getElem? (i := 56) rfl))) (ty := (.object "java/util/Map")) (by decide)
  have F_constants_b2 : Fld Z h2 b2 "com/example/steplint/steplint/prove/SmtScript" "constants" "Ljava/util/Map;" .null := D2 (Or.inr (hw _ (List.mem_of_getElem? (i := 58) rfl))) (ty := (.object "java/util/Map")) (by decide)
  have F_definitions_b2 : Fld Z h2 b2 "com/example/steplint/steplint/prove/SmtScript" "definitions" "Ljava/util/Map;" .null := D2 (Or.inr (hw _ (List.mem_of_getElem? (i := 60) rfl))) (ty := (.object "java/util/Map")) (by decide)
  have F_definedValues_b2 : Fld Z h2 b2 "com/example/steplint/steplint/prove/SmtScript" "definedValues" "Ljava/util/Set;" .null := D2 (Or.inr (hw _ (List.mem_of_getElem? (i := 81) rfl))) (ty := (.object "java/util/Set")) (by decide)
  have F_functions_b2 : Fld Z h2 b2 "com/example/steplint/steplint/prove/SmtScript" "functions" "Ljava/util/Map;" .null := D2 (Or.inr (hw _ (List.mem_of_getElem? (i := 83) rfl))) (ty := (.object "java/util/Map")) (by decide)
  have F_facts_b2 : Fld Z h2 b2 "com/example/steplint/steplint/prove/SmtScript" "facts" "Ljava/util/Set;" .null := D2 (Or.inr (hw _ (List.mem_of_getElem? (i := 85) rfl))) (ty := (.object "java/util/Set")) (by decide)
  have F_placeholders_b2 : Fld Z h2 b2 "com/example/steplint/steplint/prove/SmtScript" "placeholders" "Ljava/util/Map;" .null := D2 (Or.inr (hw _ (List.mem_of_getElem? (i := 87) rfl))) (ty := (.object "java/util/Map")) (by decide)
  have F_letNamesInUse_b2 : Fld Z h2 b2 "com/example/steplint/steplint/prove/SmtScript" "letNamesInUse" "Ljava/util/Set;" .null := D2 (Or.inr (hw _ (List.mem_of_getElem? (i := 89) rfl))) (ty := (.object "java/util/Set")) (by decide)
  have F_sharedForms_b2 : Fld Z h2 b2 "com/example/steplint/steplint/prove/SmtScript" "sharedForms" "Lcom/example/steplint/steplint/prove/SmtScript$SharedForms;" .null := D2 (Or.inr (hw _ (List.mem_of_getElem? (i := 106) rfl))) (ty := (.object "com/example/steplint/steplint/prove/SmtScript$SharedForms")) (by decide)
  have F_sizeNotes_b2 : Fld Z h2 b2 "com/example/steplint/steplint/prove/SmtScript" "sizeNotes" "Ljava/util/List;" .null := D2 (Or.inr (hw _ (List.mem_of_getElem? (i := 108) rfl))) (ty := (.object "java/util/List")) (by decide)
  have F_sizeKeys_b2 : Fld Z h2 b2 "com/example/steplint/steplint/prove/SmtScript" "sizeKeys" "Ljava/util/Set;" .null := D2 (Or.inr (hw _ (List.mem_of_getElem? (i := 110) rfl))) (ty := (.object "java/util/Set")) (by decide)
  have F_sizedTerms_b2 : Fld Z h2 b2 "com/example/steplint/steplint/prove/SmtScript" "sizedTerms" "Ljava/util/Set;" .null := D2 (Or.inr (hw _ (List.mem_of_getElem? (i := 112) rfl))) (ty := (.object "java/util/Set")) (by decide)
  have F_countedSets_b2 : Fld Z h2 b2 "com/example/steplint/steplint/prove/SmtScript" "countedSets" "Ljava/util/Map;" .null := D2 (Or.inr (hw _ (List.mem_of_getElem? (i := 114) rfl))) (ty := (.object "java/util/Map")) (by decide)
  have F_countedNotes_b2 : Fld Z h2 b2 "com/example/steplint/steplint/prove/SmtScript" "countedNotes" "Ljava/util/List;" .null := D2 (Or.inr (hw _ (List.mem_of_getElem? (i := 116) rfl))) (ty := (.object "java/util/List")) (by decide)
  have F_variableSymbols_b2 : Fld Z h2 b2 "com/example/steplint/steplint/prove/SmtScript" "variableSymbols" "Ljava/util/Set;" .null := D2 (Or.inr (hw _ (List.mem_of_getElem? (i := 118) rfl))) (ty := (.object "java/util/Set")) (by decide)
  have F_names_b2 : Fld Z h2 b2 "com/example/steplint/steplint/prove/SmtScript" "names" "I" (.int (0 : Int32)) := D2 (Or.inl (hw _ (List.mem_of_getElem? (i := 125) rfl))) (ty := .int) (by decide)
  have E_b2 := A2
  have g_b2 : n0 ≤ b2 := Nat.le_trans Z0 (Nat.le_trans KK0.1 (Nat.le_of_eq g2.symm))
  have sz_b2 : h0.size ≤ b2 := Nat.le_trans KK0.1 (Nat.le_of_eq g2.symm)
  have KK2 : Keep h0 h2 [] := KK0.ext E2
  have ST2 := ST0.ext E2
  have BB2 : Sc Z h2 b2 (fun s => if s = "names" then .int (0 : Int32) else .null) := ⟨E_b2, by
    intro q hq
    simp only [own_fl, List.mem_cons, List.not_mem_nil, or_false] at hq
    rcases hq with rfl | rfl | rfl | rfl | rfl | rfl | rfl | rfl | rfl | rfl | rfl | rfl | rfl | rfl | rfl | rfl | rfl | rfl | rfl
    · exact F_declarations_b2
    · exact F_assertions_b2
    · exact F_sorts_b2
    · exact F_pairTypes_b2
    · exact F_constants_b2
    · exact F_definitions_b2
    · exact F_definedValues_b2
    · exact F_functions_b2
    · exact F_facts_b2
    · exact F_placeholders_b2
    · exact F_letNamesInUse_b2
    · exact F_sharedForms_b2
    · exact F_sizeNotes_b2
    · exact F_sizeKeys_b2
    · exact F_sizedTerms_b2
    · exact F_countedSets_b2
    · exact F_countedNotes_b2
    · exact F_variableSymbols_b2
    · exact F_names_b2⟩
  obtain ⟨_, _, ⟨T3, L3, k3, n3⟩, -, X3, ⟨Lc3, hQ3, l3, y3, z3⟩, st3⟩ := X2.specialBack hx (y := (⟨"com/example/steplint/steplint/prove/SmtScript", "<init>", "()V"⟩ : MethodName)) rfl hown (mvT hZ (hw _ (List.mem_of_getElem? (i := 3) rfl))) (mvT hZ (hw _ (List.mem_of_getElem? (i := 4) rfl))) (mvT hZ (hw _ (List.mem_of_getElem? (i := 5) rfl))) (by decide) (backOf (W := 1) (rm1 l Z a0 hw [] b2 w3 _ h2 n0 (Nat.le_trans Z0 KK2.1) BB2 ST2 rfl g_b2) hZ (hw _ (List.mem_of_getElem? (i := 5) rfl)) (hw _ (List.mem_of_getElem? (i := 2) rfl)) (by decide) (by decide)) (g := (mkF m 10 #[.val (.int p1), .val (.int ((p1 &&& (3 : Int32)) + (1 : Int32))), .unset, .unset, .unset, .unset, .unset, .unset, .unset, .unset] [(.ref b2), (.ref b2)])) rfl (by rw [hml]; rfl) (Steps.refl _) (a := b2) (argsL := []) (rest := [(.ref b2)]) (lenOf pd_0_0 rfl) rfl (by show 2 * 0 + _ ≤ _; exact Nat.le_of_eq rfl) (hb hby at_10) (fun _ _ => ⟨rfl, e2, (by decide : 1 + 26 ≤ _), (by decide : 19 + 141 ≤ _)⟩)
  dsimp only [Pt.U, Pt.locs, Pt.cells, Pt.slots] at X3 l3 y3 z3 st3 hQ3
  have y3' : k3 = 27 := y3
  have z3' : n3 = 160 := z3
  clear y3 z3
  subst y3' z3'
  obtain ⟨rfl, N3q, K3, d_b2, s_b2, sd_b2, ss_b2, Rb2_3⟩ := hQ3
  have N3 : Fr n0 L3 := by rw [l3]; exact Fr.app N0 N3q
  clear l3
  have KK3 : Keep h0 T3.heap [] := KK2.trans K3 fun x hx => by cases List.mem_singleton.mp hx; exact Or.inr sz_b2
  have ST3 := own_sta_keep ST2 K3 E_b2
  obtain ⟨cq4, kq4, q4a, q4b, q4c⟩ := isOf hZ rfl Rb2_3.1
  obtain ⟨_, _, ⟨T4, L4, k4, n4⟩, -, X4, ⟨Lc4, hQ4, l4, y4, z4⟩, st4⟩ := X3.virtualBack hx (y := (⟨"com/example/steplint/steplint/prove/SmtScript", "fresh", "()I"⟩ : MethodName)) (z := (⟨"com/example/steplint/steplint/prove/SmtScript", "fresh", "()I"⟩ : MethodName)) hown (mvT hZ (hw _ (List.mem_of_getElem? (i := 119) rfl))) (mvT hZ (hw _ (List.mem_of_getElem? (i := 120) rfl))) (notFace_of_selects (args := #[]) (mvT hZ (hw _ (List.mem_of_getElem? (i := 122) rfl)))) (mvT hZ (hw _ (List.mem_of_getElem? (i := 122) rfl))) (mvT hZ (hw _ (List.mem_of_getElem? (i := 121) rfl))) (by decide) (backOf (W := 0) (rm11 l Z a0 hw [] b2 d_b2 s_b2 (0 : Int32) T3.heap n0 (Nat.le_trans Z0 KK3.1) Rb2_3 g_b2) hZ (hw _ (List.mem_of_getElem? (i := 123) rfl)) (hw _ (List.mem_of_getElem? (i := 2) rfl)) (by decide) (by decide)) q4a q4c (g := (mkF m 15 #[.val (.int p1), .val (.int ((p1 &&& (3 : Int32)) + (1 : Int32))), .val (.ref b2), .unset, .unset, .unset, .unset, .unset, .unset, .unset] [(.ref b2)])) rfl (by rw [hml]; rfl) (Steps.refl _) (argsL := []) (rest := []) (lenOf pd_0_2 rfl) rfl (by show 2 * 0 + _ ≤ _; exact Nat.le_of_eq rfl) (hb hby at_15) (fun _ _ => ⟨rfl, rfl, (by decide : 27 + 0 ≤ _), (by decide : 160 + 0 ≤ _)⟩)
  dsimp only [Pt.U, Pt.locs, Pt.cells, Pt.slots] at X4 l4 y4 z4 st4 hQ4
  have y4' : k4 = 27 := y4
  have z4' : n4 = 160 := z4
  clear y4 z4
  subst y4' z4'
  obtain ⟨rfl, N4q, K4, Rb2_4⟩ := hQ4
  have N4 : Fr n0 L4 := by rw [l4]; exact Fr.app N3 N4q
  clear l4
  have KK4 : Keep h0 T4.heap [] := KK3.trans K4 fun x hx => by cases List.mem_singleton.mp hx; exact Or.inr sz_b2
  have ST4 := own_sta_keep ST3 K4 Rb2_3.1
  obtain ⟨T5, h5, X5, e5, E5, A5, D5, -, st5⟩ := newO X4 hx hZ hown (hw _ (List.mem_of_getElem? (i := 0) rfl)) (hw _ (List.mem_of_getElem? (i := 1) rfl)) (hw _ (List.mem_of_getElem? (i := 2) rfl)) rfl (g := (mkF m 61 #[.val (.int p1), .val (.int ((p1 &&& (3 : Int32)) + (1 : Int32))), .val (.ref b2), .val (.int ((0 : Int32) + (1 : Int32))), .val (.int (2 : Int32)), .val (.int (3 : Int32)), .val (.int (4 : Int32)), .unset, .unset, .unset] [])) rfl (hb hby at_61) (by decide) (by decide)
  obtain ⟨b5, g5⟩ : ∃ z, z = T4.heap.size := ⟨_, rfl⟩
  rw [← g5] at A5 D5 st5
  have F_declarations_b5 : Fld Z h5 b5 "com/example/steplint/steplint/prove/SmtScript" "declarations" "Ljava/util/List;" .null := D5 (Or.inr (hw _ (List.mem_of_getElem? (i := 34) rfl))) (ty := (.object "java/util/List")) (by decide)
  have F_assertions_b5 : Fld Z h5 b5 "com/example/steplint/steplint/prove/SmtScript" "assertions" "Ljava/util/List;" .null := D5 (Or.inr (hw _ (List.mem_of_getElem? (i := 36) rfl))) (ty := (.object "java/util/List")) (by decide)
  have F_sorts_b5 : Fld Z h5 b5 "com/example/steplint/steplint/prove/SmtScript" "sorts" "Ljava/util/Map;" .null := D5 (Or.inr (hw _ (List.mem_of_getElem? (i := 54) rfl))) (ty := (.object "java/util/Map")) (by decide)
  have F_pairTypes_b5 : Fld Z h5 b5 "com/example/steplint/steplint/prove/SmtScript" "pairTypes" "Ljava/util/Map;" .null := D5 (Or.inr (hw _ (List.mem_of_getElem? (i := 56) rfl))) (ty := (.object "java/util/Map")) (by decide)
  have F_constants_b5 : Fld Z h5 b5 "com/example/steplint/steplint/prove/SmtScript" "constants" "Ljava/util/Map;" .null := D5 (Or.inr (hw _ (List.mem_of_getElem? (i := 58) rfl))) (ty := (.object "java/util/Map")) (by decide)
  have F_definitions_b5 : Fld Z h5 b5 "com/example/steplint/steplint/prove/SmtScript" "definitions" "Ljava/util/Map;" .null := D5 (Or.inr (hw _ (List.mem_of_getElem? (i := 60) rfl))) (ty := (.object "java/util/Map")) (by decide)
  have F_definedValues_b5 : Fld Z h5 b5 "com/example/steplint/steplint/prove/SmtScript" "definedValues" "Ljava/util/Set;" .null := D5 (Or.inr (hw _ (List.mem_of_getElem? (i := 81) rfl))) (ty := (.object "java/util/Set")) (by decide)
  have F_functions_b5 : Fld Z h5 b5 "com/example/steplint/steplint/prove/SmtScript" "functions" "Ljava/util/Map;" .null := D5 (Or.inr (hw _ (List.mem_of_getElem? (i := 83) rfl))) (ty := (.object "java/util/Map")) (by decide)
  have F_facts_b5 : Fld Z h5 b5 "com/example/steplint/steplint/prove/SmtScript" "facts" "Ljava/util/Set;" .null := D5 (Or.inr (hw _ (List.mem_of_getElem? (i := 85) rfl))) (ty := (.object "java/util/Set")) (by decide)
  have F_placeholders_b5 : Fld Z h5 b5 "com/example/steplint/steplint/prove/SmtScript" "placeholders" "Ljava/util/Map;" .null := D5 (Or.inr (hw _ (List.mem_of_getElem? (i := 87) rfl))) (ty := (.object "java/util/Map")) (by decide)
  have F_letNamesInUse_b5 : Fld Z h5 b5 "com/example/steplint/steplint/prove/SmtScript" "letNamesInUse" "Ljava/util/Set;" .null := D5 (Or.inr (hw _ (List.mem_of_getElem? (i := 89) rfl))) (ty := (.object "java/util/Set")) (by decide)
  have F_sharedForms_b5 : Fld Z h5 b5 "com/example/steplint/steplint/prove/SmtScript" "sharedForms" "Lcom/example/steplint/steplint/prove/SmtScript$SharedForms;" .null := D5 (Or.inr (hw _ (List.mem_of_getElem? (i := 106) rfl))) (ty := (.object "com/example/steplint/steplint/prove/SmtScript$SharedForms")) (by decide)
  have F_sizeNotes_b5 : Fld Z h5 b5 "com/example/steplint/steplint/prove/SmtScript" "sizeNotes" "Ljava/util/List;" .null := D5 (Or.inr (hw _ (List.mem_of_getElem? (i := 108) rfl))) (ty := (.object "java/util/List")) (by decide)
  have F_sizeKeys_b5 : Fld Z h5 b5 "com/example/steplint/steplint/prove/SmtScript" "sizeKeys" "Ljava/util/Set;" .null := D5 (Or.inr (hw _ (List.mem_of_getElem? (i := 110) rfl))) (ty := (.object "java/util/Set")) (by decide)
  have F_sizedTerms_b5 : Fld Z h5 b5 "com/example/steplint/steplint/prove/SmtScript" "sizedTerms" "Ljava/util/Set;" .null := D5 (Or.inr (hw _ (List.mem_of_getElem? (i := 112) rfl))) (ty := (.object "java/util/Set")) (by decide)
  have F_countedSets_b5 : Fld Z h5 b5 "com/example/steplint/steplint/prove/SmtScript" "countedSets" "Ljava/util/Map;" .null := D5 (Or.inr (hw _ (List.mem_of_getElem? (i := 114) rfl))) (ty := (.object "java/util/Map")) (by decide)
  have F_countedNotes_b5 : Fld Z h5 b5 "com/example/steplint/steplint/prove/SmtScript" "countedNotes" "Ljava/util/List;" .null := D5 (Or.inr (hw _ (List.mem_of_getElem? (i := 116) rfl))) (ty := (.object "java/util/List")) (by decide)
  have F_variableSymbols_b5 : Fld Z h5 b5 "com/example/steplint/steplint/prove/SmtScript" "variableSymbols" "Ljava/util/Set;" .null := D5 (Or.inr (hw _ (List.mem_of_getElem? (i := 118) rfl))) (ty := (.object "java/util/Set")) (by decide)
  have F_names_b5 : Fld Z h5 b5 "com/example/steplint/steplint/prove/SmtScript" "names" "I" (.int (0 : Int32)) := D5 (Or.inl (hw _ (List.mem_of_getElem? (i := 125) rfl))) (ty := .int) (by decide)
  have E_b5 := A5
  have g_b5 : n0 ≤ b5 := Nat.le_trans Z0 (Nat.le_trans KK4.1 (Nat.le_of_eq g5.symm))
  have sz_b5 : h0.size ≤ b5 := Nat.le_trans KK4.1 (Nat.le_of_eq g5.symm)
  have ne_b2_b5 := Rb2_4.lts (Nat.le_of_eq g5.symm)
  have Rb2_5 := Rb2_4.ext E5
  have KK5 : Keep h0 h5 [] := KK4.ext E5
  have ST5 := ST4.ext E5
  have BB5 : Sc Z h5 b5 (fun s => if s = "names" then .int (0 : Int32) else .null) := ⟨E_b5, by
    intro q hq
    simp only [own_fl, List.mem_cons, List.not_mem_nil, or_false] at hq
    rcases hq with rfl | rfl | rfl | rfl | rfl | rfl | rfl | rfl | rfl | rfl | rfl | rfl | rfl | rfl | rfl | rfl | rfl | rfl | rfl
    · exact F_declarations_b5
    · exact F_assertions_b5
    · exact F_sorts_b5
    · exact F_pairTypes_b5
    · exact F_constants_b5
    · exact F_definitions_b5
    · exact F_definedValues_b5
    · exact F_functions_b5
    · exact F_facts_b5
    · exact F_placeholders_b5
    · exact F_letNamesInUse_b5
    · exact F_sharedForms_b5
    · exact F_sizeNotes_b5
    · exact F_sizeKeys_b5
    · exact F_sizedTerms_b5
    · exact F_countedSets_b5
    · exact F_countedNotes_b5
    · exact F_variableSymbols_b5
    · exact F_names_b5⟩
  obtain ⟨_, _, ⟨T6, L6, k6, n6⟩, -, X6, ⟨Lc6, hQ6, l6, y6, z6⟩, st6⟩ := X5.specialBack hx (y := (⟨"com/example/steplint/steplint/prove/SmtScript", "<init>", "()V"⟩ : MethodName)) rfl hown (mvT hZ (hw _ (List.mem_of_getElem? (i := 3) rfl))) (mvT hZ (hw _ (List.mem_of_getElem? (i := 4) rfl))) (mvT hZ (hw _ (List.mem_of_getElem? (i := 5) rfl))) (by decide) (backOf (W := 1) (rm1 l Z a0 hw [] b5 w3 _ h5 n0 (Nat.le_trans Z0 KK5.1) BB5 ST5 rfl g_b5) hZ (hw _ (List.mem_of_getElem? (i := 5) rfl)) (hw _ (List.mem_of_getElem? (i := 2) rfl)) (by decide) (by decide)) (g := (mkF m 65 #[.val (.int p1), .val (.int ((p1 &&& (3 : Int32)) + (1 : Int32))), .val (.ref b2), .val (.int ((0 : Int32) + (1 : Int32))), .val (.int (2 : Int32)), .val (.int (3 : Int32)), .val (.int (4 : Int32)), .unset, .unset, .unset] [(.ref b5), (.ref b5)])) rfl (by rw [hml]; rfl) (Steps.refl _) (a := b5) (argsL := []) (rest := [(.ref b5)]) (lenOf pd_0_0 rfl) rfl (by show 2 * 0 + _ ≤ _; exact Nat.le_of_eq rfl) (hb hby at_65) (fun _ _ => ⟨rfl, e5, (by decide : 28 + 26 ≤ _), (by decide : 179 + 141 ≤ _)⟩)
  dsimp only [Pt.U, Pt.locs, Pt.cells, Pt.slots] at X6 l6 y6 z6 st6 hQ6
  have y6' : k6 = 54 := y6
  have z6' : n6 = 320 := z6
  clear y6 z6
  subst y6' z6'
  obtain ⟨rfl, N6q, K6, d_b5, s_b5, sd_b5, ss_b5, Rb5_6⟩ := hQ6
  have N6 : Fr n0 L6 := by rw [l6]; exact Fr.app N4 N6q
  clear l6
  have KK6 : Keep h0 T6.heap [] := KK5.trans K6 fun x hx => by cases List.mem_singleton.mp hx; exact Or.inr sz_b5
  have ST6 := own_sta_keep ST5 K6 E_b5
  have Rb2_6 := Rb2_5.keep K6 ne_b2_b5
  obtain ⟨cq7, kq7, q7a, q7b, q7c⟩ := isOf hZ rfl Rb5_6.1
  obtain ⟨_, _, ⟨T7, L7, k7, n7⟩, -, X7, ⟨Lc7, hQ7, l7, y7, z7⟩, st7⟩ := X6.virtualBack hx (y := (⟨"com/example/steplint/steplint/prove/SmtScript", "fresh", "()I"⟩ : MethodName)) (z := (⟨"com/example/steplint/steplint/prove/SmtScript", "fresh", "()I"⟩ : MethodName)) hown (mvT hZ (hw _ (List.mem_of_getElem? (i := 119) rfl))) (mvT hZ (hw _ (List.mem_of_getElem? (i := 120) rfl))) (notFace_of_selects (args := #[]) (mvT hZ (hw _ (List.mem_of_getElem? (i := 122) rfl)))) (mvT hZ (hw _ (List.mem_of_getElem? (i := 122) rfl))) (mvT hZ (hw _ (List.mem_of_getElem? (i := 121) rfl))) (by decide) (backOf (W := 0) (rm11 l Z a0 hw [] b5 d_b5 s_b5 (0 : Int32) T6.heap n0 (Nat.le_trans Z0 KK6.1) Rb5_6 g_b5) hZ (hw _ (List.mem_of_getElem? (i := 123) rfl)) (hw _ (List.mem_of_getElem? (i := 2) rfl)) (by decide) (by decide)) q7a q7c (g := (mkF m 72 #[.val (.int p1), .val (.int ((p1 &&& (3 : Int32)) + (1 : Int32))), .val (.ref b2), .val (.int ((0 : Int32) + (1 : Int32))), .val (.int (2 : Int32)), .val (.int (3 : Int32)), .val (.int (4 : Int32)), .val (.ref b5), .unset, .unset] [(.ref b5)])) rfl (by rw [hml]; rfl) (Steps.refl _) (argsL := []) (rest := []) (lenOf pd_0_2 rfl) rfl (by show 2 * 0 + _ ≤ _; exact Nat.le_of_eq rfl) (hb hby at_72) (fun _ _ => ⟨rfl, rfl, (by decide : 54 + 0 ≤ _), (by decide : 320 + 0 ≤ _)⟩)
  dsimp only [Pt.U, Pt.locs, Pt.cells, Pt.slots] at X7 l7 y7 z7 st7 hQ7
  have y7' : k7 = 54 := y7
  have z7' : n7 = 320 := z7
  clear y7 z7
  subst y7' z7'
  obtain ⟨rfl, N7q, K7, Rb5_7⟩ := hQ7
  have N7 : Fr n0 L7 := by rw [l7]; exact Fr.app N6 N7q
  clear l7
  have KK7 : Keep h0 T7.heap [] := KK6.trans K7 fun x hx => by cases List.mem_singleton.mp hx; exact Or.inr sz_b5
  have ST7 := own_sta_keep ST6 K7 Rb5_6.1
  have Rb2_7 := Rb2_6.keep K7 ne_b2_b5
  obtain ⟨cq8, kq8, q8a, q8b, q8c⟩ := isOf hZ rfl Rb2_7.1
  obtain ⟨_, _, ⟨T8, L8, k8, n8⟩, -, X8, ⟨Lc8, hQ8, l8, y8, z8⟩, st8⟩ := X7.virtualBack hx (y := (⟨"com/example/steplint/steplint/prove/SmtScript", "said", "()I"⟩ : MethodName)) (z := (⟨"com/example/steplint/steplint/prove/SmtScript", "said", "()I"⟩ : MethodName)) hown (mvT hZ (hw _ (List.mem_of_getElem? (i := 126) rfl))) (mvT hZ (hw _ (List.mem_of_getElem? (i := 127) rfl))) (notFace_of_selects (args := #[]) (mvT hZ (hw _ (List.mem_of_getElem? (i := 129) rfl)))) (mvT hZ (hw _ (List.mem_of_getElem? (i := 129) rfl))) (mvT hZ (hw _ (List.mem_of_getElem? (i := 128) rfl))) (by decide) (backOf (W := 0) (rm12 l Z a0 hw [] b2 d_b2 s_b2 T7.heap n0 (Nat.le_trans Z0 KK7.1) Rb2_7.2.2.1 Rb2_7.2.2.2.2.1.1 Rb2_7.2.2.2.1 Rb2_7.2.2.2.2.2.1.1 Rb2_7.2.2.2.2.1.2 Rb2_7.2.2.2.2.2.1.2) hZ (hw _ (List.mem_of_getElem? (i := 130) rfl)) (hw _ (List.mem_of_getElem? (i := 2) rfl)) (by decide) (by decide)) q8a q8c (g := (mkF m 78 #[.val (.int p1), .val (.int ((p1 &&& (3 : Int32)) + (1 : Int32))), .val (.ref b2), .val (.int ((0 : Int32) + (1 : Int32))), .val (.int (2 : Int32)), .val (.int (3 : Int32)), .val (.int (4 : Int32)), .val (.ref b5), .val (.int ((0 : Int32) + (1 : Int32))), .unset] [(.ref b2)])) rfl (by rw [hml]; rfl) (Steps.refl _) (argsL := []) (rest := []) (lenOf pd_0_2 rfl) rfl (by show 2 * 0 + _ ≤ _; exact Nat.le_of_eq rfl) (hb hby at_78) (fun _ _ => ⟨rfl, rfl, (by decide : 54 + 0 ≤ _), (by decide : 320 + 0 ≤ _)⟩)
  dsimp only [Pt.U, Pt.locs, Pt.cells, Pt.slots] at X8 l8 y8 z8 st8 hQ8
  have y8' : k8 = 54 := y8
  have z8' : n8 = 320 := z8
  clear y8 z8
  subst y8' z8'
  obtain ⟨rfl, N8q, q8⟩ := hQ8
  have N8 : Fr n0 L8 := by rw [l8]; exact Fr.app N7 N8q
  clear l8
  obtain ⟨fs, hr, hrun, hended, hW, hsame⟩ := X8.leave (v := some (.int (1 : Int32))) (fun h => by rw [Bd.returns] at h; cases h)
  refine ⟨_, _, pre0 _ ?_, hrun, hended, _, _, rfl, ?_, ⟨_, rfl⟩, hW, hsame.mono (by decide) (by decide)⟩
  -- 4. STEPS
  · show Steps p.tables e below (s₁.setTop (mkF m 0 #[.val (.int p1), .unset, .unset, .unset, .unset, .unset, .unset, .unset, .unset, .unset] [])) _
    refine XS.iloadN X0.here hx rfl (hb hby at_0) rfl ?_
    show Steps p.tables e below (s₁.setTop (mkF m 1 #[.val (.int p1), .unset, .unset, .unset, .unset, .unset, .unset, .unset, .unset, .unset] [(.int p1)])) _
    refine XS.iconst X0.here hx rfl (hb hby at_1) ?_
    show Steps p.tables e below (s₁.setTop (mkF m 2 #[.val (.int p1), .unset, .unset, .unset, .unset, .unset, .unset, .unset, .unset, .unset] [(.int (3 : Int32)), (.int p1)])) _
    refine XS.iand X0.here hx rfl (hb hby at_2) rfl ?_
    show Steps p.tables e below (s₁.setTop (mkF m 3 #[.val (.int p1), .unset, .unset, .unset, .unset, .unset, .unset, .unset, .unset, .unset] [(.int (p1 &&& (3 : Int32)))])) _
    refine XS.iconst X0.here hx rfl (hb hby at_3) ?_
    show Steps p.tables e below (s₁.setTop (mkF m 4 #[.val (.int p1), .unset, .unset, .unset, .unset, .unset, .unset, .unset, .unset, .unset] [(.int (1 : Int32)), (.int (p1 &&& (3 : Int32)))])) _
    refine XS.iadd X0.here hx rfl (hb hby at_4) rfl ?_
    show Steps p.tables e below (s₁.setTop (mkF m 5 #[.val (.int p1), .unset, .unset, .unset, .unset, .unset, .unset, .unset, .unset, .unset] [(.int ((p1 &&& (3 : Int32)) + (1 : Int32)))])) _
    refine XS.istoreN X0.here hx rfl (hb hby at_5) rfl (l' := #[.val (.int p1), .val (.int ((p1 &&& (3 : Int32)) + (1 : Int32))), .unset, .unset, .unset, .unset, .unset, .unset, .unset, .unset]) rfl ?_
    show Steps p.tables e below (s₁.setTop (mkF m 6 #[.val (.int p1), .val (.int ((p1 &&& (3 : Int32)) + (1 : Int32))), .unset, .unset, .unset, .unset, .unset, .unset, .unset, .unset] [])) _
    refine st2 _ ?_
    show Steps p.tables e below (T2.setTop (mkF m 9 #[.val (.int p1), .val (.int ((p1 &&& (3 : Int32)) + (1 : Int32))), .unset, .unset, .unset, .unset, .unset, .unset, .unset, .unset] [(.ref b2)])) _
    refine XS.dup X2.here hx rfl (hb hby at_9) rfl rfl ?_
    show Steps p.tables e below (T2.setTop (mkF m 10 #[.val (.int p1), .val (.int ((p1 &&& (3 : Int32)) + (1 : Int32))), .unset, .unset, .unset, .unset, .unset, .unset, .unset, .unset] [(.ref b2), (.ref b2)])) _
    refine st3.trans ?_
    show Steps p.tables e below (T3.setTop (mkF m 13 #[.val (.int p1), .val (.int ((p1 &&& (3 : Int32)) + (1 : Int32))), .unset, .unset, .unset, .unset, .unset, .unset, .unset, .unset] [(.ref b2)])) _
    refine XS.astoreN X3.here hx rfl (hb hby at_13) rfl rfl (l' := #[.val (.int p1), .val (.int ((p1 &&& (3 : Int32)) + (1 : Int32))), .val (.ref b2), .unset, .unset, .unset, .unset, .unset, .unset, .unset]) rfl ?_
    show Steps p.tables e below (T3.setTop (mkF m 14 #[.val (.int p1), .val (.int ((p1 &&& (3 : Int32)) + (1 : Int32))), .val (.ref b2), .unset, .unset, .unset, .unset, .unset, .unset, .unset] [])) _
    refine XS.aloadN X3.here hx rfl (hb hby at_14) rfl rfl ?_
    show Steps p.tables e below (T3.setTop (mkF m 15 #[.val (.int p1), .val (.int ((p1 &&& (3 : Int32)) + (1 : Int32))), .val (.ref b2), .unset, .unset, .unset, .unset, .unset, .unset, .unset] [(.ref b2)])) _
    refine st4.trans ?_
    show Steps p.tables e below (T4.setTop (mkF m 18 #[.val (.int p1), .val (.int ((p1 &&& (3 : Int32)) + (1 : Int32))), .val (.ref b2), .unset, .unset, .unset, .unset, .unset, .unset, .unset] [(.int ((0 : Int32) + (1 : Int32)))])) _
    refine XS.istoreN X4.here hx rfl (hb hby at_18) rfl (l' := #[.val (.int p1), .val (.int ((p1 &&& (3 : Int32)) + (1 : Int32))), .val (.ref b2), .val (.int ((0 : Int32) + (1 : Int32))), .unset, .unset, .unset, .unset, .unset, .unset]) rfl ?_
    show Steps p.tables e below (T4.setTop (mkF m 19 #[.val (.int p1), .val (.int ((p1 &&& (3 : Int32)) + (1 : Int32))), .val (.ref b2), .val (.int ((0 : Int32) + (1 : Int32))), .unset, .unset, .unset, .unset, .unset, .unset] [])) _
    refine XS.iconst X4.here hx rfl (hb hby at_19) ?_
    show Steps p.tables e below (T4.setTop (mkF m 20 #[.val (.int p1), .val (.int ((p1 &&& (3 : Int32)) + (1 : Int32))), .val (.ref b2), .val (.int ((0 : Int32) + (1 : Int32))), .unset, .unset, .unset, .unset, .unset, .unset] [(.int (2 : Int32))])) _
    refine XS.istore X4.here hx rfl (hb hby at_20) rfl (l' := #[.val (.int p1), .val (.int ((p1 &&& (3 : Int32)) + (1 : Int32))), .val (.ref b2), .val (.int ((0 : Int32) + (1 : Int32))), .val (.int (2 : Int32)), .unset, .unset, .unset, .unset, .unset]) rfl ?_
    show Steps p.tables e below (T4.setTop (mkF m 22 #[.val (.int p1), .val (.int ((p1 &&& (3 : Int32)) + (1 : Int32))), .val (.ref b2), .val (.int ((0 : Int32) + (1 : Int32))), .val (.int (2 : Int32)), .unset, .unset, .unset, .unset, .unset] [])) _
    refine XS.iloadN X4.here hx rfl (hb hby at_22) rfl ?_
    show Steps p.tables e below (T4.setTop (mkF m 23 #[.val (.int p1), .val (.int ((p1 &&& (3 : Int32)) + (1 : Int32))), .val (.ref b2), .val (.int ((0 : Int32) + (1 : Int32))), .val (.int (2 : Int32)), .unset, .unset, .unset, .unset, .unset] [(.int ((p1 &&& (3 : Int32)) + (1 : Int32)))])) _
    refine XS.iconst X4.here hx rfl (hb hby at_23) ?_
    show Steps p.tables e below (T4.setTop (mkF m 24 #[.val (.int p1), .val (.int ((p1 &&& (3 : Int32)) + (1 : Int32))), .val (.ref b2), .val (.int ((0 : Int32) + (1 : Int32))), .val (.int (2 : Int32)), .unset, .unset, .unset, .unset, .unset] [(.int (2 : Int32)), (.int ((p1 &&& (3 : Int32)) + (1 : Int32)))])) _
    refine XS.icmpYes X4.here hx rfl (pc0 := 24) (pc' := 33) rfl (hb hby at_24) rfl (tlt hc24).1 (by decide) (by decide) ?_
    show Steps p.tables e below (T4.setTop (mkF m 33 #[.val (.int p1), .val (.int ((p1 &&& (3 : Int32)) + (1 : Int32))), .val (.ref b2), .val (.int ((0 : Int32) + (1 : Int32))), .val (.int (2 : Int32)), .unset, .unset, .unset, .unset, .unset] [])) _
    refine XS.iconst X4.here hx rfl (hb hby at_33) ?_
    show Steps p.tables e below (T4.setTop (mkF m 34 #[.val (.int p1), .val (.int ((p1 &&& (3 : Int32)) + (1 : Int32))), .val (.ref b2), .val (.int ((0 : Int32) + (1 : Int32))), .val (.int (2 : Int32)), .unset, .unset, .unset, .unset, .unset] [(.int (3 : Int32))])) _
    refine XS.istore X4.here hx rfl (hb hby at_34) rfl (l' := #[.val (.int p1), .val (.int ((p1 &&& (3 : Int32)) + (1 : Int32))), .val (.ref b2), .val (.int ((0 : Int32) + (1 : Int32))), .val (.int (2 : Int32)), .val (.int (3 : Int32)), .unset, .unset, .unset, .unset]) rfl ?_
    show Steps p.tables e below (T4.setTop (mkF m 36 #[.val (.int p1), .val (.int ((p1 &&& (3 : Int32)) + (1 : Int32))), .val (.ref b2), .val (.int ((0 : Int32) + (1 : Int32))), .val (.int (2 : Int32)), .val (.int (3 : Int32)), .unset, .unset, .unset, .unset] [])) _
    refine XS.iloadN X4.here hx rfl (hb hby at_36) rfl ?_
    show Steps p.tables e below (T4.setTop (mkF m 37 #[.val (.int p1), .val (.int ((p1 &&& (3 : Int32)) + (1 : Int32))), .val (.ref b2), .val (.int ((0 : Int32) + (1 : Int32))), .val (.int (2 : Int32)), .val (.int (3 : Int32)), .unset, .unset, .unset, .unset] [(.int ((p1 &&& (3 : Int32)) + (1 : Int32)))])) _
    refine XS.iconst X4.here hx rfl (hb hby at_37) ?_
    show Steps p.tables e below (T4.setTop (mkF m 38 #[.val (.int p1), .val (.int ((p1 &&& (3 : Int32)) + (1 : Int32))), .val (.ref b2), .val (.int ((0 : Int32) + (1 : Int32))), .val (.int (2 : Int32)), .val (.int (3 : Int32)), .unset, .unset, .unset, .unset] [(.int (3 : Int32)), (.int ((p1 &&& (3 : Int32)) + (1 : Int32)))])) _
    refine XS.icmpYes X4.here hx rfl (pc0 := 38) (pc' := 47) rfl (hb hby at_38) rfl (tlt hc38).1 (by decide) (by decide) ?_
    show Steps p.tables e below (T4.setTop (mkF m 47 #[.val (.int p1), .val (.int ((p1 &&& (3 : Int32)) + (1 : Int32))), .val (.ref b2), .val (.int ((0 : Int32) + (1 : Int32))), .val (.int (2 : Int32)), .val (.int (3 : Int32)), .unset, .unset, .unset, .unset] [])) _
    refine XS.iconst X4.here hx rfl (hb hby at_47) ?_
    show Steps p.tables e below (T4.setTop (mkF m 48 #[.val (.int p1), .val (.int ((p1 &&& (3 : Int32)) + (1 : Int32))), .val (.ref b2), .val (.int ((0 : Int32) + (1 : Int32))), .val (.int (2 : Int32)), .val (.int (3 : Int32)), .unset, .unset, .unset, .unset] [(.int (4 : Int32))])) _
    refine XS.istore X4.here hx rfl (hb hby at_48) rfl (l' := #[.val (.int p1), .val (.int ((p1 &&& (3 : Int32)) + (1 : Int32))), .val (.ref b2), .val (.int ((0 : Int32) + (1 : Int32))), .val (.int (2 : Int32)), .val (.int (3 : Int32)), .val (.int (4 : Int32)), .unset, .unset, .unset]) rfl ?_
    show Steps p.tables e below (T4.setTop (mkF m 50 #[.val (.int p1), .val (.int ((p1 &&& (3 : Int32)) + (1 : Int32))), .val (.ref b2), .val (.int ((0 : Int32) + (1 : Int32))), .val (.int (2 : Int32)), .val (.int (3 : Int32)), .val (.int (4 : Int32)), .unset, .unset, .unset] [])) _
    refine XS.iloadN X4.here hx rfl (hb hby at_50) rfl ?_
    show Steps p.tables e below (T4.setTop (mkF m 51 #[.val (.int p1), .val (.int ((p1 &&& (3 : Int32)) + (1 : Int32))), .val (.ref b2), .val (.int ((0 : Int32) + (1 : Int32))), .val (.int (2 : Int32)), .val (.int (3 : Int32)), .val (.int (4 : Int32)), .unset, .unset, .unset] [(.int ((p1 &&& (3 : Int32)) + (1 : Int32)))])) _
    refine XS.iconst X4.here hx rfl (hb hby at_51) ?_
    show Steps p.tables e below (T4.setTop (mkF m 52 #[.val (.int p1), .val (.int ((p1 &&& (3 : Int32)) + (1 : Int32))), .val (.ref b2), .val (.int ((0 : Int32) + (1 : Int32))), .val (.int (2 : Int32)), .val (.int (3 : Int32)), .val (.int (4 : Int32)), .unset, .unset, .unset] [(.int (4 : Int32)), (.int ((p1 &&& (3 : Int32)) + (1 : Int32)))])) _
    refine XS.icmpYes X4.here hx rfl (pc0 := 52) (pc' := 61) rfl (hb hby at_52) rfl (tlt hc52).1 (by decide) (by decide) ?_
    show Steps p.tables e below (T4.setTop (mkF m 61 #[.val (.int p1), .val (.int ((p1 &&& (3 : Int32)) + (1 : Int32))), .val (.ref b2), .val (.int ((0 : Int32) + (1 : Int32))), .val (.int (2 : Int32)), .val (.int (3 : Int32)), .val (.int (4 : Int32)), .unset, .unset, .unset] [])) _
    refine st5 _ ?_
    show Steps p.tables e below (T5.setTop (mkF m 64 #[.val (.int p1), .val (.int ((p1 &&& (3 : Int32)) + (1 : Int32))), .val (.ref b2), .val (.int ((0 : Int32) + (1 : Int32))), .val (.int (2 : Int32)), .val (.int (3 : Int32)), .val (.int (4 : Int32)), .unset, .unset, .unset] [(.ref b5)])) _
    refine XS.dup X5.here hx rfl (hb hby at_64) rfl rfl ?_
    show Steps p.tables e below (T5.setTop (mkF m 65 #[.val (.int p1), .val (.int ((p1 &&& (3 : Int32)) + (1 : Int32))), .val (.ref b2), .val (.int ((0 : Int32) + (1 : Int32))), .val (.int (2 : Int32)), .val (.int (3 : Int32)), .val (.int (4 : Int32)), .unset, .unset, .unset] [(.ref b5), (.ref b5)])) _
    refine st6.trans ?_
    show Steps p.tables e below (T6.setTop (mkF m 68 #[.val (.int p1), .val (.int ((p1 &&& (3 : Int32)) + (1 : Int32))), .val (.ref b2), .val (.int ((0 : Int32) + (1 : Int32))), .val (.int (2 : Int32)), .val (.int (3 : Int32)), .val (.int (4 : Int32)), .unset, .unset, .unset] [(.ref b5)])) _
    refine XS.astore X6.here hx rfl (hb hby at_68) rfl rfl (l' := #[.val (.int p1), .val (.int ((p1 &&& (3 : Int32)) + (1 : Int32))), .val (.ref b2), .val (.int ((0 : Int32) + (1 : Int32))), .val (.int (2 : Int32)), .val (.int (3 : Int32)), .val (.int (4 : Int32)), .val (.ref b5), .unset, .unset]) rfl ?_
    show Steps p.tables e below (T6.setTop (mkF m 70 #[.val (.int p1), .val (.int ((p1 &&& (3 : Int32)) + (1 : Int32))), .val (.ref b2), .val (.int ((0 : Int32) + (1 : Int32))), .val (.int (2 : Int32)), .val (.int (3 : Int32)), .val (.int (4 : Int32)), .val (.ref b5), .unset, .unset] [])) _
    refine XS.aload X6.here hx rfl (hb hby at_70) rfl rfl ?_
    show Steps p.tables e below (T6.setTop (mkF m 72 #[.val (.int p1), .val (.int ((p1 &&& (3 : Int32)) + (1 : Int32))), .val (.ref b2), .val (.int ((0 : Int32) + (1 : Int32))), .val (.int (2 : Int32)), .val (.int (3 : Int32)), .val (.int (4 : Int32)), .val (.ref b5), .unset, .unset] [(.ref b5)])) _
    refine st7.trans ?_
    show Steps p.tables e below (T7.setTop (mkF m 75 #[.val (.int p1), .val (.int ((p1 &&& (3 : Int32)) + (1 : Int32))), .val (.ref b2), .val (.int ((0 : Int32) + (1 : Int32))), .val (.int (2 : Int32)), .val (.int (3 : Int32)), .val (.int (4 : Int32)), .val (.ref b5), .unset, .unset] [(.int ((0 : Int32) + (1 : Int32)))])) _
    refine XS.istore X7.here hx rfl (hb hby at_75) rfl (l' := #[.val (.int p1), .val (.int ((p1 &&& (3 : Int32)) + (1 : Int32))), .val (.ref b2), .val (.int ((0 : Int32) + (1 : Int32))), .val (.int (2 : Int32)), .val (.int (3 : Int32)), .val (.int (4 : Int32)), .val (.ref b5), .val (.int ((0 : Int32) + (1 : Int32))), .unset]) rfl ?_
    show Steps p.tables e below (T7.setTop (mkF m 77 #[.val (.int p1), .val (.int ((p1 &&& (3 : Int32)) + (1 : Int32))), .val (.ref b2), .val (.int ((0 : Int32) + (1 : Int32))), .val (.int (2 : Int32)), .val (.int (3 : Int32)), .val (.int (4 : Int32)), .val (.ref b5), .val (.int ((0 : Int32) + (1 : Int32))), .unset] [])) _
    refine XS.aloadN X7.here hx rfl (hb hby at_77) rfl rfl ?_
    show Steps p.tables e below (T7.setTop (mkF m 78 #[.val (.int p1), .val (.int ((p1 &&& (3 : Int32)) + (1 : Int32))), .val (.ref b2), .val (.int ((0 : Int32) + (1 : Int32))), .val (.int (2 : Int32)), .val (.int (3 : Int32)), .val (.int (4 : Int32)), .val (.ref b5), .val (.int ((0 : Int32) + (1 : Int32))), .unset] [(.ref b2)])) _
    refine st8.trans ?_
    show Steps p.tables e below (T8.setTop (mkF m 81 #[.val (.int p1), .val (.int ((p1 &&& (3 : Int32)) + (1 : Int32))), .val (.ref b2), .val (.int ((0 : Int32) + (1 : Int32))), .val (.int (2 : Int32)), .val (.int (3 : Int32)), .val (.int (4 : Int32)), .val (.ref b5), .val (.int ((0 : Int32) + (1 : Int32))), .unset] [(.int ((0 : Int32) + (0 : Int32)))])) _
    refine XS.istore X8.here hx rfl (hb hby at_81) rfl (l' := #[.val (.int p1), .val (.int ((p1 &&& (3 : Int32)) + (1 : Int32))), .val (.ref b2), .val (.int ((0 : Int32) + (1 : Int32))), .val (.int (2 : Int32)), .val (.int (3 : Int32)), .val (.int (4 : Int32)), .val (.ref b5), .val (.int ((0 : Int32) + (1 : Int32))), .val (.int ((0 : Int32) + (0 : Int32)))]) rfl ?_
    show Steps p.tables e below (T8.setTop (mkF m 83 #[.val (.int p1), .val (.int ((p1 &&& (3 : Int32)) + (1 : Int32))), .val (.ref b2), .val (.int ((0 : Int32) + (1 : Int32))), .val (.int (2 : Int32)), .val (.int (3 : Int32)), .val (.int (4 : Int32)), .val (.ref b5), .val (.int ((0 : Int32) + (1 : Int32))), .val (.int ((0 : Int32) + (0 : Int32)))] [])) _
    refine XS.iloadN X8.here hx rfl (hb hby at_83) rfl ?_
    show Steps p.tables e below (T8.setTop (mkF m 84 #[.val (.int p1), .val (.int ((p1 &&& (3 : Int32)) + (1 : Int32))), .val (.ref b2), .val (.int ((0 : Int32) + (1 : Int32))), .val (.int (2 : Int32)), .val (.int (3 : Int32)), .val (.int (4 : Int32)), .val (.ref b5), .val (.int ((0 : Int32) + (1 : Int32))), .val (.int ((0 : Int32) + (0 : Int32)))] [(.int ((0 : Int32) + (1 : Int32)))])) _
    refine XS.iconst X8.here hx rfl (hb hby at_84) ?_
    show Steps p.tables e below (T8.setTop (mkF m 85 #[.val (.int p1), .val (.int ((p1 &&& (3 : Int32)) + (1 : Int32))), .val (.ref b2), .val (.int ((0 : Int32) + (1 : Int32))), .val (.int (2 : Int32)), .val (.int (3 : Int32)), .val (.int (4 : Int32)), .val (.ref b5), .val (.int ((0 : Int32) + (1 : Int32))), .val (.int ((0 : Int32) + (0 : Int32)))] [(.int (1 : Int32)), (.int ((0 : Int32) + (1 : Int32)))])) _
    refine XS.icmpNo X8.here hx rfl (hb hby at_85) rfl (teq (by decide : ((0 : Int32) + (1 : Int32)) = (1 : Int32))).2 ?_
    show Steps p.tables e below (T8.setTop (mkF m 88 #[.val (.int p1), .val (.int ((p1 &&& (3 : Int32)) + (1 : Int32))), .val (.ref b2), .val (.int ((0 : Int32) + (1 : Int32))), .val (.int (2 : Int32)), .val (.int (3 : Int32)), .val (.int (4 : Int32)), .val (.ref b5), .val (.int ((0 : Int32) + (1 : Int32))), .val (.int ((0 : Int32) + (0 : Int32)))] [])) _
    refine XS.iload X8.here hx rfl (hb hby at_88) rfl ?_
    show Steps p.tables e below (T8.setTop (mkF m 90 #[.val (.int p1), .val (.int ((p1 &&& (3 : Int32)) + (1 : Int32))), .val (.ref b2), .val (.int ((0 : Int32) + (1 : Int32))), .val (.int (2 : Int32)), .val (.int (3 : Int32)), .val (.int (4 : Int32)), .val (.ref b5), .val (.int ((0 : Int32) + (1 : Int32))), .val (.int ((0 : Int32) + (0 : Int32)))] [(.int (2 : Int32))])) _
    refine XS.iconst X8.here hx rfl (hb hby at_90) ?_
    show Steps p.tables e below (T8.setTop (mkF m 91 #[.val (.int p1), .val (.int ((p1 &&& (3 : Int32)) + (1 : Int32))), .val (.ref b2), .val (.int ((0 : Int32) + (1 : Int32))), .val (.int (2 : Int32)), .val (.int (3 : Int32)), .val (.int (4 : Int32)), .val (.ref b5), .val (.int ((0 : Int32) + (1 : Int32))), .val (.int ((0 : Int32) + (0 : Int32)))] [(.int (2 : Int32)), (.int (2 : Int32))])) _
    refine XS.icmpNo X8.here hx rfl (hb hby at_91) rfl (teq (rfl : (2 : Int32) = (2 : Int32))).2 ?_
    show Steps p.tables e below (T8.setTop (mkF m 94 #[.val (.int p1), .val (.int ((p1 &&& (3 : Int32)) + (1 : Int32))), .val (.ref b2), .val (.int ((0 : Int32) + (1 : Int32))), .val (.int (2 : Int32)), .val (.int (3 : Int32)), .val (.int (4 : Int32)), .val (.ref b5), .val (.int ((0 : Int32) + (1 : Int32))), .val (.int ((0 : Int32) + (0 : Int32)))] [])) _
    refine XS.iload X8.here hx rfl (hb hby at_94) rfl ?_
    show Steps p.tables e below (T8.setTop (mkF m 96 #[.val (.int p1), .val (.int ((p1 &&& (3 : Int32)) + (1 : Int32))), .val (.ref b2), .val (.int ((0 : Int32) + (1 : Int32))), .val (.int (2 : Int32)), .val (.int (3 : Int32)), .val (.int (4 : Int32)), .val (.ref b5), .val (.int ((0 : Int32) + (1 : Int32))), .val (.int ((0 : Int32) + (0 : Int32)))] [(.int (3 : Int32))])) _
    refine XS.iconst X8.here hx rfl (hb hby at_96) ?_
    show Steps p.tables e below (T8.setTop (mkF m 97 #[.val (.int p1), .val (.int ((p1 &&& (3 : Int32)) + (1 : Int32))), .val (.ref b2), .val (.int ((0 : Int32) + (1 : Int32))), .val (.int (2 : Int32)), .val (.int (3 : Int32)), .val (.int (4 : Int32)), .val (.ref b5), .val (.int ((0 : Int32) + (1 : Int32))), .val (.int ((0 : Int32) + (0 : Int32)))] [(.int (3 : Int32)), (.int (3 : Int32))])) _
    refine XS.icmpNo X8.here hx rfl (hb hby at_97) rfl (teq (rfl : (3 : Int32) = (3 : Int32))).2 ?_
    show Steps p.tables e below (T8.setTop (mkF m 100 #[.val (.int p1), .val (.int ((p1 &&& (3 : Int32)) + (1 : Int32))), .val (.ref b2), .val (.int ((0 : Int32) + (1 : Int32))), .val (.int (2 : Int32)), .val (.int (3 : Int32)), .val (.int (4 : Int32)), .val (.ref b5), .val (.int ((0 : Int32) + (1 : Int32))), .val (.int ((0 : Int32) + (0 : Int32)))] [])) _
    refine XS.iload X8.here hx rfl (hb hby at_100) rfl ?_
    show Steps p.tables e below (T8.setTop (mkF m 102 #[.val (.int p1), .val (.int ((p1 &&& (3 : Int32)) + (1 : Int32))), .val (.ref b2), .val (.int ((0 : Int32) + (1 : Int32))), .val (.int (2 : Int32)), .val (.int (3 : Int32)), .val (.int (4 : Int32)), .val (.ref b5), .val (.int ((0 : Int32) + (1 : Int32))), .val (.int ((0 : Int32) + (0 : Int32)))] [(.int (4 : Int32))])) _
    refine XS.iconst X8.here hx rfl (hb hby at_102) ?_
    show Steps p.tables e below (T8.setTop (mkF m 103 #[.val (.int p1), .val (.int ((p1 &&& (3 : Int32)) + (1 : Int32))), .val (.ref b2), .val (.int ((0 : Int32) + (1 : Int32))), .val (.int (2 : Int32)), .val (.int (3 : Int32)), .val (.int (4 : Int32)), .val (.ref b5), .val (.int ((0 : Int32) + (1 : Int32))), .val (.int ((0 : Int32) + (0 : Int32)))] [(.int (4 : Int32)), (.int (4 : Int32))])) _
    refine XS.icmpNo X8.here hx rfl (hb hby at_103) rfl (teq (rfl : (4 : Int32) = (4 : Int32))).2 ?_
    show Steps p.tables e below (T8.setTop (mkF m 106 #[.val (.int p1), .val (.int ((p1 &&& (3 : Int32)) + (1 : Int32))), .val (.ref b2), .val (.int ((0 : Int32) + (1 : Int32))), .val (.int (2 : Int32)), .val (.int (3 : Int32)), .val (.int (4 : Int32)), .val (.ref b5), .val (.int ((0 : Int32) + (1 : Int32))), .val (.int ((0 : Int32) + (0 : Int32)))] [])) _
    refine XS.iload X8.here hx rfl (hb hby at_106) rfl ?_
    show Steps p.tables e below (T8.setTop (mkF m 108 #[.val (.int p1), .val (.int ((p1 &&& (3 : Int32)) + (1 : Int32))), .val (.ref b2), .val (.int ((0 : Int32) + (1 : Int32))), .val (.int (2 : Int32)), .val (.int (3 : Int32)), .val (.int (4 : Int32)), .val (.ref b5), .val (.int ((0 : Int32) + (1 : Int32))), .val (.int ((0 : Int32) + (0 : Int32)))] [(.int ((0 : Int32) + (1 : Int32)))])) _
    refine XS.iconst X8.here hx rfl (hb hby at_108) ?_
    show Steps p.tables e below (T8.setTop (mkF m 109 #[.val (.int p1), .val (.int ((p1 &&& (3 : Int32)) + (1 : Int32))), .val (.ref b2), .val (.int ((0 : Int32) + (1 : Int32))), .val (.int (2 : Int32)), .val (.int (3 : Int32)), .val (.int (4 : Int32)), .val (.ref b5), .val (.int ((0 : Int32) + (1 : Int32))), .val (.int ((0 : Int32) + (0 : Int32)))] [(.int (1 : Int32)), (.int ((0 : Int32) + (1 : Int32)))])) _
    refine XS.icmpNo X8.here hx rfl (hb hby at_109) rfl (teq (by decide : ((0 : Int32) + (1 : Int32)) = (1 : Int32))).2 ?_
    show Steps p.tables e below (T8.setTop (mkF m 112 #[.val (.int p1), .val (.int ((p1 &&& (3 : Int32)) + (1 : Int32))), .val (.ref b2), .val (.int ((0 : Int32) + (1 : Int32))), .val (.int (2 : Int32)), .val (.int (3 : Int32)), .val (.int (4 : Int32)), .val (.ref b5), .val (.int ((0 : Int32) + (1 : Int32))), .val (.int ((0 : Int32) + (0 : Int32)))] [])) _
    refine XS.iload X8.here hx rfl (hb hby at_112) rfl ?_
    show Steps p.tables e below (T8.setTop (mkF m 114 #[.val (.int p1), .val (.int ((p1 &&& (3 : Int32)) + (1 : Int32))), .val (.ref b2), .val (.int ((0 : Int32) + (1 : Int32))), .val (.int (2 : Int32)), .val (.int (3 : Int32)), .val (.int (4 : Int32)), .val (.ref b5), .val (.int ((0 : Int32) + (1 : Int32))), .val (.int ((0 : Int32) + (0 : Int32)))] [(.int ((0 : Int32) + (0 : Int32)))])) _
    refine XS.ifNo X8.here hx rfl (hb hby at_114) rfl ((if0 _ _).trans (teq (by decide : ((0 : Int32) + (0 : Int32)) = (0 : Int32))).2) ?_
    show Steps p.tables e below (T8.setTop (mkF m 117 #[.val (.int p1), .val (.int ((p1 &&& (3 : Int32)) + (1 : Int32))), .val (.ref b2), .val (.int ((0 : Int32) + (1 : Int32))), .val (.int (2 : Int32)), .val (.int (3 : Int32)), .val (.int (4 : Int32)), .val (.ref b5), .val (.int ((0 : Int32) + (1 : Int32))), .val (.int ((0 : Int32) + (0 : Int32)))] [])) _
    refine XS.iconst X8.here hx rfl (hb hby at_117) ?_
    show Steps p.tables e below (T8.setTop (mkF m 118 #[.val (.int p1), .val (.int ((p1 &&& (3 : Int32)) + (1 : Int32))), .val (.ref b2), .val (.int ((0 : Int32) + (1 : Int32))), .val (.int (2 : Int32)), .val (.int (3 : Int32)), .val (.int (4 : Int32)), .val (.ref b5), .val (.int ((0 : Int32) + (1 : Int32))), .val (.int ((0 : Int32) + (0 : Int32)))] [(.int (1 : Int32))])) _
    refine XS.goto X8.here hx rfl (pc0 := 118) (pc' := 122) rfl (hb hby at_118) (by decide) (by decide) ?_
    show Steps p.tables e below (T8.setTop (mkF m 122 #[.val (.int p1), .val (.int ((p1 &&& (3 : Int32)) + (1 : Int32))), .val (.ref b2), .val (.int ((0 : Int32) + (1 : Int32))), .val (.int (2 : Int32)), .val (.int (3 : Int32)), .val (.int (4 : Int32)), .val (.ref b5), .val (.int ((0 : Int32) + (1 : Int32))), .val (.int ((0 : Int32) + (0 : Int32)))] [(.int (1 : Int32))])) _
    exact retN X8 hx (t := .boolean) Bd.returns (by simp) (hb hby at_122) hr
  · show Q0 Z p1 h0 n0 _ T8.heap _
    exact ⟨rfl, N8⟩
set_option maxRecDepth 65536 in
set_option maxHeartbeats 40000000 in
theorem rm0_2 (l : Launch) (Z : State) (a0 : Array Value) (hw : ∀ d ∈ tables_1, d.before a0 Z = true) (ws : List Jvm.Cond) (p1 : Int32) (w3 : Addr) (h0 : Heap) (n0 : Nat) (Z0 : n0 ≤ h0.size) (ST0 : Sta Z h0 "java/util/ArrayList" "DEFAULTCAPACITY_EMPTY_ELEMENTDATA" "[Ljava/lang/Object;" (.ref w3)) (hc24 : ¬ (((p1 &&& (3 : Int32)) + (1 : Int32)) < (2 : Int32))) (hc38 : ((p1 &&& (3 : Int32)) + (1 : Int32)) < (3 : Int32)) (hc52 : ((p1 &&& (3 : Int32)) + (1 : Int32)) < (4 : Int32)) :
    MetFree l x (head1 (Jvm.Cond.code x code maxLocals ret :: ws) room_1) (fun a U => a = #[(.int p1)] ∧ Z.Warmed39 U.vm ∧ U.heap = h0) (fun _ _ _ _ _ => True) (fun _ U o U' => ∃ v L, o = .returned v ∧ Q0 Z p1 h0 n0 v U'.heap L ∧ FrameEnd U o U' L room_1.cells room_1.slots) := by
  refine MetFree.of_bodySF (plainFor_of_name pn_0) hisR ?_
  intro p e s m args below meth c s₁ Bd hml0 hP hK
  obtain ⟨rfl, hZ, hh⟩ := hP
  have hx := Bd.exec
  have hby := Bd.bytes
  have hml : c.maxLocals = 10 := hml0
  have hown : s.vm.findClass "com/example/steplint/steplint/prove/SmtScriptFreshPinLaw" = some m.cls := findClass_of_methodNamed Bd.named
  have hnm := (name_of_methodNamed Bd.named Bd.method).1
  have X0 : Stand p l e room_1 s m #[(.int p1)] below meth c s₁ [] 0 0 := Stand.of_body Bd
  have e0 : s₁.heap = h0 := by rw [← hh, Bd.state]; rfl
  have N0 := Fr.nil n0
  have pre0 : ∀ t, Steps p.tables e below (s₁.setTop (mkF m 0 #[.val (.int p1), .unset, .unset, .unset, .unset, .unset, .unset, .unset, .unset, .unset] [])) t → Steps p.tables e below (s₁.setTop (entryFrame m #[(.int p1)] maxLocals)) t := fun t k => castTop (ef_0 m p1) k
  -- 3. LAWS
  have KK0 : Keep h0 h0 [] := Keep.refl h0 []
  obtain ⟨T2, h2, X2, e2, E2, A2, D2, -, st2⟩ := newO X0 hx hZ hown (hw _ (List.mem_of_getElem? (i := 0) rfl)) (hw _ (List.mem_of_getElem? (i := 1) rfl)) (hw _ (List.mem_of_getElem? (i := 2) rfl)) e0 (g := (mkF m 6 #[.val (.int p1), .val (.int ((p1 &&& (3 : Int32)) + (1 : Int32))), .unset, .unset, .unset, .unset, .unset, .unset, .unset, .unset] [])) rfl (hb hby at_6) (by decide) (by decide)
  obtain ⟨b2, g2⟩ : ∃ z, z = h0.size := ⟨_, rfl⟩
  rw [← g2] at A2 D2 st2
  have F_declarations_b2 : Fld Z h2 b2 "com/example/steplint/steplint/prove/SmtScript" "declarations" "Ljava/util/List;" .null := D2 (Or.inr (hw _ (List.mem_of_getElem? (i := 34) rfl))) (ty := (.object "java/util/List")) (by decide)
  have F_assertions_b2 : Fld Z h2 b2 "com/example/steplint/steplint/prove/SmtScript" "assertions" "Ljava/util/List;" .null := D2 (Or.inr (hw _ (List.mem_of_getElem? (i := 36) rfl))) (ty := (.object "java/util/List")) (by decide)
  have F_sorts_b2 : Fld Z h2 b2 "com/example/steplint/steplint/prove/SmtScript" "sorts" "Ljava/util/Map;" .null := D2 (Or.inr (hw _ (List.mem_of_getElem? (i := 54) rfl))) (ty := (.object "java/util/Map")) (by decide)
  have F_pairTypes_b2 : Fld Z h2 b2 "com/example/steplint/steplint/prove/SmtScript" "pairTypes" "Ljava/util/Map;" .null := D2 (Or.inr (hw _ (List.mem_of_getElem? (i := 56) rfl))) (ty := (.object "java/util/Map")) (by decide)
  have F_constants_b2 : Fld Z h2 b2 "com/example/steplint/steplint/prove/SmtScript" "constants" "Ljava/util/Map;" .null := D2 (Or.inr (hw _ (List.mem_of_getElem? (i := 58) rfl))) (ty := (.object "java/util/Map")) (by decide)
  have F_definitions_b2 : Fld Z h2 b2 "com/example/steplint/steplint/prove/SmtScript" "definitions" "Ljava/util/Map;" .null := D2 (Or.inr (hw _ (List.mem_of_getElem? (i := 60) rfl))) (ty := (.object "java/util/Map")) (by decide)
  have F_definedValues_b2 : Fld Z h2 b2 "com/example/steplint/steplint/prove/SmtScript" "definedValues" "Ljava/util/Set;" .null := D2 (Or.inr (hw _ (List.mem_of_getElem? (i := 81) rfl))) (ty := (.object "java/util/Set")) (by decide)
  have F_functions_b2 : Fld Z h2 b2 "com/example/steplint/steplint/prove/SmtScript" "functions" "Ljava/util/Map;" .null := D2 (Or.inr (hw _ (List.mem_of_getElem? (i := 83) rfl))) (ty := (.object "java/util/Map")) (by decide)
  have F_facts_b2 : Fld Z h2 b2 "com/example/steplint/steplint/prove/SmtScript" "facts" "Ljava/util/Set;" .null := D2 (Or.inr (hw _ (List.mem_of_getElem? (i := 85) rfl))) (ty := (.object "java/util/Set")) (by decide)
  have F_placeholders_b2 : Fld Z h2 b2 "com/example/steplint/steplint/prove/SmtScript" "placeholders" "Ljava/util/Map;" .null := D2 (Or.inr (hw _ (List.mem_of_getElem? (i := 87) rfl))) (ty := (.object "java/util/Map")) (by decide)
  have F_letNamesInUse_b2 : Fld Z h2 b2 "com/example/steplint/steplint/prove/SmtScript" "letNamesInUse" "Ljava/util/Set;" .null := D2 (Or.inr (hw _ (List.mem_of_getElem? (i := 89) rfl))) (ty := (.object "java/util/Set")) (by decide)
  have F_sharedForms_b2 : Fld Z h2 b2 "com/example/steplint/steplint/prove/SmtScript" "sharedForms" "Lcom/example/steplint/steplint/prove/SmtScript$SharedForms;" .null := D2 (Or.inr (hw _ (List.mem_of_getElem? (i := 106) rfl))) (ty := (.object "com/example/steplint/steplint/prove/SmtScript$SharedForms")) (by decide)
  have F_sizeNotes_b2 : Fld Z h2 b2 "com/example/steplint/steplint/prove/SmtScript" "sizeNotes" "Ljava/util/List;" .null := D2 (Or.inr (hw _ (List.mem_of_getElem? (i := 108) rfl))) (ty := (.object "java/util/List")) (by decide)
  have F_sizeKeys_b2 : Fld Z h2 b2 "com/example/steplint/steplint/prove/SmtScript" "sizeKeys" "Ljava/util/Set;" .null := D2 (Or.inr (hw _ (List.mem_of_getElem? (i := 110) rfl))) (ty := (.object "java/util/Set")) (by decide)
  have F_sizedTerms_b2 : Fld Z h2 b2 "com/example/steplint/steplint/prove/SmtScript" "sizedTerms" "Ljava/util/Set;" .null := D2 (Or.inr (hw _ (List.mem_of_getElem? (i := 112) rfl))) (ty := (.object "java/util/Set")) (by decide)
  have F_countedSets_b2 : Fld Z h2 b2 "com/example/steplint/steplint/prove/SmtScript" "countedSets" "Ljava/util/Map;" .null := D2 (Or.inr (hw _ (List.mem_of_getElem? (i := 114) rfl))) (ty := (.object "java/util/Map")) (by decide)
  have F_countedNotes_b2 : Fld Z h2 b2 "com/example/steplint/steplint/prove/SmtScript" "countedNotes" "Ljava/util/List;" .null := D2 (Or.inr (hw _ (List.mem_of_getElem? (i := 116) rfl))) (ty := (.object "java/util/List")) (by decide)
  have F_variableSymbols_b2 : Fld Z h2 b2 "com/example/steplint/steplint/prove/SmtScript" "variableSymbols" "Ljava/util/Set;" .null := D2 (Or.inr (hw _ (List.mem_of_getElem? (i := 118) rfl))) (ty := (.object "java/util/Set")) (by decide)
  have F_names_b2 : Fld Z h2 b2 "com/example/steplint/steplint/prove/SmtScript" "names" "I" (.int (0 : Int32)) := D2 (Or.inl (hw _ (List.mem_of_getElem? (i := 125) rfl))) (ty := .int) (by decide)
  have E_b2 := A2
  have g_b2 : n0 ≤ b2 := Nat.le_trans Z0 (Nat.le_trans KK0.1 (Nat.le_of_eq g2.symm))
  have sz_b2 : h0.size ≤ b2 := Nat.le_trans KK0.1 (Nat.le_of_eq g2.symm)
  have KK2 : Keep h0 h2 [] := KK0.ext E2
  have ST2 := ST0.ext E2
  have BB2 : Sc Z h2 b2 (fun s => if s = "names" then .int (0 : Int32) else .null) := ⟨E_b2, by
    intro q hq
    simp only [own_fl, List.mem_cons, List.not_mem_nil, or_false] at hq
    rcases hq with rfl | rfl | rfl | rfl | rfl | rfl | rfl | rfl | rfl | rfl | rfl | rfl | rfl | rfl | rfl | rfl | rfl | rfl | rfl
    · exact F_declarations_b2
    · exact F_assertions_b2
    · exact F_sorts_b2
    · exact F_pairTypes_b2
    · exact F_constants_b2
    · exact F_definitions_b2
    · exact F_definedValues_b2
    · exact F_functions_b2
    · exact F_facts_b2
    · exact F_placeholders_b2
    · exact F_letNamesInUse_b2
    · exact F_sharedForms_b2
    · exact F_sizeNotes_b2
    · exact F_sizeKeys_b2
    · exact F_sizedTerms_b2
    · exact F_countedSets_b2
    · exact F_countedNotes_b2
    · exact F_variableSymbols_b2
    · exact F_names_b2⟩
  obtain ⟨_, _, ⟨T3, L3, k3, n3⟩, -, X3, ⟨Lc3, hQ3, l3, y3, z3⟩, st3⟩ := X2.specialBack hx (y := (⟨"com/example/steplint/steplint/prove/SmtScript", "<init>", "()V"⟩ : MethodName)) rfl hown (mvT hZ (hw _ (List.mem_of_getElem? (i := 3) rfl))) (mvT hZ (hw _ (List.mem_of_getElem? (i := 4) rfl))) (mvT hZ (hw _ (List.mem_of_getElem? (i := 5) rfl))) (by decide) (backOf (W := 1) (rm1 l Z a0 hw [] b2 w3 _ h2 n0 (Nat.le_trans Z0 KK2.1) BB2 ST2 rfl g_b2) hZ (hw _ (List.mem_of_getElem? (i := 5) rfl)) (hw _ (List.mem_of_getElem? (i := 2) rfl)) (by decide) (by decide)) (g := (mkF m 10 #[.val (.int p1), .val (.int ((p1 &&& (3 : Int32)) + (1 : Int32))), .unset, .unset, .unset, .unset, .unset, .unset, .unset, .unset] [(.ref b2), (.ref b2)])) rfl (by rw [hml]; rfl) (Steps.refl _) (a := b2) (argsL := []) (rest := [(.ref b2)]) (lenOf pd_0_0 rfl) rfl (by show 2 * 0 + _ ≤ _; exact Nat.le_of_eq rfl) (hb hby at_10) (fun _ _ => ⟨rfl, e2, (by decide : 1 + 26 ≤ _), (by decide : 19 + 141 ≤ _)⟩)
  dsimp only [Pt.U, Pt.locs, Pt.cells, Pt.slots] at X3 l3 y3 z3 st3 hQ3
  have y3' : k3 = 27 := y3
  have z3' : n3 = 160 := z3
  clear y3 z3
  subst y3' z3'
  obtain ⟨rfl, N3q, K3, d_b2, s_b2, sd_b2, ss_b2, Rb2_3⟩ := hQ3
  have N3 : Fr n0 L3 := by rw [l3]; exact Fr.app N0 N3q
  clear l3
  have KK3 : Keep h0 T3.heap [] := KK2.trans K3 fun x hx => by cases List.mem_singleton.mp hx; exact Or.inr sz_b2
  have ST3 := own_sta_keep ST2 K3 E_b2
  obtain ⟨cq4, kq4, q4a, q4b, q4c⟩ := isOf hZ rfl Rb2_3.1
  obtain ⟨_, _, ⟨T4, L4, k4, n4⟩, -, X4, ⟨Lc4, hQ4, l4, y4, z4⟩, st4⟩ := X3.virtualBack hx (y := (⟨"com/example/steplint/steplint/prove/SmtScript", "fresh", "()I"⟩ : MethodName)) (z := (⟨"com/example/steplint/steplint/prove/SmtScript", "fresh", "()I"⟩ : MethodName)) hown (mvT hZ (hw _ (List.mem_of_getElem? (i := 119) rfl))) (mvT hZ (hw _ (List.mem_of_getElem? (i := 120) rfl))) (notFace_of_selects (args := #[]) (mvT hZ (hw _ (List.mem_of_getElem? (i := 122) rfl)))) (mvT hZ (hw _ (List.mem_of_getElem? (i := 122) rfl))) (mvT hZ (hw _ (List.mem_of_getElem? (i := 121) rfl))) (by decide) (backOf (W := 0) (rm11 l Z a0 hw [] b2 d_b2 s_b2 (0 : Int32) T3.heap n0 (Nat.le_trans Z0 KK3.1) Rb2_3 g_b2) hZ (hw _ (List.mem_of_getElem? (i := 123) rfl)) (hw _ (List.mem_of_getElem? (i := 2) rfl)) (by decide) (by decide)) q4a q4c (g := (mkF m 15 #[.val (.int p1), .val (.int ((p1 &&& (3 : Int32)) + (1 : Int32))), .val (.ref b2), .unset, .unset, .unset, .unset, .unset, .unset, .unset] [(.ref b2)])) rfl (by rw [hml]; rfl) (Steps.refl _) (argsL := []) (rest := []) (lenOf pd_0_2 rfl) rfl (by show 2 * 0 + _ ≤ _; exact Nat.le_of_eq rfl) (hb hby at_15) (fun _ _ => ⟨rfl, rfl, (by decide : 27 + 0 ≤ _), (by decide : 160 + 0 ≤ _)⟩)
  dsimp only [Pt.U, Pt.locs, Pt.cells, Pt.slots] at X4 l4 y4 z4 st4 hQ4
  have y4' : k4 = 27 := y4
  have z4' : n4 = 160 := z4
  clear y4 z4
  subst y4' z4'
  obtain ⟨rfl, N4q, K4, Rb2_4⟩ := hQ4
  have N4 : Fr n0 L4 := by rw [l4]; exact Fr.app N3 N4q
  clear l4
  have KK4 : Keep h0 T4.heap [] := KK3.trans K4 fun x hx => by cases List.mem_singleton.mp hx; exact Or.inr sz_b2
  have ST4 := own_sta_keep ST3 K4 Rb2_3.1
  obtain ⟨cq5, kq5, q5a, q5b, q5c⟩ := isOf hZ rfl Rb2_4.1
  obtain ⟨_, _, ⟨T5, L5, k5, n5⟩, -, X5, ⟨Lc5, hQ5, l5, y5, z5⟩, st5⟩ := X4.virtualBack hx (y := (⟨"com/example/steplint/steplint/prove/SmtScript", "fresh", "()I"⟩ : MethodName)) (z := (⟨"com/example/steplint/steplint/prove/SmtScript", "fresh", "()I"⟩ : MethodName)) hown (mvT hZ (hw _ (List.mem_of_getElem? (i := 119) rfl))) (mvT hZ (hw _ (List.mem_of_getElem? (i := 120) rfl))) (notFace_of_selects (args := #[]) (mvT hZ (hw _ (List.mem_of_getElem? (i := 122) rfl)))) (mvT hZ (hw _ (List.mem_of_getElem? (i := 122) rfl))) (mvT hZ (hw _ (List.mem_of_getElem? (i := 121) rfl))) (by decide) (backOf (W := 0) (rm11 l Z a0 hw [] b2 d_b2 s_b2 ((0 : Int32) + (1 : Int32)) T4.heap n0 (Nat.le_trans Z0 KK4.1) Rb2_4 g_b2) hZ (hw _ (List.mem_of_getElem? (i := 123) rfl)) (hw _ (List.mem_of_getElem? (i := 2) rfl)) (by decide) (by decide)) q5a q5c (g := (mkF m 28 #[.val (.int p1), .val (.int ((p1 &&& (3 : Int32)) + (1 : Int32))), .val (.ref b2), .val (.int ((0 : Int32) + (1 : Int32))), .val (.int (2 : Int32)), .unset, .unset, .unset, .unset, .unset] [(.ref b2)])) rfl (by rw [hml]; rfl) (Steps.refl _) (argsL := []) (rest := []) (lenOf pd_0_2 rfl) rfl (by show 2 * 0 + _ ≤ _; exact Nat.le_of_eq rfl) (hb hby at_28) (fun _ _ => ⟨rfl, rfl, (by decide : 27 + 0 ≤ _), (by decide : 160 + 0 ≤ _)⟩)
  dsimp only [Pt.U, Pt.locs, Pt.cells, Pt.slots] at X5 l5 y5 z5 st5 hQ5
  have y5' : k5 = 27 := y5
  have z5' : n5 = 160 := z5
  clear y5 z5
  subst y5' z5'
  obtain ⟨rfl, N5q, K5, Rb2_5⟩ := hQ5
  have N5 : Fr n0 L5 := by rw [l5]; exact Fr.app N4 N5q
  clear l5
  have KK5 : Keep h0 T5.heap [] := KK4.trans K5 fun x hx => by cases List.mem_singleton.mp hx; exact Or.inr sz_b2
  have ST5 := own_sta_keep ST4 K5 Rb2_4.1
  obtain ⟨T6, h6, X6, e6, E6, A6, D6, -, st6⟩ := newO X5 hx hZ hown (hw _ (List.mem_of_getElem? (i := 0) rfl)) (hw _ (List.mem_of_getElem? (i := 1) rfl)) (hw _ (List.mem_of_getElem? (i := 2) rfl)) rfl (g := (mkF m 61 #[.val (.int p1), .val (.int ((p1 &&& (3 : Int32)) + (1 : Int32))), .val (.ref b2), .val (.int ((0 : Int32) + (1 : Int32))), .val (.int (((0 : Int32) + (1 : Int32)) + (1 : Int32))), .val (.int (3 : Int32)), .val (.int (4 : Int32)), .unset, .unset, .unset] [])) rfl (hb hby at_61) (by decide) (by decide)
  obtain ⟨b6, g6⟩ : ∃ z, z = T5.heap.size := ⟨_, rfl⟩
  rw [← g6] at A6 D6 st6
  have F_declarations_b6 : Fld Z h6 b6 "com/example/steplint/steplint/prove/SmtScript" "declarations" "Ljava/util/List;" .null := D6 (Or.inr (hw _ (List.mem_of_getElem? (i := 34) rfl))) (ty := (.object "java/util/List")) (by decide)
  have F_assertions_b6 : Fld Z h6 b6 "com/example/steplint/steplint/prove/SmtScript" "assertions" "Ljava/util/List;" .null := D6 (Or.inr (hw _ (List.mem_of_getElem? (i := 36) rfl))) (ty := (.object "java/util/List")) (by decide)
  have F_sorts_b6 : Fld Z h6 b6 "com/example/steplint/steplint/prove/SmtScript" "sorts" "Ljava/util/Map;" .null := D6 (Or.inr (hw _ (List.mem_of_getElem? (i := 54) rfl))) (ty := (.object "java/util/Map")) (by decide)
  have F_pairTypes_b6 : Fld Z h6 b6 "com/example/steplint/steplint/prove/SmtScript" "pairTypes" "Ljava/util/Map;" .null := D6 (Or.inr (hw _ (List.mem_of_getElem? (i := 56) rfl))) (ty := (.object "java/util/Map")) (by decide)
  have F_constants_b6 : Fld Z h6 b6 "com/example/steplint/steplint/prove/SmtScript" "constants" "Ljava/util/Map;" .null := D6 (Or.inr (hw _ (List.mem_of_getElem? (i := 58) rfl))) (ty := (.object "java/util/Map")) (by decide)
  have F_definitions_b6 : Fld Z h6 b6 "com/example/steplint/steplint/prove/SmtScript" "definitions" "Ljava/util/Map;" .null := D6 (Or.inr (hw _ (List.mem_of_getElem? (i := 60) rfl))) (ty := (.object "java/util/Map")) (by decide)
  have F_definedValues_b6 : Fld Z h6 b6 "com/example/steplint/steplint/prove/SmtScript" "definedValues" "Ljava/util/Set;" .null := D6 (Or.inr (hw _ (List.mem_of_getElem? (i := 81) rfl))) (ty := (.object "java/util/Set")) (by decide)
  have F_functions_b6 : Fld Z h6 b6 "com/example/steplint/steplint/prove/SmtScript" "functions" "Ljava/util/Map;" .null := D6 (Or.inr (hw _ (List.mem_of_getElem? (i := 83) rfl))) (ty := (.object "java/util/Map")) (by decide)
  have F_facts_b6 : Fld Z h6 b6 "com/example/steplint/steplint/prove/SmtScript" "facts" "Ljava/util/Set;" .null := D6 (Or.inr (hw _ (List.mem_of_getElem? (i := 85) rfl))) (ty := (.object "java/util/Set")) (by decide)
  have F_placeholders_b6 : Fld Z h6 b6 "com/example/steplint/steplint/prove/SmtScript" "placeholders" "Ljava/util/Map;" .null := D6 (Or.inr (hw _ (List.mem_of_getElem? (i := 87) rfl))) (ty := (.object "java/util/Map")) (by decide)
  have F_letNamesInUse_b6 : Fld Z h6 b6 "com/example/steplint/steplint/prove/SmtScript" "letNamesInUse" "Ljava/util/Set;" .null := D6 (Or.inr (hw _ (List.mem_of_getElem? (i := 89) rfl))) (ty := (.object "java/util/Set")) (by decide)
  have F_sharedForms_b6 : Fld Z h6 b6 "com/example/steplint/steplint/prove/SmtScript" "sharedForms" "Lcom/example/steplint/steplint/prove/SmtScript$SharedForms;" .null := D6 (Or.inr (hw _ (List.mem_of_getElem? (i := 106) rfl))) (ty := (.object "com/example/steplint/steplint/prove/SmtScript$SharedForms")) (by decide)
  have F_sizeNotes_b6 : Fld Z h6 b6 "com/example/steplint/steplint/prove/SmtScript" "sizeNotes" "Ljava/util/List;" .null := D6 (Or.inr (hw _ (List.mem_of_getElem? (i := 108) rfl))) (ty := (.object "java/util/List")) (by decide)
  have F_sizeKeys_b6 : Fld Z h6 b6 "com/example/steplint/steplint/prove/SmtScript" "sizeKeys" "Ljava/util/Set;" .null := D6 (Or.inr (hw _ (List.mem_of_getElem? (i := 110) rfl))) (ty := (.object "java/util/Set")) (by decide)
  have F_sizedTerms_b6 : Fld Z h6 b6 "com/example/steplint/steplint/prove/SmtScript" "sizedTerms" "Ljava/util/Set;" .null := D6 (Or.inr (hw _ (List.mem_of_getElem? (i := 112) rfl))) (ty := (.object "java/util/Set")) (by decide)
  have F_countedSets_b6 : Fld Z h6 b6 "com/example/steplint/steplint/prove/SmtScript" "countedSets" "Ljava/util/Map;" .null := D6 (Or.inr (hw _ (List.mem_of_getElem? (i := 114) rfl))) (ty := (.object "java/util/Map")) (by decide)
  have F_countedNotes_b6 : Fld Z h6 b6 "com/example/steplint/steplint/prove/SmtScript" "countedNotes" "Ljava/util/List;" .null := D6 (Or.inr (hw _ (List.mem_of_getElem? (i := 116) rfl))) (ty := (.object "java/util/List")) (by decide)
  have F_variableSymbols_b6 : Fld Z h6 b6 "com/example/steplint/steplint/prove/SmtScript" "variableSymbols" "Ljava/util/Set;" .null := D6 (Or.inr (hw _ (List.mem_of_getElem? (i := 118) rfl))) (ty := (.object "java/util/Set")) (by decide)
  have F_names_b6 : Fld Z h6 b6 "com/example/steplint/steplint/prove/SmtScript" "names" "I" (.int (0 : Int32)) := D6 (Or.inl (hw _ (List.mem_of_getElem? (i := 125) rfl))) (ty := .int) (by decide)
  have E_b6 := A6
  have g_b6 : n0 ≤ b6 := Nat.le_trans Z0 (Nat.le_trans KK5.1 (Nat.le_of_eq g6.symm))
  have sz_b6 : h0.size ≤ b6 := Nat.le_trans KK5.1 (Nat.le_of_eq g6.symm)
  have ne_b2_b6 := Rb2_5.lts (Nat.le_of_eq g6.symm)
  have Rb2_6 := Rb2_5.ext E6
  have KK6 : Keep h0 h6 [] := KK5.ext E6
  have ST6 := ST5.ext E6
  have BB6 : Sc Z h6 b6 (fun s => if s = "names" then .int (0 : Int32) else .null) := ⟨E_b6, by
    intro q hq
    simp only [own_fl, List.mem_cons, List.not_mem_nil, or_false] at hq
    rcases hq with rfl | rfl | rfl | rfl | rfl | rfl | rfl | rfl | rfl | rfl | rfl | rfl | rfl | rfl | rfl | rfl | rfl | rfl | rfl
    · exact F_declarations_b6
    · exact F_assertions_b6
    · exact F_sorts_b6
    · exact F_pairTypes_b6
    · exact F_constants_b6
    · exact F_definitions_b6
    · exact F_definedValues_b6
    · exact F_functions_b6
    · exact F_facts_b6
    · exact F_placeholders_b6
    · exact F_letNamesInUse_b6
    · exact F_sharedForms_b6
    · exact F_sizeNotes_b6
    · exact F_sizeKeys_b6
    · exact F_sizedTerms_b6
    · exact F_countedSets_b6
    · exact F_countedNotes_b6
    · exact F_variableSymbols_b6
    · exact F_names_b6⟩
  obtain ⟨_, _, ⟨T7, L7, k7, n7⟩, -, X7, ⟨Lc7, hQ7, l7, y7, z7⟩, st7⟩ := X6.specialBack hx (y := (⟨"com/example/steplint/steplint/prove/SmtScript", "<init>", "()V"⟩ : MethodName)) rfl hown (mvT hZ (hw _ (List.mem_of_getElem? (i := 3) rfl))) (mvT hZ (hw _ (List.mem_of_getElem? (i := 4) rfl))) (mvT hZ (hw _ (List.mem_of_getElem? (i := 5) rfl))) (by decide) (backOf (W := 1) (rm1 l Z a0 hw [] b6 w3 _ h6 n0 (Nat.le_trans Z0 KK6.1) BB6 ST6 rfl g_b6) hZ (hw _ (List.mem_of_getElem? (i := 5) rfl)) (hw _ (List.mem_of_getElem? (i := 2) rfl)) (by decide) (by decide)) (g := (mkF m 65 #[.val (.int p1), .val (.int ((p1 &&& (3 : Int32)) + (1 : Int32))), .val (.ref b2), .val (.int ((0 : Int32) + (1 : Int32))), .val (.int (((0 : Int32) + (1 : Int32)) + (1 : Int32))), .val (.int (3 : Int32)), .val (.int (4 : Int32)), .unset, .unset, .unset] [(.ref b6), (.ref b6)])) rfl (by rw [hml]; rfl) (Steps.refl _) (a := b6) (argsL := []) (rest := [(.ref b6)]) (lenOf pd_0_0 rfl) rfl (by show 2 * 0 + _ ≤ _; exact Nat.le_of_eq rfl) (hb hby at_65) (fun _ _ => ⟨rfl, e6, (by decide : 28 + 26 ≤ _), (by decide : 179 + 141 ≤ _)⟩)
  dsimp only [Pt.U, Pt.locs, Pt.cells, Pt.slots] at X7 l7 y7 z7 st7 hQ7
  have y7' : k7 = 54 := y7
  have z7' : n7 = 320 := z7
  clear y7 z7
  subst y7' z7'
  obtain ⟨rfl, N7q, K7, d_b6, s_b6, sd_b6, ss_b6, Rb6_7⟩ := hQ7
  have N7 : Fr n0 L7 := by rw [l7]; exact Fr.app N5 N7q
  clear l7
  have KK7 : Keep h0 T7.heap [] := KK6.trans K7 fun x hx => by cases List.mem_singleton.mp hx; exact Or.inr sz_b6
  have ST7 := own_sta_keep ST6 K7 E_b6
  have Rb2_7 := Rb2_6.keep K7 ne_b2_b6
  obtain ⟨cq8, kq8, q8a, q8b, q8c⟩ := isOf hZ rfl Rb6_7.1
  obtain ⟨_, _, ⟨T8, L8, k8, n8⟩, -, X8, ⟨Lc8, hQ8, l8, y8, z8⟩, st8⟩ := X7.virtualBack hx (y := (⟨"com/example/steplint/steplint/prove/SmtScript", "fresh", "()I"⟩ : MethodName)) (z := (⟨"com/example/steplint/steplint/prove/SmtScript", "fresh", "()I"⟩ : MethodName)) hown (mvT hZ (hw _ (List.mem_of_getElem? (i := 119) rfl))) (mvT hZ (hw _ (List.mem_of_getElem? (i := 120) rfl))) (notFace_of_selects (args := #[]) (mvT hZ (hw _ (List.mem_of_getElem? (i := 122) rfl)))) (mvT hZ (hw _ (List.mem_of_getElem? (i := 122) rfl))) (mvT hZ (hw _ (List.mem_of_getElem? (i := 121) rfl))) (by decide) (backOf (W := 0) (rm11 l Z a0 hw [] b6 d_b6 s_b6 (0 : Int32) T7.heap n0 (Nat.le_trans Z0 KK7.1) Rb6_7 g_b6) hZ (hw _ (List.mem_of_getElem? (i := 123) rfl)) (hw _ (List.mem_of_getElem? (i := 2) rfl)) (by decide) (by decide)) q8a q8c (g := (mkF m 72 #[.val (.int p1), .val (.int ((p1 &&& (3 : Int32)) + (1 : Int32))), .val (.ref b2), .val (.int ((0 : Int32) + (1 : Int32))), .val (.int (((0 : Int32) + (1 : Int32)) + (1 : Int32))), .val (.int (3 : Int32)), .val (.int (4 : Int32)), .val (.ref b6), .unset, .unset] [(.ref b6)])) rfl (by rw [hml]; rfl) (Steps.refl _) (argsL := []) (rest := []) (lenOf pd_0_2 rfl) rfl (by show 2 * 0 + _ ≤ _; exact Nat.le_of_eq rfl) (hb hby at_72) (fun _ _ => ⟨rfl, rfl, (by decide : 54 + 0 ≤ _), (by decide : 320 + 0 ≤ _)⟩)
  dsimp only [Pt.U, Pt.locs, Pt.cells, Pt.slots] at X8 l8 y8 z8 st8 hQ8
  have y8' : k8 = 54 := y8
  have z8' : n8 = 320 := z8
  clear y8 z8
  subst y8' z8'
  obtain ⟨rfl, N8q, K8, Rb6_8⟩ := hQ8
  have N8 : Fr n0 L8 := by rw [l8]; exact Fr.app N7 N8q
  clear l8
  have KK8 : Keep h0 T8.heap [] := KK7.trans K8 fun x hx => by cases List.mem_singleton.mp hx; exact Or.inr sz_b6
  have ST8 := own_sta_keep ST7 K8 Rb6_7.1
  have Rb2_8 := Rb2_7.keep K8 ne_b2_b6
  obtain ⟨cq9, kq9, q9a, q9b, q9c⟩ := isOf hZ rfl Rb2_8.1
  obtain ⟨_, _, ⟨T9, L9, k9, n9⟩, -, X9, ⟨Lc9, hQ9, l9, y9, z9⟩, st9⟩ := X8.virtualBack hx (y := (⟨"com/example/steplint/steplint/prove/SmtScript", "said", "()I"⟩ : MethodName)) (z := (⟨"com/example/steplint/steplint/prove/SmtScript", "said", "()I"⟩ : MethodName)) hown (mvT hZ (hw _ (List.mem_of_getElem? (i := 126) rfl))) (mvT hZ (hw _ (List.mem_of_getElem? (i := 127) rfl))) (notFace_of_selects (args := #[]) (mvT hZ (hw _ (List.mem_of_getElem? (i := 129) rfl)))) (mvT hZ (hw _ (List.mem_of_getElem? (i := 129) rfl))) (mvT hZ (hw _ (List.mem_of_getElem? (i := 128) rfl))) (by decide) (backOf (W := 0) (rm12 l Z a0 hw [] b2 d_b2 s_b2 T8.heap n0 (Nat.le_trans Z0 KK8.1) Rb2_8.2.2.1 Rb2_8.2.2.2.2.1.1 Rb2_8.2.2.2.1 Rb2_8.2.2.2.2.2.1.1 Rb2_8.2.2.2.2.1.2 Rb2_8.2.2.2.2.2.1.2) hZ (hw _ (List.mem_of_getElem? (i := 130) rfl)) (hw _ (List.mem_of_getElem? (i := 2) rfl)) (by decide) (by decide)) q9a q9c (g := (mkF m 78 #[.val (.int p1), .val (.int ((p1 &&& (3 : Int32)) + (1 : Int32))), .val (.ref b2), .val (.int ((0 : Int32) + (1 : Int32))), .val (.int (((0 : Int32) + (1 : Int32)) + (1 : Int32))), .val (.int (3 : Int32)), .val (.int (4 : Int32)), .val (.ref b6), .val (.int ((0 : Int32) + (1 : Int32))), .unset] [(.ref b2)])) rfl (by rw [hml]; rfl) (Steps.refl _) (argsL := []) (rest := []) (lenOf pd_0_2 rfl) rfl (by show 2 * 0 + _ ≤ _; exact Nat.le_of_eq rfl) (hb hby at_78) (fun _ _ => ⟨rfl, rfl, (by decide : 54 + 0 ≤ _), (by decide : 320 + 0 ≤ _)⟩)
  dsimp only [Pt.U, Pt.locs, Pt.cells, Pt.slots] at X9 l9 y9 z9 st9 hQ9
  have y9' : k9 = 54 := y9
  have z9' : n9 = 320 := z9
  clear y9 z9
  subst y9' z9'
  obtain ⟨rfl, N9q, q9⟩ := hQ9
  have N9 : Fr n0 L9 := by rw [l9]; exact Fr.app N8 N9q
  clear l9
  obtain ⟨fs, hr, hrun, hended, hW, hsame⟩ := X9.leave (v := some (.int (1 : Int32))) (fun h => by rw [Bd.returns] at h; cases h)
  refine ⟨_, _, pre0 _ ?_, hrun, hended, _, _, rfl, ?_, ⟨_, rfl⟩, hW, hsame.mono (by decide) (by decide)⟩
  -- 4. STEPS
  · show Steps p.tables e below (s₁.setTop (mkF m 0 #[.val (.int p1), .unset, .unset, .unset, .unset, .unset, .unset, .unset, .unset, .unset] [])) _
    refine XS.iloadN X0.here hx rfl (hb hby at_0) rfl ?_
    show Steps p.tables e below (s₁.setTop (mkF m 1 #[.val (.int p1), .unset, .unset, .unset, .unset, .unset, .unset, .unset, .unset, .unset] [(.int p1)])) _
    refine XS.iconst X0.here hx rfl (hb hby at_1) ?_
    show Steps p.tables e below (s₁.setTop (mkF m 2 #[.val (.int p1), .unset, .unset, .unset, .unset, .unset, .unset, .unset, .unset, .unset] [(.int (3 : Int32)), (.int p1)])) _
    refine XS.iand X0.here hx rfl (hb hby at_2) rfl ?_
    show Steps p.tables e below (s₁.setTop (mkF m 3 #[.val (.int p1), .unset, .unset, .unset, .unset, .unset, .unset, .unset, .unset, .unset] [(.int (p1 &&& (3 : Int32)))])) _
    refine XS.iconst X0.here hx rfl (hb hby at_3) ?_
    show Steps p.tables e below (s₁.setTop (mkF m 4 #[.val (.int p1), .unset, .unset, .unset, .unset, .unset, .unset, .unset, .unset, .unset] [(.int (1 : Int32)), (.int (p1 &&& (3 : Int32)))])) _
    refine XS.iadd X0.here hx rfl (hb hby at_4) rfl ?_
    show Steps p.tables e below (s₁.setTop (mkF m 5 #[.val (.int p1), .unset, .unset, .unset, .unset, .unset, .unset, .unset, .unset, .unset] [(.int ((p1 &&& (3 : Int32)) + (1 : Int32)))])) _
    refine XS.istoreN X0.here hx rfl (hb hby at_5) rfl (l' := #[.val (.int p1), .val (.int ((p1 &&& (3 : Int32)) + (1 : Int32))), .unset, .unset, .unset, .unset, .unset, .unset, .unset, .unset]) rfl ?_
    show Steps p.tables e below (s₁.setTop (mkF m 6 #[.val (.int p1), .val (.int ((p1 &&& (3 : Int32)) + (1 : Int32))), .unset, .unset, .unset, .unset, .unset, .unset, .unset, .unset] [])) _
    refine st2 _ ?_
    show Steps p.tables e below (T2.setTop (mkF m 9 #[.val (.int p1), .val (.int ((p1 &&& (3 : Int32)) + (1 : Int32))), .unset, .unset, .unset, .unset, .unset, .unset, .unset, .unset] [(.ref b2)])) _
    refine XS.dup X2.here hx rfl (hb hby at_9) rfl rfl ?_
    show Steps p.tables e below (T2.setTop (mkF m 10 #[.val (.int p1), .val (.int ((p1 &&& (3 : Int32)) + (1 : Int32))), .unset, .unset, .unset, .unset, .unset, .unset, .unset, .unset] [(.ref b2), (.ref b2)])) _
    refine st3.trans ?_
    show Steps p.tables e below (T3.setTop (mkF m 13 #[.val (.int p1), .val (.int ((p1 &&& (3 : Int32)) + (1 : Int32))), .unset, .unset, .unset, .unset, .unset, .unset, .unset, .unset] [(.ref b2)])) _
    refine XS.astoreN X3.here hx rfl (hb hby at_13) rfl rfl (l' := #[.val (.int p1), .val (.int ((p1 &&& (3 : Int32)) + (1 : Int32))), .val (.ref b2), .unset, .unset, .unset, .unset, .unset, .unset, .unset]) rfl ?_
    show Steps p.tables e below (T3.setTop (mkF m 14 #[.val (.int p1), .val (.int ((p1 &&& (3 : Int32)) + (1 : Int32))), .val (.ref b2), .unset, .unset, .unset, .unset, .unset, .unset, .unset] [])) _
    refine XS.aloadN X3.here hx rfl (hb hby at_14) rfl rfl ?_
    show Steps p.tables e below (T3.setTop (mkF m 15 #[.val (.int p1), .val (.int ((p1 &&& (3 : Int32)) + (1 : Int32))), .val (.ref b2), .unset, .unset, .unset, .unset, .unset, .unset, .unset] [(.ref b2)])) _
    refine st4.trans ?_
    show Steps p.tables e below (T4.setTop (mkF m 18 #[.val (.int p1), .val (.int ((p1 &&& (3 : Int32)) + (1 : Int32))), .val (.ref b2), .unset, .unset, .unset, .unset, .unset, .unset, .unset] [(.int ((0 : Int32) + (1 : Int32)))])) _
    refine XS.istoreN X4.here hx rfl (hb hby at_18) rfl (l' := #[.val (.int p1), .val (.int ((p1 &&& (3 : Int32)) + (1 : Int32))), .val (.ref b2), .val (.int ((0 : Int32) + (1 : Int32))), .unset, .unset, .unset, .unset, .unset, .unset]) rfl ?_
    show Steps p.tables e below (T4.setTop (mkF m 19 #[.val (.int p1), .val (.int ((p1 &&& (3 : Int32)) + (1 : Int32))), .val (.ref b2), .val (.int ((0 : Int32) + (1 : Int32))), .unset, .unset, .unset, .unset, .unset, .unset] [])) _
    refine XS.iconst X4.here hx rfl (hb hby at_19) ?_
    show Steps p.tables e below (T4.setTop (mkF m 20 #[.val (.int p1), .val (.int ((p1 &&& (3 : Int32)) + (1 : Int32))), .val (.ref b2), .val (.int ((0 : Int32) + (1 : Int32))), .unset, .unset, .unset, .unset, .unset, .unset] [(.int (2 : Int32))])) _
    refine XS.istore X4.here hx rfl (hb hby at_20) rfl (l' := #[.val (.int p1), .val (.int ((p1 &&& (3 : Int32)) + (1 : Int32))), .val (.ref b2), .val (.int ((0 : Int32) + (1 : Int32))), .val (.int (2 : Int32)), .unset, .unset, .unset, .unset, .unset]) rfl ?_
    show Steps p.tables e below (T4.setTop (mkF m 22 #[.val (.int p1), .val (.int ((p1 &&& (3 : Int32)) + (1 : Int32))), .val (.ref b2), .val (.int ((0 : Int32) + (1 : Int32))), .val (.int (2 : Int32)), .unset, .unset, .unset, .unset, .unset] [])) _
    refine XS.iloadN X4.here hx rfl (hb hby at_22) rfl ?_
    show Steps p.tables e below (T4.setTop (mkF m 23 #[.val (.int p1), .val (.int ((p1 &&& (3 : Int32)) + (1 : Int32))), .val (.ref b2), .val (.int ((0 : Int32) + (1 : Int32))), .val (.int (2 : Int32)), .unset, .unset, .unset, .unset, .unset] [(.int ((p1 &&& (3 : Int32)) + (1 : Int32)))])) _
    refine XS.iconst X4.here hx rfl (hb hby at_23) ?_
    show Steps p.tables e below (T4.setTop (mkF m 24 #[.val (.int p1), .val (.int ((p1 &&& (3 : Int32)) + (1 : Int32))), .val (.ref b2), .val (.int ((0 : Int32) + (1 : Int32))), .val (.int (2 : Int32)), .unset, .unset, .unset, .unset, .unset] [(.int (2 : Int32)), (.int ((p1 &&& (3 : Int32)) + (1 : Int32)))])) _
    refine XS.icmpNo X4.here hx rfl (hb hby at_24) rfl (flt hc24).1 ?_
    show Steps p.tables e below (T4.setTop (mkF m 27 #[.val (.int p1), .val (.int ((p1 &&& (3 : Int32)) + (1 : Int32))), .val (.ref b2), .val (.int ((0 : Int32) + (1 : Int32))), .val (.int (2 : Int32)), .unset, .unset, .unset, .unset, .unset] [])) _
    refine XS.aloadN X4.here hx rfl (hb hby at_27) rfl rfl ?_
    show Steps p.tables e below (T4.setTop (mkF m 28 #[.val (.int p1), .val (.int ((p1 &&& (3 : Int32)) + (1 : Int32))), .val (.ref b2), .val (.int ((0 : Int32) + (1 : Int32))), .val (.int (2 : Int32)), .unset, .unset, .unset, .unset, .unset] [(.ref b2)])) _
    refine st5.trans ?_
    show Steps p.tables e below (T5.setTop (mkF m 31 #[.val (.int p1), .val (.int ((p1 &&& (3 : Int32)) + (1 : Int32))), .val (.ref b2), .val (.int ((0 : Int32) + (1 : Int32))), .val (.int (2 : Int32)), .unset, .unset, .unset, .unset, .unset] [(.int (((0 : Int32) + (1 : Int32)) + (1 : Int32)))])) _
    refine XS.istore X5.here hx rfl (hb hby at_31) rfl (l' := #[.val (.int p1), .val (.int ((p1 &&& (3 : Int32)) + (1 : Int32))), .val (.ref b2), .val (.int ((0 : Int32) + (1 : Int32))), .val (.int (((0 : Int32) + (1 : Int32)) + (1 : Int32))), .unset, .unset, .unset, .unset, .unset]) rfl ?_
    show Steps p.tables e below (T5.setTop (mkF m 33 #[.val (.int p1), .val (.int ((p1 &&& (3 : Int32)) + (1 : Int32))), .val (.ref b2), .val (.int ((0 : Int32) + (1 : Int32))), .val (.int (((0 : Int32) + (1 : Int32)) + (1 : Int32))), .unset, .unset, .unset, .unset, .unset] [])) _
    refine XS.iconst X5.here hx rfl (hb hby at_33) ?_
    show Steps p.tables e below (T5.setTop (mkF m 34 #[.val (.int p1), .val (.int ((p1 &&& (3 : Int32)) + (1 : Int32))), .val (.ref b2), .val (.int ((0 : Int32) + (1 : Int32))), .val (.int (((0 : Int32) + (1 : Int32)) + (1 : Int32))), .unset, .unset, .unset, .unset, .unset] [(.int (3 : Int32))])) _
    refine XS.istore X5.here hx rfl (hb hby at_34) rfl (l' := #[.val (.int p1), .val (.int ((p1 &&& (3 : Int32)) + (1 : Int32))), .val (.ref b2), .val (.int ((0 : Int32) + (1 : Int32))), .val (.int (((0 : Int32) + (1 : Int32)) + (1 : Int32))), .val (.int (3 : Int32)), .unset, .unset, .unset, .unset]) rfl ?_
    show Steps p.tables e below (T5.setTop (mkF m 36 #[.val (.int p1), .val (.int ((p1 &&& (3 : Int32)) + (1 : Int32))), .val (.ref b2), .val (.int ((0 : Int32) + (1 : Int32))), .val (.int (((0 : Int32) + (1 : Int32)) + (1 : Int32))), .val (.int (3 : Int32)), .unset, .unset, .unset, .unset] [])) _
    refine XS.iloadN X5.here hx rfl (hb hby at_36) rfl ?_
    show Steps p.tables e below (T5.setTop (mkF m 37 #[.val (.int p1), .val (.int ((p1 &&& (3 : Int32)) + (1 : Int32))), .val (.ref b2), .val (.int ((0 : Int32) + (1 : Int32))), .val (.int (((0 : Int32) + (1 : Int32)) + (1 : Int32))), .val (.int (3 : Int32)), .unset, .unset, .unset, .unset] [(.int ((p1 &&& (3 : Int32)) + (1 : Int32)))])) _
    refine XS.iconst X5.here hx rfl (hb hby at_37) ?_
    show Steps p.tables e below (T5.setTop (mkF m 38 #[.val (.int p1), .val (.int ((p1 &&& (3 : Int32)) + (1 : Int32))), .val (.ref b2), .val (.int ((0 : Int32) + (1 : Int32))), .val (.int (((0 : Int32) + (1 : Int32)) + (1 : Int32))), .val (.int (3 : Int32)), .unset, .unset, .unset, .unset] [(.int (3 : Int32)), (.int ((p1 &&& (3 : Int32)) + (1 : Int32)))])) _
    refine XS.icmpYes X5.here hx rfl (pc0 := 38) (pc' := 47) rfl (hb hby at_38) rfl (tlt hc38).1 (by decide) (by decide) ?_
    show Steps p.tables e below (T5.setTop (mkF m 47 #[.val (.int p1), .val (.int ((p1 &&& (3 : Int32)) + (1 : Int32))), .val (.ref b2), .val (.int ((0 : Int32) + (1 : Int32))), .val (.int (((0 : Int32) + (1 : Int32)) + (1 : Int32))), .val (.int (3 : Int32)), .unset, .unset, .unset, .unset] [])) _
    refine XS.iconst X5.here hx rfl (hb hby at_47) ?_
    show Steps p.tables e below (T5.setTop (mkF m 48 #[.val (.int p1), .val (.int ((p1 &&& (3 : Int32)) + (1 : Int32))), .val (.ref b2), .val (.int ((0 : Int32) + (1 : Int32))), .val (.int (((0 : Int32) + (1 : Int32)) + (1 : Int32))), .val (.int (3 : Int32)), .unset, .unset, .unset, .unset] [(.int (4 : Int32))])) _
    refine XS.istore X5.here hx rfl (hb hby at_48) rfl (l' := #[.val (.int p1), .val (.int ((p1 &&& (3 : Int32)) + (1 : Int32))), .val (.ref b2), .val (.int ((0 : Int32) + (1 : Int32))), .val (.int (((0 : Int32) + (1 : Int32)) + (1 : Int32))), .val (.int (3 : Int32)), .val (.int (4 : Int32)), .unset, .unset, .unset]) rfl ?_
    show Steps p.tables e below (T5.setTop (mkF m 50 #[.val (.int p1), .val (.int ((p1 &&& (3 : Int32)) + (1 : Int32))), .val (.ref b2), .val (.int ((0 : Int32) + (1 : Int32))), .val (.int (((0 : Int32) + (1 : Int32)) + (1 : Int32))), .val (.int (3 : Int32)), .val (.int (4 : Int32)), .unset, .unset, .unset] [])) _
    refine XS.iloadN X5.here hx rfl (hb hby at_50) rfl ?_
    show Steps p.tables e below (T5.setTop (mkF m 51 #[.val (.int p1), .val (.int ((p1 &&& (3 : Int32)) + (1 : Int32))), .val (.ref b2), .val (.int ((0 : Int32) + (1 : Int32))), .val (.int (((0 : Int32) + (1 : Int32)) + (1 : Int32))), .val (.int (3 : Int32)), .val (.int (4 : Int32)), .unset, .unset, .unset] [(.int ((p1 &&& (3 : Int32)) + (1 : Int32)))])) _
    refine XS.iconst X5.here hx rfl (hb hby at_51) ?_
    show Steps p.tables e below (T5.setTop (mkF m 52 #[.val (.int p1), .val (.int ((p1 &&& (3 : Int32)) + (1 : Int32))), .val (.ref b2), .val (.int ((0 : Int32) + (1 : Int32))), .val (.int (((0 : Int32) + (1 : Int32)) + (1 : Int32))), .val (.int (3 : Int32)), .val (.int (4 : Int32)), .unset, .unset, .unset] [(.int (4 : Int32)), (.int ((p1 &&& (3 : Int32)) + (1 : Int32)))])) _
    refine XS.icmpYes X5.here hx rfl (pc0 := 52) (pc' := 61) rfl (hb hby at_52) rfl (tlt hc52).1 (by decide) (by decide) ?_
    show Steps p.tables e below (T5.setTop (mkF m 61 #[.val (.int p1), .val (.int ((p1 &&& (3 : Int32)) + (1 : Int32))), .val (.ref b2), .val (.int ((0 : Int32) + (1 : Int32))), .val (.int (((0 : Int32) + (1 : Int32)) + (1 : Int32))), .val (.int (3 : Int32)), .val (.int (4 : Int32)), .unset, .unset, .unset] [])) _
    refine st6 _ ?_
    show Steps p.tables e below (T6.setTop (mkF m 64 #[.val (.int p1), .val (.int ((p1 &&& (3 : Int32)) + (1 : Int32))), .val (.ref b2), .val (.int ((0 : Int32) + (1 : Int32))), .val (.int (((0 : Int32) + (1 : Int32)) + (1 : Int32))), .val (.int (3 : Int32)), .val (.int (4 : Int32)), .unset, .unset, .unset] [(.ref b6)])) _
    refine XS.dup X6.here hx rfl (hb hby at_64) rfl rfl ?_
    show Steps p.tables e below (T6.setTop (mkF m 65 #[.val (.int p1), .val (.int ((p1 &&& (3 : Int32)) + (1 : Int32))), .val (.ref b2), .val (.int ((0 : Int32) + (1 : Int32))), .val (.int (((0 : Int32) + (1 : Int32)) + (1 : Int32))), .val (.int (3 : Int32)), .val (.int (4 : Int32)), .unset, .unset, .unset] [(.ref b6), (.ref b6)])) _
    refine st7.trans ?_
    show Steps p.tables e below (T7.setTop (mkF m 68 #[.val (.int p1), .val (.int ((p1 &&& (3 : Int32)) + (1 : Int32))), .val (.ref b2), .val (.int ((0 : Int32) + (1 : Int32))), .val (.int (((0 : Int32) + (1 : Int32)) + (1 : Int32))), .val (.int (3 : Int32)), .val (.int (4 : Int32)), .unset, .unset, .unset] [(.ref b6)])) _
    refine XS.astore X7.here hx rfl (hb hby at_68) rfl rfl (l' := #[.val (.int p1), .val (.int ((p1 &&& (3 : Int32)) + (1 : Int32))), .val (.ref b2), .val (.int ((0 : Int32) + (1 : Int32))), .val (.int (((0 : Int32) + (1 : Int32)) + (1 : Int32))), .val (.int (3 : Int32)), .val (.int (4 : Int32)), .val (.ref b6), .unset, .unset]) rfl ?_
    show Steps p.tables e below (T7.setTop (mkF m 70 #[.val (.int p1), .val (.int ((p1 &&& (3 : Int32)) + (1 : Int32))), .val (.ref b2), .val (.int ((0 : Int32) + (1 : Int32))), .val (.int (((0 : Int32) + (1 : Int32)) + (1 : Int32))), .val (.int (3 : Int32)), .val (.int (4 : Int32)), .val (.ref b6), .unset, .unset] [])) _
    refine XS.aload X7.here hx rfl (hb hby at_70) rfl rfl ?_
    show Steps p.tables e below (T7.setTop (mkF m 72 #[.val (.int p1), .val (.int ((p1 &&& (3 : Int32)) + (1 : Int32))), .val (.ref b2), .val (.int ((0 : Int32) + (1 : Int32))), .val (.int (((0 : Int32) + (1 : Int32)) + (1 : Int32))), .val (.int (3 : Int32)), .val (.int (4 : Int32)), .val (.ref b6), .unset, .unset] [(.ref b6)])) _
    refine st8.trans ?_
    show Steps p.tables e below (T8.setTop (mkF m 75 #[.val (.int p1), .val (.int ((p1 &&& (3 : Int32)) + (1 : Int32))), .val (.ref b2), .val (.int ((0 : Int32) + (1 : Int32))), .val (.int (((0 : Int32) + (1 : Int32)) + (1 : Int32))), .val (.int (3 : Int32)), .val (.int (4 : Int32)), .val (.ref b6), .unset, .unset] [(.int ((0 : Int32) + (1 : Int32)))])) _
    refine XS.istore X8.here hx rfl (hb hby at_75) rfl (l' := #[.val (.int p1), .val (.int ((p1 &&& (3 : Int32)) + (1 : Int32))), .val (.ref b2), .val (.int ((0 : Int32) + (1 : Int32))), .val (.int (((0 : Int32) + (1 : Int32)) + (1 : Int32))), .val (.int (3 : Int32)), .val (.int (4 : Int32)), .val (.ref b6), .val (.int ((0 : Int32) + (1 : Int32))), .unset]) rfl ?_
    show Steps p.tables e below (T8.setTop (mkF m 77 #[.val (.int p1), .val (.int ((p1 &&& (3 : Int32)) + (1 : Int32))), .val (.ref b2), .val (.int ((0 : Int32) + (1 : Int32))), .val (.int (((0 : Int32) + (1 : Int32)) + (1 : Int32))), .val (.int (3 : Int32)), .val (.int (4 : Int32)), .val (.ref b6), .val (.int ((0 : Int32) + (1 : Int32))), .unset] [])) _
    refine XS.aloadN X8.here hx rfl (hb hby at_77) rfl rfl ?_
    show Steps p.tables e below (T8.setTop (mkF m 78 #[.val (.int p1), .val (.int ((p1 &&& (3 : Int32)) + (1 : Int32))), .val (.ref b2), .val (.int ((0 : Int32) + (1 : Int32))), .val (.int (((0 : Int32) + (1 : Int32)) + (1 : Int32))), .val (.int (3 : Int32)), .val (.int (4 : Int32)), .val (.ref b6), .val (.int ((0 : Int32) + (1 : Int32))), .unset] [(.ref b2)])) _
    refine st9.trans ?_
    show Steps p.tables e below (T9.setTop (mkF m 81 #[.val (.int p1), .val (.int ((p1 &&& (3 : Int32)) + (1 : Int32))), .val (.ref b2), .val (.int ((0 : Int32) + (1 : Int32))), .val (.int (((0 : Int32) + (1 : Int32)) + (1 : Int32))), .val (.int (3 : Int32)), .val (.int (4 : Int32)), .val (.ref b6), .val (.int ((0 : Int32) + (1 : Int32))), .unset] [(.int ((0 : Int32) + (0 : Int32)))])) _
    refine XS.istore X9.here hx rfl (hb hby at_81) rfl (l' := #[.val (.int p1), .val (.int ((p1 &&& (3 : Int32)) + (1 : Int32))), .val (.ref b2), .val (.int ((0 : Int32) + (1 : Int32))), .val (.int (((0 : Int32) + (1 : Int32)) + (1 : Int32))), .val (.int (3 : Int32)), .val (.int (4 : Int32)), .val (.ref b6), .val (.int ((0 : Int32) + (1 : Int32))), .val (.int ((0 : Int32) + (0 : Int32)))]) rfl ?_
    show Steps p.tables e below (T9.setTop (mkF m 83 #[.val (.int p1), .val (.int ((p1 &&& (3 : Int32)) + (1 : Int32))), .val (.ref b2), .val (.int ((0 : Int32) + (1 : Int32))), .val (.int (((0 : Int32) + (1 : Int32)) + (1 : Int32))), .val (.int (3 : Int32)), .val (.int (4 : Int32)), .val (.ref b6), .val (.int ((0 : Int32) + (1 : Int32))), .val (.int ((0 : Int32) + (0 : Int32)))] [])) _
    refine XS.iloadN X9.here hx rfl (hb hby at_83) rfl ?_
    show Steps p.tables e below (T9.setTop (mkF m 84 #[.val (.int p1), .val (.int ((p1 &&& (3 : Int32)) + (1 : Int32))), .val (.ref b2), .val (.int ((0 : Int32) + (1 : Int32))), .val (.int (((0 : Int32) + (1 : Int32)) + (1 : Int32))), .val (.int (3 : Int32)), .val (.int (4 : Int32)), .val (.ref b6), .val (.int ((0 : Int32) + (1 : Int32))), .val (.int ((0 : Int32) + (0 : Int32)))] [(.int ((0 : Int32) + (1 : Int32)))])) _
    refine XS.iconst X9.here hx rfl (hb hby at_84) ?_
    show Steps p.tables e below (T9.setTop (mkF m 85 #[.val (.int p1), .val (.int ((p1 &&& (3 : Int32)) + (1 : Int32))), .val (.ref b2), .val (.int ((0 : Int32) + (1 : Int32))), .val (.int (((0 : Int32) + (1 : Int32)) + (1 : Int32))), .val (.int (3 : Int32)), .val (.int (4 : Int32)), .val (.ref b6), .val (.int ((0 : Int32) + (1 : Int32))), .val (.int ((0 : Int32) + (0 : Int32)))] [(.int (1 : Int32)), (.int ((0 : Int32) + (1 : Int32)))])) _
    refine XS.icmpNo X9.here hx rfl (hb hby at_85) rfl (teq (by decide : ((0 : Int32) + (1 : Int32)) = (1 : Int32))).2 ?_
    show Steps p.tables e below (T9.setTop (mkF m 88 #[.val (.int p1), .val (.int ((p1 &&& (3 : Int32)) + (1 : Int32))), .val (.ref b2), .val (.int ((0 : Int32) + (1 : Int32))), .val (.int (((0 : Int32) + (1 : Int32)) + (1 : Int32))), .val (.int (3 : Int32)), .val (.int (4 : Int32)), .val (.ref b6), .val (.int ((0 : Int32) + (1 : Int32))), .val (.int ((0 : Int32) + (0 : Int32)))] [])) _
    refine XS.iload X9.here hx rfl (hb hby at_88) rfl ?_
    show Steps p.tables e below (T9.setTop (mkF m 90 #[.val (.int p1), .val (.int ((p1 &&& (3 : Int32)) + (1 : Int32))), .val (.ref b2), .val (.int ((0 : Int32) + (1 : Int32))), .val (.int (((0 : Int32) + (1 : Int32)) + (1 : Int32))), .val (.int (3 : Int32)), .val (.int (4 : Int32)), .val (.ref b6), .val (.int ((0 : Int32) + (1 : Int32))), .val (.int ((0 : Int32) + (0 : Int32)))] [(.int (((0 : Int32) + (1 : Int32)) + (1 : Int32)))])) _
    refine XS.iconst X9.here hx rfl (hb hby at_90) ?_
    show Steps p.tables e below (T9.setTop (mkF m 91 #[.val (.int p1), .val (.int ((p1 &&& (3 : Int32)) + (1 : Int32))), .val (.ref b2), .val (.int ((0 : Int32) + (1 : Int32))), .val (.int (((0 : Int32) + (1 : Int32)) + (1 : Int32))), .val (.int (3 : Int32)), .val (.int (4 : Int32)), .val (.ref b6), .val (.int ((0 : Int32) + (1 : Int32))), .val (.int ((0 : Int32) + (0 : Int32)))] [(.int (2 : Int32)), (.int (((0 : Int32) + (1 : Int32)) + (1 : Int32)))])) _
    refine XS.icmpNo X9.here hx rfl (hb hby at_91) rfl (teq (by decide : (((0 : Int32) + (1 : Int32)) + (1 : Int32)) = (2 : Int32))).2 ?_
    show Steps p.tables e below (T9.setTop (mkF m 94 #[.val (.int p1), .val (.int ((p1 &&& (3 : Int32)) + (1 : Int32))), .val (.ref b2), .val (.int ((0 : Int32) + (1 : Int32))), .val (.int (((0 : Int32) + (1 : Int32)) + (1 : Int32))), .val (.int (3 : Int32)), .val (.int (4 : Int32)), .val (.ref b6), .val (.int ((0 : Int32) + (1 : Int32))), .val (.int ((0 : Int32) + (0 : Int32)))] [])) _
    refine XS.iload X9.here hx rfl (hb hby at_94) rfl ?_
    show Steps p.tables e below (T9.setTop (mkF m 96 #[.val (.int p1), .val (.int ((p1 &&& (3 : Int32)) + (1 : Int32))), .val (.ref b2), .val (.int ((0 : Int32) + (1 : Int32))), .val (.int (((0 : Int32) + (1 : Int32)) + (1 : Int32))), .val (.int (3 : Int32)), .val (.int (4 : Int32)), .val (.ref b6), .val (.int ((0 : Int32) + (1 : Int32))), .val (.int ((0 : Int32) + (0 : Int32)))] [(.int (3 : Int32))])) _
    refine XS.iconst X9.here hx rfl (hb hby at_96) ?_
    show Steps p.tables e below (T9.setTop (mkF m 97 #[.val (.int p1), .val (.int ((p1 &&& (3 : Int32)) + (1 : Int32))), .val (.ref b2), .val (.int ((0 : Int32) + (1 : Int32))), .val (.int (((0 : Int32) + (1 : Int32)) + (1 : Int32))), .val (.int (3 : Int32)), .val (.int (4 : Int32)), .val (.ref b6), .val (.int ((0 : Int32) + (1 : Int32))), .val (.int ((0 : Int32) + (0 : Int32)))] [(.int (3 : Int32)), (.int (3 : Int32))])) _
    refine XS.icmpNo X9.here hx rfl (hb hby at_97) rfl (teq (rfl : (3 : Int32) = (3 : Int32))).2 ?_
    show Steps p.tables e below (T9.setTop (mkF m 100 #[.val (.int p1), .val (.int ((p1 &&& (3 : Int32)) + (1 : Int32))), .val (.ref b2), .val (.int ((0 : Int32) + (1 : Int32))), .val (.int (((0 : Int32) + (1 : Int32)) + (1 : Int32))), .val (.int (3 : Int32)), .val (.int (4 : Int32)), .val (.ref b6), .val (.int ((0 : Int32) + (1 : Int32))), .val (.int ((0 : Int32) + (0 : Int32)))] [])) _
    refine XS.iload X9.here hx rfl (hb hby at_100) rfl ?_
    show Steps p.tables e below (T9.setTop (mkF m 102 #[.val (.int p1), .val (.int ((p1 &&& (3 : Int32)) + (1 : Int32))), .val (.ref b2), .val (.int ((0 : Int32) + (1 : Int32))), .val (.int (((0 : Int32) + (1 : Int32)) + (1 : Int32))), .val (.int (3 : Int32)), .val (.int (4 : Int32)), .val (.ref b6), .val (.int ((0 : Int32) + (1 : Int32))), .val (.int ((0 : Int32) + (0 : Int32)))] [(.int (4 : Int32))])) _
    refine XS.iconst X9.here hx rfl (hb hby at_102) ?_
    show Steps p.tables e below (T9.setTop (mkF m 103 #[.val (.int p1), .val (.int ((p1 &&& (3 : Int32)) + (1 : Int32))), .val (.ref b2), .val (.int ((0 : Int32) + (1 : Int32))), .val (.int (((0 : Int32) + (1 : Int32)) + (1 : Int32))), .val (.int (3 : Int32)), .val (.int (4 : Int32)), .val (.ref b6), .val (.int ((0 : Int32) + (1 : Int32))), .val (.int ((0 : Int32) + (0 : Int32)))] [(.int (4 : Int32)), (.int (4 : Int32))])) _
    refine XS.icmpNo X9.here hx rfl (hb hby at_103) rfl (teq (rfl : (4 : Int32) = (4 : Int32))).2 ?_
    show Steps p.tables e below (T9.setTop (mkF m 106 #[.val (.int p1), .val (.int ((p1 &&& (3 : Int32)) + (1 : Int32))), .val (.ref b2), .val (.int ((0 : Int32) + (1 : Int32))), .val (.int (((0 : Int32) + (1 : Int32)) + (1 : Int32))), .val (.int (3 : Int32)), .val (.int (4 : Int32)), .val (.ref b6), .val (.int ((0 : Int32) + (1 : Int32))), .val (.int ((0 : Int32) + (0 : Int32)))] [])) _
    refine XS.iload X9.here hx rfl (hb hby at_106) rfl ?_
    show Steps p.tables e below (T9.setTop (mkF m 108 #[.val (.int p1), .val (.int ((p1 &&& (3 : Int32)) + (1 : Int32))), .val (.ref b2), .val (.int ((0 : Int32) + (1 : Int32))), .val (.int (((0 : Int32) + (1 : Int32)) + (1 : Int32))), .val (.int (3 : Int32)), .val (.int (4 : Int32)), .val (.ref b6), .val (.int ((0 : Int32) + (1 : Int32))), .val (.int ((0 : Int32) + (0 : Int32)))] [(.int ((0 : Int32) + (1 : Int32)))])) _
    refine XS.iconst X9.here hx rfl (hb hby at_108) ?_
    show Steps p.tables e below (T9.setTop (mkF m 109 #[.val (.int p1), .val (.int ((p1 &&& (3 : Int32)) + (1 : Int32))), .val (.ref b2), .val (.int ((0 : Int32) + (1 : Int32))), .val (.int (((0 : Int32) + (1 : Int32)) + (1 : Int32))), .val (.int (3 : Int32)), .val (.int (4 : Int32)), .val (.ref b6), .val (.int ((0 : Int32) + (1 : Int32))), .val (.int ((0 : Int32) + (0 : Int32)))] [(.int (1 : Int32)), (.int ((0 : Int32) + (1 : Int32)))])) _
    refine XS.icmpNo X9.here hx rfl (hb hby at_109) rfl (teq (by decide : ((0 : Int32) + (1 : Int32)) = (1 : Int32))).2 ?_
    show Steps p.tables e below (T9.setTop (mkF m 112 #[.val (.int p1), .val (.int ((p1 &&& (3 : Int32)) + (1 : Int32))), .val (.ref b2), .val (.int ((0 : Int32) + (1 : Int32))), .val (.int (((0 : Int32) + (1 : Int32)) + (1 : Int32))), .val (.int (3 : Int32)), .val (.int (4 : Int32)), .val (.ref b6), .val (.int ((0 : Int32) + (1 : Int32))), .val (.int ((0 : Int32) + (0 : Int32)))] [])) _
    refine XS.iload X9.here hx rfl (hb hby at_112) rfl ?_
    show Steps p.tables e below (T9.setTop (mkF m 114 #[.val (.int p1), .val (.int ((p1 &&& (3 : Int32)) + (1 : Int32))), .val (.ref b2), .val (.int ((0 : Int32) + (1 : Int32))), .val (.int (((0 : Int32) + (1 : Int32)) + (1 : Int32))), .val (.int (3 : Int32)), .val (.int (4 : Int32)), .val (.ref b6), .val (.int ((0 : Int32) + (1 : Int32))), .val (.int ((0 : Int32) + (0 : Int32)))] [(.int ((0 : Int32) + (0 : Int32)))])) _
    refine XS.ifNo X9.here hx rfl (hb hby at_114) rfl ((if0 _ _).trans (teq (by decide : ((0 : Int32) + (0 : Int32)) = (0 : Int32))).2) ?_
    show Steps p.tables e below (T9.setTop (mkF m 117 #[.val (.int p1), .val (.int ((p1 &&& (3 : Int32)) + (1 : Int32))), .val (.ref b2), .val (.int ((0 : Int32) + (1 : Int32))), .val (.int (((0 : Int32) + (1 : Int32)) + (1 : Int32))), .val (.int (3 : Int32)), .val (.int (4 : Int32)), .val (.ref b6), .val (.int ((0 : Int32) + (1 : Int32))), .val (.int ((0 : Int32) + (0 : Int32)))] [])) _
    refine XS.iconst X9.here hx rfl (hb hby at_117) ?_
    show Steps p.tables e below (T9.setTop (mkF m 118 #[.val (.int p1), .val (.int ((p1 &&& (3 : Int32)) + (1 : Int32))), .val (.ref b2), .val (.int ((0 : Int32) + (1 : Int32))), .val (.int (((0 : Int32) + (1 : Int32)) + (1 : Int32))), .val (.int (3 : Int32)), .val (.int (4 : Int32)), .val (.ref b6), .val (.int ((0 : Int32) + (1 : Int32))), .val (.int ((0 : Int32) + (0 : Int32)))] [(.int (1 : Int32))])) _
    refine XS.goto X9.here hx rfl (pc0 := 118) (pc' := 122) rfl (hb hby at_118) (by decide) (by decide) ?_
    show Steps p.tables e below (T9.setTop (mkF m 122 #[.val (.int p1), .val (.int ((p1 &&& (3 : Int32)) + (1 : Int32))), .val (.ref b2), .val (.int ((0 : Int32) + (1 : Int32))), .val (.int (((0 : Int32) + (1 : Int32)) + (1 : Int32))), .val (.int (3 : Int32)), .val (.int (4 : Int32)), .val (.ref b6), .val (.int ((0 : Int32) + (1 : Int32))), .val (.int ((0 : Int32) + (0 : Int32)))] [(.int (1 : Int32))])) _
    exact retN X9 hx (t := .boolean) Bd.returns (by simp) (hb hby at_122) hr
  · show Q0 Z p1 h0 n0 _ T9.heap _
    exact ⟨rfl, N9⟩
set_option maxRecDepth 65536 in
set_option maxHeartbeats 40000000 in
theorem rm0_3 (l : Launch) (Z : State) (a0 : Array Value) (hw : ∀ d ∈ tables_1, d.before a0 Z = true) (ws : List Jvm.Cond) (p1 : Int32) (w3 : Addr) (h0 : Heap) (n0 : Nat) (Z0 : n0 ≤ h0.size) (ST0 : Sta Z h0 "java/util/ArrayList" "DEFAULTCAPACITY_EMPTY_ELEMENTDATA" "[Ljava/lang/Object;" (.ref w3)) (hc24 : ¬ (((p1 &&& (3 : Int32)) + (1 : Int32)) < (2 : Int32))) (hc38 : ¬ (((p1 &&& (3 : Int32)) + (1 : Int32)) < (3 : Int32))) (hc52 : ((p1 &&& (3 : Int32)) + (1 : Int32)) < (4 : Int32)) :
    MetFree l x (head1 (Jvm.Cond.code x code maxLocals ret :: ws) room_1) (fun a U => a = #[(.int p1)] ∧ Z.Warmed39 U.vm ∧ U.heap = h0) (fun _ _ _ _ _ => True) (fun _ U o U' => ∃ v L, o = .returned v ∧ Q0 Z p1 h0 n0 v U'.heap L ∧ FrameEnd U o U' L room_1.cells room_1.slots) := by
  refine MetFree.of_bodySF (plainFor_of_name pn_0) hisR ?_
  intro p e s m args below meth c s₁ Bd hml0 hP hK
  obtain ⟨rfl, hZ, hh⟩ := hP
  have hx := Bd.exec
  have hby := Bd.bytes
  have hml : c.maxLocals = 10 := hml0
  have hown : s.vm.findClass "com/example/steplint/steplint/prove/SmtScriptFreshPinLaw" = some m.cls := findClass_of_methodNamed Bd.named
  have hnm := (name_of_methodNamed Bd.named Bd.method).1
  have X0 : Stand p l e room_1 s m #[(.int p1)] below meth c s₁ [] 0 0 := Stand.of_body Bd
  have e0 : s₁.heap = h0 := by rw [← hh, Bd.state]; rfl
  have N0 := Fr.nil n0
  have pre0 : ∀ t, Steps p.tables e below (s₁.setTop (mkF m 0 #[.val (.int p1), .unset, .unset, .unset, .unset, .unset, .unset, .unset, .unset, .unset] [])) t → Steps p.tables e below (s₁.setTop (entryFrame m #[(.int p1)] maxLocals)) t := fun t k => castTop (ef_0 m p1) k
  -- 3. LAWS
  have KK0 : Keep h0 h0 [] := Keep.refl h0 []
  obtain ⟨T2, h2, X2, e2, E2, A2, D2, -, st2⟩ := newO X0 hx hZ hown (hw _ (List.mem_of_getElem? (i := 0) rfl)) (hw _ (List.mem_of_getElem? (i := 1) rfl)) (hw _ (List.mem_of_getElem? (i := 2) rfl)) e0 (g := (mkF m 6 #[.val (.int p1), .val (.int ((p1 &&& (3 : Int32)) + (1 : Int32))), .unset, .unset, .unset, .unset, .unset, .unset, .unset, .unset] [])) rfl (hb hby at_6) (by decide) (by decide)
  obtain ⟨b2, g2⟩ : ∃ z, z = h0.size := ⟨_, rfl⟩
  rw [← g2] at A2 D2 st2
  have F_declarations_b2 : Fld Z h2 b2 "com/example/steplint/steplint/prove/SmtScript" "declarations" "Ljava/util/List;" .null := D2 (Or.inr (hw _ (List.mem_of_getElem? (i := 34) rfl))) (ty := (.object "java/util/List")) (by decide)
  have F_assertions_b2 : Fld Z h2 b2 "com/example/steplint/steplint/prove/SmtScript" "assertions" "Ljava/util/List;" .null := D2 (Or.inr (hw _ (List.mem_of_getElem? (i := 36) rfl))) (ty := (.object "java/util/List")) (by decide)
  have F_sorts_b2 : Fld Z h2 b2 "com/example/steplint/steplint/prove/SmtScript" "sorts" "Ljava/util/Map;" .null := D2 (Or.inr (hw _ (List.mem_of_getElem? (i := 54) rfl))) (ty := (.object "java/util/Map")) (by decide)
  have F_pairTypes_b2 : Fld Z h2 b2 "com/example/steplint/steplint/prove/SmtScript" "pairTypes" "Ljava/util/Map;" .null := D2 (Or.inr (hw _ (List.mem_of_getElem? (i := 56) rfl))) (ty := (.object "java/util/Map")) (by decide)
  have F_constants_b2 : Fld Z h2 b2 "com/example/steplint/steplint/prove/SmtScript" "constants" "Ljava/util/Map;" .null := D2 (Or.inr (hw _ (List.mem_of_getElem? (i := 58) rfl))) (ty := (.object "java/util/Map")) (by decide)
  have F_definitions_b2 : Fld Z h2 b2 "com/example/steplint/steplint/prove/SmtScript" "definitions" "Ljava/util/Map;" .null := D2 (Or.inr (hw _ (List.mem_of_getElem? (i := 60) rfl))) (ty := (.object "java/util/Map")) (by decide)
  have F_definedValues_b2 : Fld Z h2 b2 "com/example/steplint/steplint/prove/SmtScript" "definedValues" "Ljava/util/Set;" .null := D2 (Or.inr (hw _ (List.mem_of_getElem? (i := 81) rfl))) (ty := (.object "java/util/Set")) (by decide)
  have F_functions_b2 : Fld Z h2 b2 "com/example/steplint/steplint/prove/SmtScript" "functions" "Ljava/util/Map;" .null := D2 (Or.inr (hw _ (List.mem_of_getElem? (i := 83) rfl))) (ty := (.object "java/util/Map")) (by decide)
  have F_facts_b2 : Fld Z h2 b2 "com/example/steplint/steplint/prove/SmtScript" "facts" "Ljava/util/Set;" .null := D2 (Or.inr (hw _ (List.mem_of_getElem? (i := 85) rfl))) (ty := (.object "java/util/Set")) (by decide)
  have F_placeholders_b2 : Fld Z h2 b2 "com/example/steplint/steplint/prove/SmtScript" "placeholders" "Ljava/util/Map;" .null := D2 (Or.inr (hw _ (List.mem_of_getElem? (i := 87) rfl))) (ty := (.object "java/util/Map")) (by decide)
  have F_letNamesInUse_b2 : Fld Z h2 b2 "com/example/steplint/steplint/prove/SmtScript" "letNamesInUse" "Ljava/util/Set;" .null := D2 (Or.inr (hw _ (List.mem_of_getElem? (i := 89) rfl))) (ty := (.object "java/util/Set")) (by decide)
  have F_sharedForms_b2 : Fld Z h2 b2 "com/example/steplint/steplint/prove/SmtScript" "sharedForms" "Lcom/example/steplint/steplint/prove/SmtScript$SharedForms;" .null := D2 (Or.inr (hw _ (List.mem_of_getElem? (i := 106) rfl))) (ty := (.object "com/example/steplint/steplint/prove/SmtScript$SharedForms")) (by decide)
  have F_sizeNotes_b2 : Fld Z h2 b2 "com/example/steplint/steplint/prove/SmtScript" "sizeNotes" "Ljava/util/List;" .null := D2 (Or.inr (hw _ (List.mem_of_getElem? (i := 108) rfl))) (ty := (.object "java/util/List")) (by decide)
  have F_sizeKeys_b2 : Fld Z h2 b2 "com/example/steplint/steplint/prove/SmtScript" "sizeKeys" "Ljava/util/Set;" .null := D2 (Or.inr (hw _ (List.mem_of_getElem? (i := 110) rfl))) (ty := (.object "java/util/Set")) (by decide)
  have F_sizedTerms_b2 : Fld Z h2 b2 "com/example/steplint/steplint/prove/SmtScript" "sizedTerms" "Ljava/util/Set;" .null := D2 (Or.inr (hw _ (List.mem_of_getElem? (i := 112) rfl))) (ty := (.object "java/util/Set")) (by decide)
  have F_countedSets_b2 : Fld Z h2 b2 "com/example/steplint/steplint/prove/SmtScript" "countedSets" "Ljava/util/Map;" .null := D2 (Or.inr (hw _ (List.mem_of_getElem? (i := 114) rfl))) (ty := (.object "java/util/Map")) (by decide)
  have F_countedNotes_b2 : Fld Z h2 b2 "com/example/steplint/steplint/prove/SmtScript" "countedNotes" "Ljava/util/List;" .null := D2 (Or.inr (hw _ (List.mem_of_getElem? (i := 116) rfl))) (ty := (.object "java/util/List")) (by decide)
  have F_variableSymbols_b2 : Fld Z h2 b2 "com/example/steplint/steplint/prove/SmtScript" "variableSymbols" "Ljava/util/Set;" .null := D2 (Or.inr (hw _ (List.mem_of_getElem? (i := 118) rfl))) (ty := (.object "java/util/Set")) (by decide)
  have F_names_b2 : Fld Z h2 b2 "com/example/steplint/steplint/prove/SmtScript" "names" "I" (.int (0 : Int32)) := D2 (Or.inl (hw _ (List.mem_of_getElem? (i := 125) rfl))) (ty := .int) (by decide)
  have E_b2 := A2
  have g_b2 : n0 ≤ b2 := Nat.le_trans Z0 (Nat.le_trans KK0.1 (Nat.le_of_eq g2.symm))
  have sz_b2 : h0.size ≤ b2 := Nat.le_trans KK0.1 (Nat.le_of_eq g2.symm)
  have KK2 : Keep h0 h2 [] := KK0.ext E2
  have ST2 := ST0.ext E2
  have BB2 : Sc Z h2 b2 (fun s => if s = "names" then .int (0 : Int32) else .null) := ⟨E_b2, by
    intro q hq
    simp only [own_fl, List.mem_cons, List.not_mem_nil, or_false] at hq
    rcases hq with rfl | rfl | rfl | rfl | rfl | rfl | rfl | rfl | rfl | rfl | rfl | rfl | rfl | rfl | rfl | rfl | rfl | rfl | rfl
    · exact F_declarations_b2
    · exact F_assertions_b2
    · exact F_sorts_b2
    · exact F_pairTypes_b2
    · exact F_constants_b2
    · exact F_definitions_b2
    · exact F_definedValues_b2
    · exact F_functions_b2
    · exact F_facts_b2
    · exact F_placeholders_b2
    · exact F_letNamesInUse_b2
    · exact F_sharedForms_b2
    · exact F_sizeNotes_b2
    · exact F_sizeKeys_b2
    · exact F_sizedTerms_b2
    · exact F_countedSets_b2
    · exact F_countedNotes_b2
    · exact F_variableSymbols_b2
    · exact F_names_b2⟩
  obtain ⟨_, _, ⟨T3, L3, k3, n3⟩, -, X3, ⟨Lc3, hQ3, l3, y3, z3⟩, st3⟩ := X2.specialBack hx (y := (⟨"com/example/steplint/steplint/prove/SmtScript", "<init>", "()V"⟩ : MethodName)) rfl hown (mvT hZ (hw _ (List.mem_of_getElem? (i := 3) rfl))) (mvT hZ (hw _ (List.mem_of_getElem? (i := 4) rfl))) (mvT hZ (hw _ (List.mem_of_getElem? (i := 5) rfl))) (by decide) (backOf (W := 1) (rm1 l Z a0 hw [] b2 w3 _ h2 n0 (Nat.le_trans Z0 KK2.1) BB2 ST2 rfl g_b2) hZ (hw _ (List.mem_of_getElem? (i := 5) rfl)) (hw _ (List.mem_of_getElem? (i := 2) rfl)) (by decide) (by decide)) (g := (mkF m 10 #[.val (.int p1), .val (.int ((p1 &&& (3 : Int32)) + (1 : Int32))), .unset, .unset, .unset, .unset, .unset, .unset, .unset, .unset] [(.ref b2), (.ref b2)])) rfl (by rw [hml]; rfl) (Steps.refl _) (a := b2) (argsL := []) (rest := [(.ref b2)]) (lenOf pd_0_0 rfl) rfl (by show 2 * 0 + _ ≤ _; exact Nat.le_of_eq rfl) (hb hby at_10) (fun _ _ => ⟨rfl, e2, (by decide : 1 + 26 ≤ _), (by decide : 19 + 141 ≤ _)⟩)
  dsimp only [Pt.U, Pt.locs, Pt.cells, Pt.slots] at X3 l3 y3 z3 st3 hQ3
  have y3' : k3 = 27 := y3
  have z3' : n3 = 160 := z3
  clear y3 z3
  subst y3' z3'
  obtain ⟨rfl, N3q, K3, d_b2, s_b2, sd_b2, ss_b2, Rb2_3⟩ := hQ3
  have N3 : Fr n0 L3 := by rw [l3]; exact Fr.app N0 N3q
  clear l3
  have KK3 : Keep h0 T3.heap [] := KK2.trans K3 fun x hx => by cases List.mem_singleton.mp hx; exact Or.inr sz_b2
  have ST3 := own_sta_keep ST2 K3 E_b2
  obtain ⟨cq4, kq4, q4a, q4b, q4c⟩ := isOf hZ rfl Rb2_3.1
  obtain ⟨_, _, ⟨T4, L4, k4, n4⟩, -, X4, ⟨Lc4, hQ4, l4, y4, z4⟩, st4⟩ := X3.virtualBack hx (y := (⟨"com/example/steplint/steplint/prove/SmtScript", "fresh", "()I"⟩ : MethodName)) (z := (⟨"com/example/steplint/steplint/prove/SmtScript", "fresh", "()I"⟩ : MethodName)) hown (mvT hZ (hw _ (List.mem_of_getElem? (i := 119) rfl))) (mvT hZ (hw _ (List.mem_of_getElem? (i := 120) rfl))) (notFace_of_selects (args := #[]) (mvT hZ (hw _ (List.mem_of_getElem? (i := 122) rfl)))) (mvT hZ (hw _ (List.mem_of_getElem? (i := 122) rfl))) (mvT hZ (hw _ (List.mem_of_getElem? (i := 121) rfl))) (by decide) (backOf (W := 0) (rm11 l Z a0 hw [] b2 d_b2 s_b2 (0 : Int32) T3.heap n0 (Nat.le_trans Z0 KK3.1) Rb2_3 g_b2) hZ (hw _ (List.mem_of_getElem? (i := 123) rfl)) (hw _ (List.mem_of_getElem? (i := 2) rfl)) (by decide) (by decide)) q4a q4c (g := (mkF m 15 #[.val (.int p1), .val (.int ((p1 &&& (3 : Int32)) + (1 : Int32))), .val (.ref b2), .unset, .unset, .unset, .unset, .unset, .unset, .unset] [(.ref b2)])) rfl (by rw [hml]; rfl) (Steps.refl _) (argsL := []) (rest := []) (lenOf pd_0_2 rfl) rfl (by show 2 * 0 + _ ≤ _; exact Nat.le_of_eq rfl) (hb hby at_15) (fun _ _ => ⟨rfl, rfl, (by decide : 27 + 0 ≤ _), (by decide : 160 + 0 ≤ _)⟩)
  dsimp only [Pt.U, Pt.locs, Pt.cells, Pt.slots] at X4 l4 y4 z4 st4 hQ4
  have y4' : k4 = 27 := y4
  have z4' : n4 = 160 := z4
  clear y4 z4
  subst y4' z4'
  obtain ⟨rfl, N4q, K4, Rb2_4⟩ := hQ4
  have N4 : Fr n0 L4 := by rw [l4]; exact Fr.app N3 N4q
  clear l4
  have KK4 : Keep h0 T4.heap [] := KK3.trans K4 fun x hx => by cases List.mem_singleton.mp hx; exact Or.inr sz_b2
  have ST4 := own_sta_keep ST3 K4 Rb2_3.1
  obtain ⟨cq5, kq5, q5a, q5b, q5c⟩ := isOf hZ rfl Rb2_4.1
  obtain ⟨_, _, ⟨T5, L5, k5, n5⟩, -, X5, ⟨Lc5, hQ5, l5, y5, z5⟩, st5⟩ := X4.virtualBack hx (y := (⟨"com/example/steplint/steplint/prove/SmtScript", "fresh", "()I"⟩ : MethodName)) (z := (⟨"com/example/steplint/steplint/prove/SmtScript", "fresh", "()I"⟩ : MethodName)) hown (mvT hZ (hw _ (List.mem_of_getElem? (i := 119) rfl))) (mvT hZ (hw _ (List.mem_of_getElem? (i := 120) rfl))) (notFace_of_selects (args := #[]) (mvT hZ (hw _ (List.mem_of_getElem? (i := 122) rfl)))) (mvT hZ (hw _ (List.mem_of_getElem? (i := 122) rfl))) (mvT hZ (hw _ (List.mem_of_getElem? (i := 121) rfl))) (by decide) (backOf (W := 0) (rm11 l Z a0 hw [] b2 d_b2 s_b2 ((0 : Int32) + (1 : Int32)) T4.heap n0 (Nat.le_trans Z0 KK4.1) Rb2_4 g_b2) hZ (hw _ (List.mem_of_getElem? (i := 123) rfl)) (hw _ (List.mem_of_getElem? (i := 2) rfl)) (by decide) (by decide)) q5a q5c (g := (mkF m 28 #[.val (.int p1), .val (.int ((p1 &&& (3 : Int32)) + (1 : Int32))), .val (.ref b2), .val (.int ((0 : Int32) + (1 : Int32))), .val (.int (2 : Int32)), .unset, .unset, .unset, .unset, .unset] [(.ref b2)])) rfl (by rw [hml]; rfl) (Steps.refl _) (argsL := []) (rest := []) (lenOf pd_0_2 rfl) rfl (by show 2 * 0 + _ ≤ _; exact Nat.le_of_eq rfl) (hb hby at_28) (fun _ _ => ⟨rfl, rfl, (by decide : 27 + 0 ≤ _), (by decide : 160 + 0 ≤ _)⟩)
  dsimp only [Pt.U, Pt.locs, Pt.cells, Pt.slots] at X5 l5 y5 z5 st5 hQ5
  have y5' : k5 = 27 := y5
  have z5' : n5 = 160 := z5
  clear y5 z5
  subst y5' z5'
  obtain ⟨rfl, N5q, K5, Rb2_5⟩ := hQ5
  have N5 : Fr n0 L5 := by rw [l5]; exact Fr.app N4 N5q
  clear l5
  have KK5 : Keep h0 T5.heap [] := KK4.trans K5 fun x hx => by cases List.mem_singleton.mp hx; exact Or.inr sz_b2
  have ST5 := own_sta_keep ST4 K5 Rb2_4.1
  obtain ⟨cq6, kq6, q6a, q6b, q6c⟩ := isOf hZ rfl Rb2_5.1
  obtain ⟨_, _, ⟨T6, L6, k6, n6⟩, -, X6, ⟨Lc6, hQ6, l6, y6, z6⟩, st6⟩ := X5.virtualBack hx (y := (⟨"com/example/steplint/steplint/prove/SmtScript", "fresh", "()I"⟩ : MethodName)) (z := (⟨"com/example/steplint/steplint/prove/SmtScript", "fresh", "()I"⟩ : MethodName)) hown (mvT hZ (hw _ (List.mem_of_getElem? (i := 119) rfl))) (mvT hZ (hw _ (List.mem_of_getElem? (i := 120) rfl))) (notFace_of_selects (args := #[]) (mvT hZ (hw _ (List.mem_of_getElem? (i := 122) rfl)))) (mvT hZ (hw _ (List.mem_of_getElem? (i := 122) rfl))) (mvT hZ (hw _ (List.mem_of_getElem? (i := 121) rfl))) (by decide) (backOf (W := 0) (rm11 l Z a0 hw [] b2 d_b2 s_b2 (((0 : Int32) + (1 : Int32)) + (1 : Int32)) T5.heap n0 (Nat.le_trans Z0 KK5.1) Rb2_5 g_b2) hZ (hw _ (List.mem_of_getElem? (i := 123) rfl)) (hw _ (List.mem_of_getElem? (i := 2) rfl)) (by decide) (by decide)) q6a q6c (g := (mkF m 42 #[.val (.int p1), .val (.int ((p1 &&& (3 : Int32)) + (1 : Int32))), .val (.ref b2), .val (.int ((0 : Int32) + (1 : Int32))), .val (.int (((0 : Int32) + (1 : Int32)) + (1 : Int32))), .val (.int (3 : Int32)), .unset, .unset, .unset, .unset] [(.ref b2)])) rfl (by rw [hml]; rfl) (Steps.refl _) (argsL := []) (rest := []) (lenOf pd_0_2 rfl) rfl (by show 2 * 0 + _ ≤ _; exact Nat.le_of_eq rfl) (hb hby at_42) (fun _ _ => ⟨rfl, rfl, (by decide : 27 + 0 ≤ _), (by decide : 160 + 0 ≤ _)⟩)
  dsimp only [Pt.U, Pt.locs, Pt.cells, Pt.slots] at X6 l6 y6 z6 st6 hQ6
  have y6' : k6 = 27 := y6
  have z6' : n6 = 160 := z6
  clear y6 z6
  subst y6' z6'
  obtain ⟨rfl, N6q, K6, Rb2_6⟩ := hQ6
  have N6 : Fr n0 L6 := by rw [l6]; exact Fr.app N5 N6q
  clear l6
  have KK6 : Keep h0 T6.heap [] := KK5.trans K6 fun x hx => by cases List.mem_singleton.mp hx; exact Or.inr sz_b2
  have ST6 := own_sta_keep ST5 K6 Rb2_5.1
  obtain ⟨T7, h7, X7, e7, E7, A7, D7, -, st7⟩ := newO X6 hx hZ hown (hw _ (List.mem_of_getElem? (i := 0) rfl)) (hw _ (List.mem_of_getElem? (i := 1) rfl)) (hw _ (List.mem_of_getElem? (i := 2) rfl)) rfl (g := (mkF m 61 #[.val (.int p1), .val (.int ((p1 &&& (3 : Int32)) + (1 : Int32))), .val (.ref b2), .val (.int ((0 : Int32) + (1 : Int32))), .val (.int (((0 : Int32) + (1 : Int32)) + (1 : Int32))), .val (.int ((((0 : Int32) + (1 : Int32)) + (1 : Int32)) + (1 : Int32))), .val (.int (4 : Int32)), .unset, .unset, .unset] [])) rfl (hb hby at_61) (by decide) (by decide)
  obtain ⟨b7, g7⟩ : ∃ z, z = T6.heap.size := ⟨_, rfl⟩
  rw [← g7] at A7 D7 st7
  have F_declarations_b7 : Fld Z h7 b7 "com/example/steplint/steplint/prove/SmtScript" "declarations" "Ljava/util/List;" .null := D7 (Or.inr (hw _ (List.mem_of_getElem? (i := 34) rfl))) (ty := (.object "java/util/List")) (by decide)
  have F_assertions_b7 : Fld Z h7 b7 "com/example/steplint/steplint/prove/SmtScript" "assertions" "Ljava/util/List;" .null := D7 (Or.inr (hw _ (List.mem_of_getElem? (i := 36) rfl))) (ty := (.object "java/util/List")) (by decide)
  have F_sorts_b7 : Fld Z h7 b7 "com/example/steplint/steplint/prove/SmtScript" "sorts" "Ljava/util/Map;" .null := D7 (Or.inr (hw _ (List.mem_of_getElem? (i := 54) rfl))) (ty := (.object "java/util/Map")) (by decide)
  have F_pairTypes_b7 : Fld Z h7 b7 "com/example/steplint/steplint/prove/SmtScript" "pairTypes" "Ljava/util/Map;" .null := D7 (Or.inr (hw _ (List.mem_of_getElem? (i := 56) rfl))) (ty := (.object "java/util/Map")) (by decide)
  have F_constants_b7 : Fld Z h7 b7 "com/example/steplint/steplint/prove/SmtScript" "constants" "Ljava/util/Map;" .null := D7 (Or.inr (hw _ (List.mem_of_getElem? (i := 58) rfl))) (ty := (.object "java/util/Map")) (by decide)
  have F_definitions_b7 : Fld Z h7 b7 "com/example/steplint/steplint/prove/SmtScript" "definitions" "Ljava/util/Map;" .null := D7 (Or.inr (hw _ (List.mem_of_getElem? (i := 60) rfl))) (ty := (.object "java/util/Map")) (by decide)
  have F_definedValues_b7 : Fld Z h7 b7 "com/example/steplint/steplint/prove/SmtScript" "definedValues" "Ljava/util/Set;" .null := D7 (Or.inr (hw _ (List.mem_of_getElem? (i := 81) rfl))) (ty := (.object "java/util/Set")) (by decide)
  have F_functions_b7 : Fld Z h7 b7 "com/example/steplint/steplint/prove/SmtScript" "functions" "Ljava/util/Map;" .null := D7 (Or.inr (hw _ (List.mem_of_getElem? (i := 83) rfl))) (ty := (.object "java/util/Map")) (by decide)
  have F_facts_b7 : Fld Z h7 b7 "com/example/steplint/steplint/prove/SmtScript" "facts" "Ljava/util/Set;" .null := D7 (Or.inr (hw _ (List.mem_of_getElem? (i := 85) rfl))) (ty := (.object "java/util/Set")) (by decide)
  have F_placeholders_b7 : Fld Z h7 b7 "com/example/steplint/steplint/prove/SmtScript" "placeholders" "Ljava/util/Map;" .null := D7 (Or.inr (hw _ (List.mem_of_getElem? (i := 87) rfl))) (ty := (.object "java/util/Map")) (by decide)
  have F_letNamesInUse_b7 : Fld Z h7 b7 "com/example/steplint/steplint/prove/SmtScript" "letNamesInUse" "Ljava/util/Set;" .null := D7 (Or.inr (hw _ (List.mem_of_getElem? (i := 89) rfl))) (ty := (.object "java/util/Set")) (by decide)
  have F_sharedForms_b7 : Fld Z h7 b7 "com/example/steplint/steplint/prove/SmtScript" "sharedForms" "Lcom/example/steplint/steplint/prove/SmtScript$SharedForms;" .null := D7 (Or.inr (hw _ (List.mem_of_getElem? (i := 106) rfl))) (ty := (.object "com/example/steplint/steplint/prove/SmtScript$SharedForms")) (by decide)
  have F_sizeNotes_b7 : Fld Z h7 b7 "com/example/steplint/steplint/prove/SmtScript" "sizeNotes" "Ljava/util/List;" .null := D7 (Or.inr (hw _ (List.mem_of_getElem? (i := 108) rfl))) (ty := (.object "java/util/List")) (by decide)
  have F_sizeKeys_b7 : Fld Z h7 b7 "com/example/steplint/steplint/prove/SmtScript" "sizeKeys" "Ljava/util/Set;" .null := D7 (Or.inr (hw _ (List.mem_of_getElem? (i := 110) rfl))) (ty := (.object "java/util/Set")) (by decide)
  have F_sizedTerms_b7 : Fld Z h7 b7 "com/example/steplint/steplint/prove/SmtScript" "sizedTerms" "Ljava/util/Set;" .null := D7 (Or.inr (hw _ (List.mem_of_getElem? (i := 112) rfl))) (ty := (.object "java/util/Set")) (by decide)
  have F_countedSets_b7 : Fld Z h7 b7 "com/example/steplint/steplint/prove/SmtScript" "countedSets" "Ljava/util/Map;" .null := D7 (Or.inr (hw _ (List.mem_of_getElem? (i := 114) rfl))) (ty := (.object "java/util/Map")) (by decide)
  have F_countedNotes_b7 : Fld Z h7 b7 "com/example/steplint/steplint/prove/SmtScript" "countedNotes" "Ljava/util/List;" .null := D7 (Or.inr (hw _ (List.mem_of_getElem? (i := 116) rfl))) (ty := (.object "java/util/List")) (by decide)
  have F_variableSymbols_b7 : Fld Z h7 b7 "com/example/steplint/steplint/prove/SmtScript" "variableSymbols" "Ljava/util/Set;" .null := D7 (Or.inr (hw _ (List.mem_of_getElem? (i := 118) rfl))) (ty := (.object "java/util/Set")) (by decide)
  have F_names_b7 : Fld Z h7 b7 "com/example/steplint/steplint/prove/SmtScript" "names" "I" (.int (0 : Int32)) := D7 (Or.inl (hw _ (List.mem_of_getElem? (i := 125) rfl))) (ty := .int) (by decide)
  have E_b7 := A7
  have g_b7 : n0 ≤ b7 := Nat.le_trans Z0 (Nat.le_trans KK6.1 (Nat.le_of_eq g7.symm))
  have sz_b7 : h0.size ≤ b7 := Nat.le_trans KK6.1 (Nat.le_of_eq g7.symm)
  have ne_b2_b7 := Rb2_6.lts (Nat.le_of_eq g7.symm)
  have Rb2_7 := Rb2_6.ext E7
  have KK7 : Keep h0 h7 [] := KK6.ext E7
  have ST7 := ST6.ext E7
  have BB7 : Sc Z h7 b7 (fun s => if s = "names" then .int (0 : Int32) else .null) := ⟨E_b7, by
    intro q hq
    simp only [own_fl, List.mem_cons, List.not_mem_nil, or_false] at hq
    rcases hq with rfl | rfl | rfl | rfl | rfl | rfl | rfl | rfl | rfl | rfl | rfl | rfl | rfl | rfl | rfl | rfl | rfl | rfl | rfl
    · exact F_declarations_b7
    · exact F_assertions_b7
    · exact F_sorts_b7
    · exact F_pairTypes_b7
    · exact F_constants_b7
    · exact F_definitions_b7
    · exact F_definedValues_b7
    · exact F_functions_b7
    · exact F_facts_b7
    · exact F_placeholders_b7
    · exact F_letNamesInUse_b7
    · exact F_sharedForms_b7
    · exact F_sizeNotes_b7
    · exact F_sizeKeys_b7
    · exact F_sizedTerms_b7
    · exact F_countedSets_b7
    · exact F_countedNotes_b7
    · exact F_variableSymbols_b7
    · exact F_names_b7⟩
  obtain ⟨_, _, ⟨T8, L8, k8, n8⟩, -, X8, ⟨Lc8, hQ8, l8, y8, z8⟩, st8⟩ := X7.specialBack hx (y := (⟨"com/example/steplint/steplint/prove/SmtScript", "<init>", "()V"⟩ : MethodName)) rfl hown (mvT hZ (hw _ (List.mem_of_getElem? (i := 3) rfl))) (mvT hZ (hw _ (List.mem_of_getElem? (i := 4) rfl))) (mvT hZ (hw _ (List.mem_of_getElem? (i := 5) rfl))) (by decide) (backOf (W := 1) (rm1 l Z a0 hw [] b7 w3 _ h7 n0 (Nat.le_trans Z0 KK7.1) BB7 ST7 rfl g_b7) hZ (hw _ (List.mem_of_getElem? (i := 5) rfl)) (hw _ (List.mem_of_getElem? (i := 2) rfl)) (by decide) (by decide)) (g := (mkF m 65 #[.val (.int p1), .val (.int ((p1 &&& (3 : Int32)) + (1 : Int32))), .val (.ref b2), .val (.int ((0 : Int32) + (1 : Int32))), .val (.int (((0 : Int32) + (1 : Int32)) + (1 : Int32))), .val (.int ((((0 : Int32) + (1 : Int32)) + (1 : Int32)) + (1 : Int32))), .val (.int (4 : Int32)), .unset, .unset, .unset] [(.ref b7), (.ref b7)])) rfl (by rw [hml]; rfl) (Steps.refl _) (a := b7) (argsL := []) (rest := [(.ref b7)]) (lenOf pd_0_0 rfl) rfl (by show 2 * 0 + _ ≤ _; exact Nat.le_of_eq rfl) (hb hby at_65) (fun _ _ => ⟨rfl, e7, (by decide : 28 + 26 ≤ _), (by decide : 179 + 141 ≤ _)⟩)
  dsimp only [Pt.U, Pt.locs, Pt.cells, Pt.slots] at X8 l8 y8 z8 st8 hQ8
  have y8' : k8 = 54 := y8
  have z8' : n8 = 320 := z8
  clear y8 z8
  subst y8' z8'
  obtain ⟨rfl, N8q, K8, d_b7, s_b7, sd_b7, ss_b7, Rb7_8⟩ := hQ8
  have N8 : Fr n0 L8 := by rw [l8]; exact Fr.app N6 N8q
  clear l8
  have KK8 : Keep h0 T8.heap [] := KK7.trans K8 fun x hx => by cases List.mem_singleton.mp hx; exact Or.inr sz_b7
  have ST8 := own_sta_keep ST7 K8 E_b7
  have Rb2_8 := Rb2_7.keep K8 ne_b2_b7
  obtain ⟨cq9, kq9, q9a, q9b, q9c⟩ := isOf hZ rfl Rb7_8.1
  obtain ⟨_, _, ⟨T9, L9, k9, n9⟩, -, X9, ⟨Lc9, hQ9, l9, y9, z9⟩, st9⟩ := X8.virtualBack hx (y := (⟨"com/example/steplint/steplint/prove/SmtScript", "fresh", "()I"⟩ : MethodName)) (z := (⟨"com/example/steplint/steplint/prove/SmtScript", "fresh", "()I"⟩ : MethodName)) hown (mvT hZ (hw _ (List.mem_of_getElem? (i := 119) rfl))) (mvT hZ (hw _ (List.mem_of_getElem? (i := 120) rfl))) (notFace_of_selects (args := #[]) (mvT hZ (hw _ (List.mem_of_getElem? (i := 122) rfl)))) (mvT hZ (hw _ (List.mem_of_getElem? (i := 122) rfl))) (mvT hZ (hw _ (List.mem_of_getElem? (i := 121) rfl))) (by decide) (backOf (W := 0) (rm11 l Z a0 hw [] b7 d_b7 s_b7 (0 : Int32) T8.heap n0 (Nat.le_trans Z0 KK8.1) Rb7_8 g_b7) hZ (hw _ (List.mem_of_getElem? (i := 123) rfl)) (hw _ (List.mem_of_getElem? (i := 2) rfl)) (by decide) (by decide)) q9a q9c (g := (mkF m 72 #[.val (.int p1), .val (.int ((p1 &&& (3 : Int32)) + (1 : Int32))), .val (.ref b2), .val (.int ((0 : Int32) + (1 : Int32))), .val (.int (((0 : Int32) + (1 : Int32)) + (1 : Int32))), .val (.int ((((0 : Int32) + (1 : Int32)) + (1 : Int32)) + (1 : Int32))), .val (.int (4 : Int32)), .val (.ref b7), .unset, .unset] [(.ref b7)])) rfl (by rw [hml]; rfl) (Steps.refl _) (argsL := []) (rest := []) (lenOf pd_0_2 rfl) rfl (by show 2 * 0 + _ ≤ _; exact Nat.le_of_eq rfl) (hb hby at_72) (fun _ _ => ⟨rfl, rfl, (by decide : 54 + 0 ≤ _), (by decide : 320 + 0 ≤ _)⟩)
  dsimp only [Pt.U, Pt.locs, Pt.cells, Pt.slots] at X9 l9 y9 z9 st9 hQ9
  have y9' : k9 = 54 := y9
  have z9' : n9 = 320 := z9
  clear y9 z9
  subst y9' z9'
  obtain ⟨rfl, N9q, K9, Rb7_9⟩ := hQ9
  have N9 : Fr n0 L9 := by rw [l9]; exact Fr.app N8 N9q
  clear l9
  have KK9 : Keep h0 T9.heap [] := KK8.trans K9 fun x hx => by cases List.mem_singleton.mp hx; exact Or.inr sz_b7
  have ST9 := own_sta_keep ST8 K9 Rb7_8.1
  have Rb2_9 := Rb2_8.keep K9 ne_b2_b7
  obtain ⟨cq10, kq10, q10a, q10b, q10c⟩ := isOf hZ rfl Rb2_9.1
  obtain ⟨_, _, ⟨T10, L10, k10, n10⟩, -, X10, ⟨Lc10, hQ10, l10, y10, z10⟩, st10⟩ := X9.virtualBack hx (y := (⟨"com/example/steplint/steplint/prove/SmtScript", "said", "()I"⟩ : MethodName)) (z := (⟨"com/example/steplint/steplint/prove/SmtScript", "said", "()I"⟩ : MethodName)) hown (mvT hZ (hw _ (List.mem_of_getElem? (i := 126) rfl))) (mvT hZ (hw _ (List.mem_of_getElem? (i := 127) rfl))) (notFace_of_selects (args := #[]) (mvT hZ (hw _ (List.mem_of_getElem? (i := 129) rfl)))) (mvT hZ (hw _ (List.mem_of_getElem? (i := 129) rfl))) (mvT hZ (hw _ (List.mem_of_getElem? (i := 128) rfl))) (by decide) (backOf (W := 0) (rm12 l Z a0 hw [] b2 d_b2 s_b2 T9.heap n0 (Nat.le_trans Z0 KK9.1) Rb2_9.2.2.1 Rb2_9.2.2.2.2.1.1 Rb2_9.2.2.2.1 Rb2_9.2.2.2.2.2.1.1 Rb2_9.2.2.2.2.1.2 Rb2_9.2.2.2.2.2.1.2) hZ (hw _ (List.mem_of_getElem? (i := 130) rfl)) (hw _ (List.mem_of_getElem? (i := 2) rfl)) (by decide) (by decide)) q10a q10c (g := (mkF m 78 #[.val (.int p1), .val (.int ((p1 &&& (3 : Int32)) + (1 : Int32))), .val (.ref b2), .val (.int ((0 : Int32) + (1 : Int32))), .val (.int (((0 : Int32) + (1 : Int32)) + (1 : Int32))), .val (.int ((((0 : Int32) + (1 : Int32)) + (1 : Int32)) + (1 : Int32))), .val (.int (4 : Int32)), .val (.ref b7), .val (.int ((0 : Int32) + (1 : Int32))), .unset] [(.ref b2)])) rfl (by rw [hml]; rfl) (Steps.refl _) (argsL := []) (rest := []) (lenOf pd_0_2 rfl) rfl (by show 2 * 0 + _ ≤ _; exact Nat.le_of_eq rfl) (hb hby at_78) (fun _ _ => ⟨rfl, rfl, (by decide : 54 + 0 ≤ _), (by decide : 320 + 0 ≤ _)⟩)
  dsimp only [Pt.U, Pt.locs, Pt.cells, Pt.slots] at X10 l10 y10 z10 st10 hQ10
  have y10' : k10 = 54 := y10
  have z10' : n10 = 320 := z10
  clear y10 z10
  subst y10' z10'
  obtain ⟨rfl, N10q, q10⟩ := hQ10
  have N10 : Fr n0 L10 := by rw [l10]; exact Fr.app N9 N10q
  clear l10
  obtain ⟨fs, hr, hrun, hended, hW, hsame⟩ := X10.leave (v := some (.int (1 : Int32))) (fun h => by rw [Bd.returns] at h; cases h)
  refine ⟨_, _, pre0 _ ?_, hrun, hended, _, _, rfl, ?_, ⟨_, rfl⟩, hW, hsame.mono (by decide) (by decide)⟩
  -- 4. STEPS
  · show Steps p.tables e below (s₁.setTop (mkF m 0 #[.val (.int p1), .unset, .unset, .unset, .unset, .unset, .unset, .unset, .unset, .unset] [])) _
    refine XS.iloadN X0.here hx rfl (hb hby at_0) rfl ?_
    show Steps p.tables e below (s₁.setTop (mkF m 1 #[.val (.int p1), .unset, .unset, .unset, .unset, .unset, .unset, .unset, .unset, .unset] [(.int p1)])) _
    refine XS.iconst X0.here hx rfl (hb hby at_1) ?_
    show Steps p.tables e below (s₁.setTop (mkF m 2 #[.val (.int p1), .unset, .unset, .unset, .unset, .unset, .unset, .unset, .unset, .unset] [(.int (3 : Int32)), (.int p1)])) _
    refine XS.iand X0.here hx rfl (hb hby at_2) rfl ?_
    show Steps p.tables e below (s₁.setTop (mkF m 3 #[.val (.int p1), .unset, .unset, .unset, .unset, .unset, .unset, .unset, .unset, .unset] [(.int (p1 &&& (3 : Int32)))])) _
    refine XS.iconst X0.here hx rfl (hb hby at_3) ?_
    show Steps p.tables e below (s₁.setTop (mkF m 4 #[.val (.int p1), .unset, .unset, .unset, .unset, .unset, .unset, .unset, .unset, .unset] [(.int (1 : Int32)), (.int (p1 &&& (3 : Int32)))])) _
    refine XS.iadd X0.here hx rfl (hb hby at_4) rfl ?_
    show Steps p.tables e below (s₁.setTop (mkF m 5 #[.val (.int p1), .unset, .unset, .unset, .unset, .unset, .unset, .unset, .unset, .unset] [(.int ((p1 &&& (3 : Int32)) + (1 : Int32)))])) _
    refine XS.istoreN X0.here hx rfl (hb hby at_5) rfl (l' := #[.val (.int p1), .val (.int ((p1 &&& (3 : Int32)) + (1 : Int32))), .unset, .unset, .unset, .unset, .unset, .unset, .unset, .unset]) rfl ?_
    show Steps p.tables e below (s₁.setTop (mkF m 6 #[.val (.int p1), .val (.int ((p1 &&& (3 : Int32)) + (1 : Int32))), .unset, .unset, .unset, .unset, .unset, .unset, .unset, .unset] [])) _
    refine st2 _ ?_
    show Steps p.tables e below (T2.setTop (mkF m 9 #[.val (.int p1), .val (.int ((p1 &&& (3 : Int32)) + (1 : Int32))), .unset, .unset, .unset, .unset, .unset, .unset, .unset, .unset] [(.ref b2)])) _
    refine XS.dup X2.here hx rfl (hb hby at_9) rfl rfl ?_
    show Steps p.tables e below (T2.setTop (mkF m 10 #[.val (.int p1), .val (.int ((p1 &&& (3 : Int32)) + (1 : Int32))), .unset, .unset, .unset, .unset, .unset, .unset, .unset, .unset] [(.ref b2), (.ref b2)])) _
    refine st3.trans ?_
    show Steps p.tables e below (T3.setTop (mkF m 13 #[.val (.int p1), .val (.int ((p1 &&& (3 : Int32)) + (1 : Int32))), .unset, .unset, .unset, .unset, .unset, .unset, .unset, .unset] [(.ref b2)])) _
    refine XS.astoreN X3.here hx rfl (hb hby at_13) rfl rfl (l' := #[.val (.int p1), .val (.int ((p1 &&& (3 : Int32)) + (1 : Int32))), .val (.ref b2), .unset, .unset, .unset, .unset, .unset, .unset, .unset]) rfl ?_
    show Steps p.tables e below (T3.setTop (mkF m 14 #[.val (.int p1), .val (.int ((p1 &&& (3 : Int32)) + (1 : Int32))), .val (.ref b2), .unset, .unset, .unset, .unset, .unset, .unset, .unset] [])) _
    refine XS.aloadN X3.here hx rfl (hb hby at_14) rfl rfl ?_
    show Steps p.tables e below (T3.setTop (mkF m 15 #[.val (.int p1), .val (.int ((p1 &&& (3 : Int32)) + (1 : Int32))), .val (.ref b2), .unset, .unset, .unset, .unset, .unset, .unset, .unset] [(.ref b2)])) _
    refine st4.trans ?_
    show Steps p.tables e below (T4.setTop (mkF m 18 #[.val (.int p1), .val (.int ((p1 &&& (3 : Int32)) + (1 : Int32))), .val (.ref b2), .unset, .unset, .unset, .unset, .unset, .unset, .unset] [(.int ((0 : Int32) + (1 : Int32)))])) _
    refine XS.istoreN X4.here hx rfl (hb hby at_18) rfl (l' := #[.val (.int p1), .val (.int ((p1 &&& (3 : Int32)) + (1 : Int32))), .val (.ref b2), .val (.int ((0 : Int32) + (1 : Int32))), .unset, .unset, .unset, .unset, .unset, .unset]) rfl ?_
    show Steps p.tables e below (T4.setTop (mkF m 19 #[.val (.int p1), .val (.int ((p1 &&& (3 : Int32)) + (1 : Int32))), .val (.ref b2), .val (.int ((0 : Int32) + (1 : Int32))), .unset, .unset, .unset, .unset, .unset, .unset] [])) _
    refine XS.iconst X4.here hx rfl (hb hby at_19) ?_
    show Steps p.tables e below (T4.setTop (mkF m 20 #[.val (.int p1), .val (.int ((p1 &&& (3 : Int32)) + (1 : Int32))), .val (.ref b2), .val (.int ((0 : Int32) + (1 : Int32))), .unset, .unset, .unset, .unset, .unset, .unset] [(.int (2 : Int32))])) _
    refine XS.istore X4.here hx rfl (hb hby at_20) rfl (l' := #[.val (.int p1), .val (.int ((p1 &&& (3 : Int32)) + (1 : Int32))), .val (.ref b2), .val (.int ((0 : Int32) + (1 : Int32))), .val (.int (2 : Int32)), .unset, .unset, .unset, .unset, .unset]) rfl ?_
    show Steps p.tables e below (T4.setTop (mkF m 22 #[.val (.int p1), .val (.int ((p1 &&& (3 : Int32)) + (1 : Int32))), .val (.ref b2), .val (.int ((0 : Int32) + (1 : Int32))), .val (.int (2 : Int32)), .unset, .unset, .unset, .unset, .unset] [])) _
    refine XS.iloadN X4.here hx rfl (hb hby at_22) rfl ?_
    show Steps p.tables e below (T4.setTop (mkF m 23 #[.val (.int p1), .val (.int ((p1 &&& (3 : Int32)) + (1 : Int32))), .val (.ref b2), .val (.int ((0 : Int32) + (1 : Int32))), .val (.int (2 : Int32)), .unset, .unset, .unset, .unset, .unset] [(.int ((p1 &&& (3 : Int32)) + (1 : Int32)))])) _
    refine XS.iconst X4.here hx rfl (hb hby at_23) ?_
    show Steps p.tables e below (T4.setTop (mkF m 24 #[.val (.int p1), .val (.int ((p1 &&& (3 : Int32)) + (1 : Int32))), .val (.ref b2), .val (.int ((0 : Int32) + (1 : Int32))), .val (.int (2 : Int32)), .unset, .unset, .unset, .unset, .unset] [(.int (2 : Int32)), (.int ((p1 &&& (3 : Int32)) + (1 : Int32)))])) _
    refine XS.icmpNo X4.here hx rfl (hb hby at_24) rfl (flt hc24).1 ?_
    show Steps p.tables e below (T4.setTop (mkF m 27 #[.val (.int p1), .val (.int ((p1 &&& (3 : Int32)) + (1 : Int32))), .val (.ref b2), .val (.int ((0 : Int32) + (1 : Int32))), .val (.int (2 : Int32)), .unset, .unset, .unset, .unset, .unset] [])) _
    refine XS.aloadN X4.here hx rfl (hb hby at_27) rfl rfl ?_
    show Steps p.tables e below (T4.setTop (mkF m 28 #[.val (.int p1), .val (.int ((p1 &&& (3 : Int32)) + (1 : Int32))), .val (.ref b2), .val (.int ((0 : Int32) + (1 : Int32))), .val (.int (2 : Int32)), .unset, .unset, .unset, .unset, .unset] [(.ref b2)])) _
    refine st5.trans ?_
    show Steps p.tables e below (T5.setTop (mkF m 31 #[.val (.int p1), .val (.int ((p1 &&& (3 : Int32)) + (1 : Int32))), .val (.ref b2), .val (.int ((0 : Int32) + (1 : Int32))), .val (.int (2 : Int32)), .unset, .unset, .unset, .unset, .unset] [(.int (((0 : Int32) + (1 : Int32)) + (1 : Int32)))])) _
    refine XS.istore X5.here hx rfl (hb hby at_31) rfl (l' := #[.val (.int p1), .val (.int ((p1 &&& (3 : Int32)) + (1 : Int32))), .val (.ref b2), .val (.int ((0 : Int32) + (1 : Int32))), .val (.int (((0 : Int32) + (1 : Int32)) + (1 : Int32))), .unset, .unset, .unset, .unset, .unset]) rfl ?_
    show Steps p.tables e below (T5.setTop (mkF m 33 #[.val (.int p1), .val (.int ((p1 &&& (3 : Int32)) + (1 : Int32))), .val (.ref b2), .val (.int ((0 : Int32) + (1 : Int32))), .val (.int (((0 : Int32) + (1 : Int32)) + (1 : Int32))), .unset, .unset, .unset, .unset, .unset] [])) _
    refine XS.iconst X5.here hx rfl (hb hby at_33) ?_
    show Steps p.tables e below (T5.setTop (mkF m 34 #[.val (.int p1), .val (.int ((p1 &&& (3 : Int32)) + (1 : Int32))), .val (.ref b2), .val (.int ((0 : Int32) + (1 : Int32))), .val (.int (((0 : Int32) + (1 : Int32)) + (1 : Int32))), .unset, .unset, .unset, .unset, .unset] [(.int (3 : Int32))])) _
    refine XS.istore X5.here hx rfl (hb hby at_34) rfl (l' := #[.val (.int p1), .val (.int ((p1 &&& (3 : Int32)) + (1 : Int32))), .val (.ref b2), .val (.int ((0 : Int32) + (1 : Int32))), .val (.int (((0 : Int32) + (1 : Int32)) + (1 : Int32))), .val (.int (3 : Int32)), .unset, .unset, .unset, .unset]) rfl ?_
    show Steps p.tables e below (T5.setTop (mkF m 36 #[.val (.int p1), .val (.int ((p1 &&& (3 : Int32)) + (1 : Int32))), .val (.ref b2), .val (.int ((0 : Int32) + (1 : Int32))), .val (.int (((0 : Int32) + (1 : Int32)) + (1 : Int32))), .val (.int (3 : Int32)), .unset, .unset, .unset, .unset] [])) _
    refine XS.iloadN X5.here hx rfl (hb hby at_36) rfl ?_
    show Steps p.tables e below (T5.setTop (mkF m 37 #[.val (.int p1), .val (.int ((p1 &&& (3 : Int32)) + (1 : Int32))), .val (.ref b2), .val (.int ((0 : Int32) + (1 : Int32))), .val (.int (((0 : Int32) + (1 : Int32)) + (1 : Int32))), .val (.int (3 : Int32)), .unset, .unset, .unset, .unset] [(.int ((p1 &&& (3 : Int32)) + (1 : Int32)))])) _
    refine XS.iconst X5.here hx rfl (hb hby at_37) ?_
    show Steps p.tables e below (T5.setTop (mkF m 38 #[.val (.int p1), .val (.int ((p1 &&& (3 : Int32)) + (1 : Int32))), .val (.ref b2), .val (.int ((0 : Int32) + (1 : Int32))), .val (.int (((0 : Int32) + (1 : Int32)) + (1 : Int32))), .val (.int (3 : Int32)), .unset, .unset, .unset, .unset] [(.int (3 : Int32)), (.int ((p1 &&& (3 : Int32)) + (1 : Int32)))])) _
    refine XS.icmpNo X5.here hx rfl (hb hby at_38) rfl (flt hc38).1 ?_
    show Steps p.tables e below (T5.setTop (mkF m 41 #[.val (.int p1), .val (.int ((p1 &&& (3 : Int32)) + (1 : Int32))), .val (.ref b2), .val (.int ((0 : Int32) + (1 : Int32))), .val (.int (((0 : Int32) + (1 : Int32)) + (1 : Int32))), .val (.int (3 : Int32)), .unset, .unset, .unset, .unset] [])) _
    refine XS.aloadN X5.here hx rfl (hb hby at_41) rfl rfl ?_
    show Steps p.tables e below (T5.setTop (mkF m 42 #[.val (.int p1), .val (.int ((p1 &&& (3 : Int32)) + (1 : Int32))), .val (.ref b2), .val (.int ((0 : Int32) + (1 : Int32))), .val (.int (((0 : Int32) + (1 : Int32)) + (1 : Int32))), .val (.int (3 : Int32)), .unset, .unset, .unset, .unset] [(.ref b2)])) _
    refine st6.trans ?_
    show Steps p.tables e below (T6.setTop (mkF m 45 #[.val (.int p1), .val (.int ((p1 &&& (3 : Int32)) + (1 : Int32))), .val (.ref b2), .val (.int ((0 : Int32) + (1 : Int32))), .val (.int (((0 : Int32) + (1 : Int32)) + (1 : Int32))), .val (.int (3 : Int32)), .unset, .unset, .unset, .unset] [(.int ((((0 : Int32) + (1 : Int32)) + (1 : Int32)) + (1 : Int32)))])) _
    refine XS.istore X6.here hx rfl (hb hby at_45) rfl (l' := #[.val (.int p1), .val (.int ((p1 &&& (3 : Int32)) + (1 : Int32))), .val (.ref b2), .val (.int ((0 : Int32) + (1 : Int32))), .val (.int (((0 : Int32) + (1 : Int32)) + (1 : Int32))), .val (.int ((((0 : Int32) + (1 : Int32)) + (1 : Int32)) + (1 : Int32))), .unset, .unset, .unset, .unset]) rfl ?_
    show Steps p.tables e below (T6.setTop (mkF m 47 #[.val (.int p1), .val (.int ((p1 &&& (3 : Int32)) + (1 : Int32))), .val (.ref b2), .val (.int ((0 : Int32) + (1 : Int32))), .val (.int (((0 : Int32) + (1 : Int32)) + (1 : Int32))), .val (.int ((((0 : Int32) + (1 : Int32)) + (1 : Int32)) + (1 : Int32))), .unset, .unset, .unset, .unset] [])) _
    refine XS.iconst X6.here hx rfl (hb hby at_47) ?_
    show Steps p.tables e below (T6.setTop (mkF m 48 #[.val (.int p1), .val (.int ((p1 &&& (3 : Int32)) + (1 : Int32))), .val (.ref b2), .val (.int ((0 : Int32) + (1 : Int32))), .val (.int (((0 : Int32) + (1 : Int32)) + (1 : Int32))), .val (.int ((((0 : Int32) + (1 : Int32)) + (1 : Int32)) + (1 : Int32))), .unset, .unset, .unset, .unset] [(.int (4 : Int32))])) _
    refine XS.istore X6.here hx rfl (hb hby at_48) rfl (l' := #[.val (.int p1), .val (.int ((p1 &&& (3 : Int32)) + (1 : Int32))), .val (.ref b2), .val (.int ((0 : Int32) + (1 : Int32))), .val (.int (((0 : Int32) + (1 : Int32)) + (1 : Int32))), .val (.int ((((0 : Int32) + (1 : Int32)) + (1 : Int32)) + (1 : Int32))), .val (.int (4 : Int32)), .unset, .unset, .unset]) rfl ?_
    show Steps p.tables e below (T6.setTop (mkF m 50 #[.val (.int p1), .val (.int ((p1 &&& (3 : Int32)) + (1 : Int32))), .val (.ref b2), .val (.int ((0 : Int32) + (1 : Int32))), .val (.int (((0 : Int32) + (1 : Int32)) + (1 : Int32))), .val (.int ((((0 : Int32) + (1 : Int32)) + (1 : Int32)) + (1 : Int32))), .val (.int (4 : Int32)), .unset, .unset, .unset] [])) _
    refine XS.iloadN X6.here hx rfl (hb hby at_50) rfl ?_
    show Steps p.tables e below (T6.setTop (mkF m 51 #[.val (.int p1), .val (.int ((p1 &&& (3 : Int32)) + (1 : Int32))), .val (.ref b2), .val (.int ((0 : Int32) + (1 : Int32))), .val (.int (((0 : Int32) + (1 : Int32)) + (1 : Int32))), .val (.int ((((0 : Int32) + (1 : Int32)) + (1 : Int32)) + (1 : Int32))), .val (.int (4 : Int32)), .unset, .unset, .unset] [(.int ((p1 &&& (3 : Int32)) + (1 : Int32)))])) _
    refine XS.iconst X6.here hx rfl (hb hby at_51) ?_
    show Steps p.tables e below (T6.setTop (mkF m 52 #[.val (.int p1), .val (.int ((p1 &&& (3 : Int32)) + (1 : Int32))), .val (.ref b2), .val (.int ((0 : Int32) + (1 : Int32))), .val (.int (((0 : Int32) + (1 : Int32)) + (1 : Int32))), .val (.int ((((0 : Int32) + (1 : Int32)) + (1 : Int32)) + (1 : Int32))), .val (.int (4 : Int32)), .unset, .unset, .unset] [(.int (4 : Int32)), (.int ((p1 &&& (3 : Int32)) + (1 : Int32)))])) _
    refine XS.icmpYes X6.here hx rfl (pc0 := 52) (pc' := 61) rfl (hb hby at_52) rfl (tlt hc52).1 (by decide) (by decide) ?_
    show Steps p.tables e below (T6.setTop (mkF m 61 #[.val (.int p1), .val (.int ((p1 &&& (3 : Int32)) + (1 : Int32))), .val (.ref b2), .val (.int ((0 : Int32) + (1 : Int32))), .val (.int (((0 : Int32) + (1 : Int32)) + (1 : Int32))), .val (.int ((((0 : Int32) + (1 : Int32)) + (1 : Int32)) + (1 : Int32))), .val (.int (4 : Int32)), .unset, .unset, .unset] [])) _
    refine st7 _ ?_
    show Steps p.tables e below (T7.setTop (mkF m 64 #[.val (.int p1), .val (.int ((p1 &&& (3 : Int32)) + (1 : Int32))), .val (.ref b2), .val (.int ((0 : Int32) + (1 : Int32))), .val (.int (((0 : Int32) + (1 : Int32)) + (1 : Int32))), .val (.int ((((0 : Int32) + (1 : Int32)) + (1 : Int32)) + (1 : Int32))), .val (.int (4 : Int32)), .unset, .unset, .unset] [(.ref b7)])) _
    refine XS.dup X7.here hx rfl (hb hby at_64) rfl rfl ?_
    show Steps p.tables e below (T7.setTop (mkF m 65 #[.val (.int p1), .val (.int ((p1 &&& (3 : Int32)) + (1 : Int32))), .val (.ref b2), .val (.int ((0 : Int32) + (1 : Int32))), .val (.int (((0 : Int32) + (1 : Int32)) + (1 : Int32))), .val (.int ((((0 : Int32) + (1 : Int32)) + (1 : Int32)) + (1 : Int32))), .val (.int (4 : Int32)), .unset, .unset, .unset] [(.ref b7), (.ref b7)])) _
    refine st8.trans ?_
    show Steps p.tables e below (T8.setTop (mkF m 68 #[.val (.int p1), .val (.int ((p1 &&& (3 : Int32)) + (1 : Int32))), .val (.ref b2), .val (.int ((0 : Int32) + (1 : Int32))), .val (.int (((0 : Int32) + (1 : Int32)) + (1 : Int32))), .val (.int ((((0 : Int32) + (1 : Int32)) + (1 : Int32)) + (1 : Int32))), .val (.int (4 : Int32)), .unset, .unset, .unset] [(.ref b7)])) _
    refine XS.astore X8.here hx rfl (hb hby at_68) rfl rfl (l' := #[.val (.int p1), .val (.int ((p1 &&& (3 : Int32)) + (1 : Int32))), .val (.ref b2), .val (.int ((0 : Int32) + (1 : Int32))), .val (.int (((0 : Int32) + (1 : Int32)) + (1 : Int32))), .val (.int ((((0 : Int32) + (1 : Int32)) + (1 : Int32)) + (1 : Int32))), .val (.int (4 : Int32)), .val (.ref b7), .unset, .unset]) rfl ?_
    show Steps p.tables e below (T8.setTop (mkF m 70 #[.val (.int p1), .val (.int ((p1 &&& (3 : Int32)) + (1 : Int32))), .val (.ref b2), .val (.int ((0 : Int32) + (1 : Int32))), .val (.int (((0 : Int32) + (1 : Int32)) + (1 : Int32))), .val (.int ((((0 : Int32) + (1 : Int32)) + (1 : Int32)) + (1 : Int32))), .val (.int (4 : Int32)), .val (.ref b7), .unset, .unset] [])) _
    refine XS.aload X8.here hx rfl (hb hby at_70) rfl rfl ?_
    show Steps p.tables e below (T8.setTop (mkF m 72 #[.val (.int p1), .val (.int ((p1 &&& (3 : Int32)) + (1 : Int32))), .val (.ref b2), .val (.int ((0 : Int32) + (1 : Int32))), .val (.int (((0 : Int32) + (1 : Int32)) + (1 : Int32))), .val (.int ((((0 : Int32) + (1 : Int32)) + (1 : Int32)) + (1 : Int32))), .val (.int (4 : Int32)), .val (.ref b7), .unset, .unset] [(.ref b7)])) _
    refine st9.trans ?_
    show Steps p.tables e below (T9.setTop (mkF m 75 #[.val (.int p1), .val (.int ((p1 &&& (3 : Int32)) + (1 : Int32))), .val (.ref b2), .val (.int ((0 : Int32) + (1 : Int32))), .val (.int (((0 : Int32) + (1 : Int32)) + (1 : Int32))), .val (.int ((((0 : Int32) + (1 : Int32)) + (1 : Int32)) + (1 : Int32))), .val (.int (4 : Int32)), .val (.ref b7), .unset, .unset] [(.int ((0 : Int32) + (1 : Int32)))])) _
    refine XS.istore X9.here hx rfl (hb hby at_75) rfl (l' := #[.val (.int p1), .val (.int ((p1 &&& (3 : Int32)) + (1 : Int32))), .val (.ref b2), .val (.int ((0 : Int32) + (1 : Int32))), .val (.int (((0 : Int32) + (1 : Int32)) + (1 : Int32))), .val (.int ((((0 : Int32) + (1 : Int32)) + (1 : Int32)) + (1 : Int32))), .val (.int (4 : Int32)), .val (.ref b7), .val (.int ((0 : Int32) + (1 : Int32))), .unset]) rfl ?_
    show Steps p.tables e below (T9.setTop (mkF m 77 #[.val (.int p1), .val (.int ((p1 &&& (3 : Int32)) + (1 : Int32))), .val (.ref b2), .val (.int ((0 : Int32) + (1 : Int32))), .val (.int (((0 : Int32) + (1 : Int32)) + (1 : Int32))), .val (.int ((((0 : Int32) + (1 : Int32)) + (1 : Int32)) + (1 : Int32))), .val (.int (4 : Int32)), .val (.ref b7), .val (.int ((0 : Int32) + (1 : Int32))), .unset] [])) _
    refine XS.aloadN X9.here hx rfl (hb hby at_77) rfl rfl ?_
    show Steps p.tables e below (T9.setTop (mkF m 78 #[.val (.int p1), .val (.int ((p1 &&& (3 : Int32)) + (1 : Int32))), .val (.ref b2), .val (.int ((0 : Int32) + (1 : Int32))), .val (.int (((0 : Int32) + (1 : Int32)) + (1 : Int32))), .val (.int ((((0 : Int32) + (1 : Int32)) + (1 : Int32)) + (1 : Int32))), .val (.int (4 : Int32)), .val (.ref b7), .val (.int ((0 : Int32) + (1 : Int32))), .unset] [(.ref b2)])) _
    refine st10.trans ?_
    show Steps p.tables e below (T10.setTop (mkF m 81 #[.val (.int p1), .val (.int ((p1 &&& (3 : Int32)) + (1 : Int32))), .val (.ref b2), .val (.int ((0 : Int32) + (1 : Int32))), .val (.int (((0 : Int32) + (1 : Int32)) + (1 : Int32))), .val (.int ((((0 : Int32) + (1 : Int32)) + (1 : Int32)) + (1 : Int32))), .val (.int (4 : Int32)), .val (.ref b7), .val (.int ((0 : Int32) + (1 : Int32))), .unset] [(.int ((0 : Int32) + (0 : Int32)))])) _
    refine XS.istore X10.here hx rfl (hb hby at_81) rfl (l' := #[.val (.int p1), .val (.int ((p1 &&& (3 : Int32)) + (1 : Int32))), .val (.ref b2), .val (.int ((0 : Int32) + (1 : Int32))), .val (.int (((0 : Int32) + (1 : Int32)) + (1 : Int32))), .val (.int ((((0 : Int32) + (1 : Int32)) + (1 : Int32)) + (1 : Int32))), .val (.int (4 : Int32)), .val (.ref b7), .val (.int ((0 : Int32) + (1 : Int32))), .val (.int ((0 : Int32) + (0 : Int32)))]) rfl ?_
    show Steps p.tables e below (T10.setTop (mkF m 83 #[.val (.int p1), .val (.int ((p1 &&& (3 : Int32)) + (1 : Int32))), .val (.ref b2), .val (.int ((0 : Int32) + (1 : Int32))), .val (.int (((0 : Int32) + (1 : Int32)) + (1 : Int32))), .val (.int ((((0 : Int32) + (1 : Int32)) + (1 : Int32)) + (1 : Int32))), .val (.int (4 : Int32)), .val (.ref b7), .val (.int ((0 : Int32) + (1 : Int32))), .val (.int ((0 : Int32) + (0 : Int32)))] [])) _
    refine XS.iloadN X10.here hx rfl (hb hby at_83) rfl ?_
    show Steps p.tables e below (T10.setTop (mkF m 84 #[.val (.int p1), .val (.int ((p1 &&& (3 : Int32)) + (1 : Int32))), .val (.ref b2), .val (.int ((0 : Int32) + (1 : Int32))), .val (.int (((0 : Int32) + (1 : Int32)) + (1 : Int32))), .val (.int ((((0 : Int32) + (1 : Int32)) + (1 : Int32)) + (1 : Int32))), .val (.int (4 : Int32)), .val (.ref b7), .val (.int ((0 : Int32) + (1 : Int32))), .val (.int ((0 : Int32) + (0 : Int32)))] [(.int ((0 : Int32) + (1 : Int32)))])) _
    refine XS.iconst X10.here hx rfl (hb hby at_84) ?_
    show Steps p.tables e below (T10.setTop (mkF m 85 #[.val (.int p1), .val (.int ((p1 &&& (3 : Int32)) + (1 : Int32))), .val (.ref b2), .val (.int ((0 : Int32) + (1 : Int32))), .val (.int (((0 : Int32) + (1 : Int32)) + (1 : Int32))), .val (.int ((((0 : Int32) + (1 : Int32)) + (1 : Int32)) + (1 : Int32))), .val (.int (4 : Int32)), .val (.ref b7), .val (.int ((0 : Int32) + (1 : Int32))), .val (.int ((0 : Int32) + (0 : Int32)))] [(.int (1 : Int32)), (.int ((0 : Int32) + (1 : Int32)))])) _
    refine XS.icmpNo X10.here hx rfl (hb hby at_85) rfl (teq (by decide : ((0 : Int32) + (1 : Int32)) = (1 : Int32))).2 ?_
    show Steps p.tables e below (T10.setTop (mkF m 88 #[.val (.int p1), .val (.int ((p1 &&& (3 : Int32)) + (1 : Int32))), .val (.ref b2), .val (.int ((0 : Int32) + (1 : Int32))), .val (.int (((0 : Int32) + (1 : Int32)) + (1 : Int32))), .val (.int ((((0 : Int32) + (1 : Int32)) + (1 : Int32)) + (1 : Int32))), .val (.int (4 : Int32)), .val (.ref b7), .val (.int ((0 : Int32) + (1 : Int32))), .val (.int ((0 : Int32) + (0 : Int32)))] [])) _
    refine XS.iload X10.here hx rfl (hb hby at_88) rfl ?_
    show Steps p.tables e below (T10.setTop (mkF m 90 #[.val (.int p1), .val (.int ((p1 &&& (3 : Int32)) + (1 : Int32))), .val (.ref b2), .val (.int ((0 : Int32) + (1 : Int32))), .val (.int (((0 : Int32) + (1 : Int32)) + (1 : Int32))), .val (.int ((((0 : Int32) + (1 : Int32)) + (1 : Int32)) + (1 : Int32))), .val (.int (4 : Int32)), .val (.ref b7), .val (.int ((0 : Int32) + (1 : Int32))), .val (.int ((0 : Int32) + (0 : Int32)))] [(.int (((0 : Int32) + (1 : Int32)) + (1 : Int32)))])) _
    refine XS.iconst X10.here hx rfl (hb hby at_90) ?_
    show Steps p.tables e below (T10.setTop (mkF m 91 #[.val (.int p1), .val (.int ((p1 &&& (3 : Int32)) + (1 : Int32))), .val (.ref b2), .val (.int ((0 : Int32) + (1 : Int32))), .val (.int (((0 : Int32) + (1 : Int32)) + (1 : Int32))), .val (.int ((((0 : Int32) + (1 : Int32)) + (1 : Int32)) + (1 : Int32))), .val (.int (4 : Int32)), .val (.ref b7), .val (.int ((0 : Int32) + (1 : Int32))), .val (.int ((0 : Int32) + (0 : Int32)))] [(.int (2 : Int32)), (.int (((0 : Int32) + (1 : Int32)) + (1 : Int32)))])) _
    refine XS.icmpNo X10.here hx rfl (hb hby at_91) rfl (teq (by decide : (((0 : Int32) + (1 : Int32)) + (1 : Int32)) = (2 : Int32))).2 ?_
    show Steps p.tables e below (T10.setTop (mkF m 94 #[.val (.int p1), .val (.int ((p1 &&& (3 : Int32)) + (1 : Int32))), .val (.ref b2), .val (.int ((0 : Int32) + (1 : Int32))), .val (.int (((0 : Int32) + (1 : Int32)) + (1 : Int32))), .val (.int ((((0 : Int32) + (1 : Int32)) + (1 : Int32)) + (1 : Int32))), .val (.int (4 : Int32)), .val (.ref b7), .val (.int ((0 : Int32) + (1 : Int32))), .val (.int ((0 : Int32) + (0 : Int32)))] [])) _
    refine XS.iload X10.here hx rfl (hb hby at_94) rfl ?_
    show Steps p.tables e below (T10.setTop (mkF m 96 #[.val (.int p1), .val (.int ((p1 &&& (3 : Int32)) + (1 : Int32))), .val (.ref b2), .val (.int ((0 : Int32) + (1 : Int32))), .val (.int (((0 : Int32) + (1 : Int32)) + (1 : Int32))), .val (.int ((((0 : Int32) + (1 : Int32)) + (1 : Int32)) + (1 : Int32))), .val (.int (4 : Int32)), .val (.ref b7), .val (.int ((0 : Int32) + (1 : Int32))), .val (.int ((0 : Int32) + (0 : Int32)))] [(.int ((((0 : Int32) + (1 : Int32)) + (1 : Int32)) + (1 : Int32)))])) _
    refine XS.iconst X10.here hx rfl (hb hby at_96) ?_
    show Steps p.tables e below (T10.setTop (mkF m 97 #[.val (.int p1), .val (.int ((p1 &&& (3 : Int32)) + (1 : Int32))), .val (.ref b2), .val (.int ((0 : Int32) + (1 : Int32))), .val (.int (((0 : Int32) + (1 : Int32)) + (1 : Int32))), .val (.int ((((0 : Int32) + (1 : Int32)) + (1 : Int32)) + (1 : Int32))), .val (.int (4 : Int32)), .val (.ref b7), .val (.int ((0 : Int32) + (1 : Int32))), .val (.int ((0 : Int32) + (0 : Int32)))] [(.int (3 : Int32)), (.int ((((0 : Int32) + (1 : Int32)) + (1 : Int32)) + (1 : Int32)))])) _
    refine XS.icmpNo X10.here hx rfl (hb hby at_97) rfl (teq (by decide : ((((0 : Int32) + (1 : Int32)) + (1 : Int32)) + (1 : Int32)) = (3 : Int32))).2 ?_
    show Steps p.tables e below (T10.setTop (mkF m 100 #[.val (.int p1), .val (.int ((p1 &&& (3 : Int32)) + (1 : Int32))), .val (.ref b2), .val (.int ((0 : Int32) + (1 : Int32))), .val (.int (((0 : Int32) + (1 : Int32)) + (1 : Int32))), .val (.int ((((0 : Int32) + (1 : Int32)) + (1 : Int32)) + (1 : Int32))), .val (.int (4 : Int32)), .val (.ref b7), .val (.int ((0 : Int32) + (1 : Int32))), .val (.int ((0 : Int32) + (0 : Int32)))] [])) _
    refine XS.iload X10.here hx rfl (hb hby at_100) rfl ?_
    show Steps p.tables e below (T10.setTop (mkF m 102 #[.val (.int p1), .val (.int ((p1 &&& (3 : Int32)) + (1 : Int32))), .val (.ref b2), .val (.int ((0 : Int32) + (1 : Int32))), .val (.int (((0 : Int32) + (1 : Int32)) + (1 : Int32))), .val (.int ((((0 : Int32) + (1 : Int32)) + (1 : Int32)) + (1 : Int32))), .val (.int (4 : Int32)), .val (.ref b7), .val (.int ((0 : Int32) + (1 : Int32))), .val (.int ((0 : Int32) + (0 : Int32)))] [(.int (4 : Int32))])) _
    refine XS.iconst X10.here hx rfl (hb hby at_102) ?_
    show Steps p.tables e below (T10.setTop (mkF m 103 #[.val (.int p1), .val (.int ((p1 &&& (3 : Int32)) + (1 : Int32))), .val (.ref b2), .val (.int ((0 : Int32) + (1 : Int32))), .val (.int (((0 : Int32) + (1 : Int32)) + (1 : Int32))), .val (.int ((((0 : Int32) + (1 : Int32)) + (1 : Int32)) + (1 : Int32))), .val (.int (4 : Int32)), .val (.ref b7), .val (.int ((0 : Int32) + (1 : Int32))), .val (.int ((0 : Int32) + (0 : Int32)))] [(.int (4 : Int32)), (.int (4 : Int32))])) _
    refine XS.icmpNo X10.here hx rfl (hb hby at_103) rfl (teq (rfl : (4 : Int32) = (4 : Int32))).2 ?_
    show Steps p.tables e below (T10.setTop (mkF m 106 #[.val (.int p1), .val (.int ((p1 &&& (3 : Int32)) + (1 : Int32))), .val (.ref b2), .val (.int ((0 : Int32) + (1 : Int32))), .val (.int (((0 : Int32) + (1 : Int32)) + (1 : Int32))), .val (.int ((((0 : Int32) + (1 : Int32)) + (1 : Int32)) + (1 : Int32))), .val (.int (4 : Int32)), .val (.ref b7), .val (.int ((0 : Int32) + (1 : Int32))), .val (.int ((0 : Int32) + (0 : Int32)))] [])) _
    refine XS.iload X10.here hx rfl (hb hby at_106) rfl ?_
    show Steps p.tables e below (T10.setTop (mkF m 108 #[.val (.int p1), .val (.int ((p1 &&& (3 : Int32)) + (1 : Int32))), .val (.ref b2), .val (.int ((0 : Int32) + (1 : Int32))), .val (.int (((0 : Int32) + (1 : Int32)) + (1 : Int32))), .val (.int ((((0 : Int32) + (1 : Int32)) + (1 : Int32)) + (1 : Int32))), .val (.int (4 : Int32)), .val (.ref b7), .val (.int ((0 : Int32) + (1 : Int32))), .val (.int ((0 : Int32) + (0 : Int32)))] [(.int ((0 : Int32) + (1 : Int32)))])) _
    refine XS.iconst X10.here hx rfl (hb hby at_108) ?_
    show Steps p.tables e below (T10.setTop (mkF m 109 #[.val (.int p1), .val (.int ((p1 &&& (3 : Int32)) + (1 : Int32))), .val (.ref b2), .val (.int ((0 : Int32) + (1 : Int32))), .val (.int (((0 : Int32) + (1 : Int32)) + (1 : Int32))), .val (.int ((((0 : Int32) + (1 : Int32)) + (1 : Int32)) + (1 : Int32))), .val (.int (4 : Int32)), .val (.ref b7), .val (.int ((0 : Int32) + (1 : Int32))), .val (.int ((0 : Int32) + (0 : Int32)))] [(.int (1 : Int32)), (.int ((0 : Int32) + (1 : Int32)))])) _
    refine XS.icmpNo X10.here hx rfl (hb hby at_109) rfl (teq (by decide : ((0 : Int32) + (1 : Int32)) = (1 : Int32))).2 ?_
    show Steps p.tables e below (T10.setTop (mkF m 112 #[.val (.int p1), .val (.int ((p1 &&& (3 : Int32)) + (1 : Int32))), .val (.ref b2), .val (.int ((0 : Int32) + (1 : Int32))), .val (.int (((0 : Int32) + (1 : Int32)) + (1 : Int32))), .val (.int ((((0 : Int32) + (1 : Int32)) + (1 : Int32)) + (1 : Int32))), .val (.int (4 : Int32)), .val (.ref b7), .val (.int ((0 : Int32) + (1 : Int32))), .val (.int ((0 : Int32) + (0 : Int32)))] [])) _
    refine XS.iload X10.here hx rfl (hb hby at_112) rfl ?_
    show Steps p.tables e below (T10.setTop (mkF m 114 #[.val (.int p1), .val (.int ((p1 &&& (3 : Int32)) + (1 : Int32))), .val (.ref b2), .val (.int ((0 : Int32) + (1 : Int32))), .val (.int (((0 : Int32) + (1 : Int32)) + (1 : Int32))), .val (.int ((((0 : Int32) + (1 : Int32)) + (1 : Int32)) + (1 : Int32))), .val (.int (4 : Int32)), .val (.ref b7), .val (.int ((0 : Int32) + (1 : Int32))), .val (.int ((0 : Int32) + (0 : Int32)))] [(.int ((0 : Int32) + (0 : Int32)))])) _
    refine XS.ifNo X10.here hx rfl (hb hby at_114) rfl ((if0 _ _).trans (teq (by decide : ((0 : Int32) + (0 : Int32)) = (0 : Int32))).2) ?_
    show Steps p.tables e below (T10.setTop (mkF m 117 #[.val (.int p1), .val (.int ((p1 &&& (3 : Int32)) + (1 : Int32))), .val (.ref b2), .val (.int ((0 : Int32) + (1 : Int32))), .val (.int (((0 : Int32) + (1 : Int32)) + (1 : Int32))), .val (.int ((((0 : Int32) + (1 : Int32)) + (1 : Int32)) + (1 : Int32))), .val (.int (4 : Int32)), .val (.ref b7), .val (.int ((0 : Int32) + (1 : Int32))), .val (.int ((0 : Int32) + (0 : Int32)))] [])) _
    refine XS.iconst X10.here hx rfl (hb hby at_117) ?_
    show Steps p.tables e below (T10.setTop (mkF m 118 #[.val (.int p1), .val (.int ((p1 &&& (3 : Int32)) + (1 : Int32))), .val (.ref b2), .val (.int ((0 : Int32) + (1 : Int32))), .val (.int (((0 : Int32) + (1 : Int32)) + (1 : Int32))), .val (.int ((((0 : Int32) + (1 : Int32)) + (1 : Int32)) + (1 : Int32))), .val (.int (4 : Int32)), .val (.ref b7), .val (.int ((0 : Int32) + (1 : Int32))), .val (.int ((0 : Int32) + (0 : Int32)))] [(.int (1 : Int32))])) _
    refine XS.goto X10.here hx rfl (pc0 := 118) (pc' := 122) rfl (hb hby at_118) (by decide) (by decide) ?_
    show Steps p.tables e below (T10.setTop (mkF m 122 #[.val (.int p1), .val (.int ((p1 &&& (3 : Int32)) + (1 : Int32))), .val (.ref b2), .val (.int ((0 : Int32) + (1 : Int32))), .val (.int (((0 : Int32) + (1 : Int32)) + (1 : Int32))), .val (.int ((((0 : Int32) + (1 : Int32)) + (1 : Int32)) + (1 : Int32))), .val (.int (4 : Int32)), .val (.ref b7), .val (.int ((0 : Int32) + (1 : Int32))), .val (.int ((0 : Int32) + (0 : Int32)))] [(.int (1 : Int32))])) _
    exact retN X10 hx (t := .boolean) Bd.returns (by simp) (hb hby at_122) hr
  · show Q0 Z p1 h0 n0 _ T10.heap _
    exact ⟨rfl, N10⟩
set_option maxRecDepth 65536 in
set_option maxHeartbeats 40000000 in
theorem rm0_4 (l : Launch) (Z : State) (a0 : Array Value) (hw : ∀ d ∈ tables_1, d.before a0 Z = true) (ws : List Jvm.Cond) (p1 : Int32) (w3 : Addr) (h0 : Heap) (n0 : Nat) (Z0 : n0 ≤ h0.size) (ST0 : Sta Z h0 "java/util/ArrayList" "DEFAULTCAPACITY_EMPTY_ELEMENTDATA" "[Ljava/lang/Object;" (.ref w3)) (hc24 : ¬ (((p1 &&& (3 : Int32)) + (1 : Int32)) < (2 : Int32))) (hc38 : ¬ (((p1 &&& (3 : Int32)) + (1 : Int32)) < (3 : Int32))) (hc52 : ¬ (((p1 &&& (3 : Int32)) + (1 : Int32)) < (4 : Int32))) :
    MetFree l x (head1 (Jvm.Cond.code x code maxLocals ret :: ws) room_1) (fun a U => a = #[(.int p1)] ∧ Z.Warmed39 U.vm ∧ U.heap = h0) (fun _ _ _ _ _ => True) (fun _ U o U' => ∃ v L, o = .returned v ∧ Q0 Z p1 h0 n0 v U'.heap L ∧ FrameEnd U o U' L room_1.cells room_1.slots) := by
  refine MetFree.of_bodySF (plainFor_of_name pn_0) hisR ?_
  intro p e s m args below meth c s₁ Bd hml0 hP hK
  obtain ⟨rfl, hZ, hh⟩ := hP
  have hx := Bd.exec
  have hby := Bd.bytes
  have hml : c.maxLocals = 10 := hml0
  have hown : s.vm.findClass "com/example/steplint/steplint/prove/SmtScriptFreshPinLaw" = some m.cls := findClass_of_methodNamed Bd.named
  have hnm := (name_of_methodNamed Bd.named Bd.method).1
  have X0 : Stand p l e room_1 s m #[(.int p1)] below meth c s₁ [] 0 0 := Stand.of_body Bd
  have e0 : s₁.heap = h0 := by rw [← hh, Bd.state]; rfl
  have N0 := Fr.nil n0
  have pre0 : ∀ t, Steps p.tables e below (s₁.setTop (mkF m 0 #[.val (.int p1), .unset, .unset, .unset, .unset, .unset, .unset, .unset, .unset, .unset] [])) t → Steps p.tables e below (s₁.setTop (entryFrame m #[(.int p1)] maxLocals)) t := fun t k => castTop (ef_0 m p1) k
  -- 3. LAWS
  have KK0 : Keep h0 h0 [] := Keep.refl h0 []
  obtain ⟨T2, h2, X2, e2, E2, A2, D2, -, st2⟩ := newO X0 hx hZ hown (hw _ (List.mem_of_getElem? (i := 0) rfl)) (hw _ (List.mem_of_getElem? (i := 1) rfl)) (hw _ (List.mem_of_getElem? (i := 2) rfl)) e0 (g := (mkF m 6 #[.val (.int p1), .val (.int ((p1 &&& (3 : Int32)) + (1 : Int32))), .unset, .unset, .unset, .unset, .unset, .unset, .unset, .unset] [])) rfl (hb hby at_6) (by decide) (by decide)
  obtain ⟨b2, g2⟩ : ∃ z, z = h0.size := ⟨_, rfl⟩
  rw [← g2] at A2 D2 st2
  have F_declarations_b2 : Fld Z h2 b2 "com/example/steplint/steplint/prove/SmtScript" "declarations" "Ljava/util/List;" .null := D2 (Or.inr (hw _ (List.mem_of_getElem? (i := 34) rfl))) (ty := (.object "java/util/List")) (by decide)
  have F_assertions_b2 : Fld Z h2 b2 "com/example/steplint/steplint/prove/SmtScript" "assertions" "Ljava/util/List;" .null := D2 (Or.inr (hw _ (List.mem_of_getElem? (i := 36) rfl))) (ty := (.object "java/util/List")) (by decide)
  have F_sorts_b2 : Fld Z h2 b2 "com/example/steplint/steplint/prove/SmtScript" "sorts" "Ljava/util/Map;" .null := D2 (Or.inr (hw _ (List.mem_of_getElem? (i := 54) rfl))) (ty := (.object "java/util/Map")) (by decide)
  have F_pairTypes_b2 : Fld Z h2 b2 "com/example/steplint/steplint/prove/SmtScript" "pairTypes" "Ljava/util/Map;" .null := D2 (Or.inr (hw _ (List.mem_of_getElem? (i := 56) rfl))) (ty := (.object "java/util/Map")) (by decide)
  have F_constants_b2 : Fld Z h2 b2 "com/example/steplint/steplint/prove/SmtScript" "constants" "Ljava/util/Map;" .null := D2 (Or.inr (hw _ (List.mem_of_getElem? (i := 58) rfl))) (ty := (.object "java/util/Map")) (by decide)
  have F_definitions_b2 : Fld Z h2 b2 "com/example/steplint/steplint/prove/SmtScript" "definitions" "Ljava/util/Map;" .null := D2 (Or.inr (hw _ (List.mem_of_getElem? (i := 60) rfl))) (ty := (.object "java/util/Map")) (by decide)
  have F_definedValues_b2 : Fld Z h2 b2 "com/example/steplint/steplint/prove/SmtScript" "definedValues" "Ljava/util/Set;" .null := D2 (Or.inr (hw _ (List.mem_of_getElem? (i := 81) rfl))) (ty := (.object "java/util/Set")) (by decide)
  have F_functions_b2 : Fld Z h2 b2 "com/example/steplint/steplint/prove/SmtScript" "functions" "Ljava/util/Map;" .null := D2 (Or.inr (hw _ (List.mem_of_getElem? (i := 83) rfl))) (ty := (.object "java/util/Map")) (by decide)
  have F_facts_b2 : Fld Z h2 b2 "com/example/steplint/steplint/prove/SmtScript" "facts" "Ljava/util/Set;" .null := D2 (Or.inr (hw _ (List.mem_of_getElem? (i := 85) rfl))) (ty := (.object "java/util/Set")) (by decide)
  have F_placeholders_b2 : Fld Z h2 b2 "com/example/steplint/steplint/prove/SmtScript" "placeholders" "Ljava/util/Map;" .null := D2 (Or.inr (hw _ (List.mem_of_getElem? (i := 87) rfl))) (ty := (.object "java/util/Map")) (by decide)
  have F_letNamesInUse_b2 : Fld Z h2 b2 "com/example/steplint/steplint/prove/SmtScript" "letNamesInUse" "Ljava/util/Set;" .null := D2 (Or.inr (hw _ (List.mem_of_getElem? (i := 89) rfl))) (ty := (.object "java/util/Set")) (by decide)
  have F_sharedForms_b2 : Fld Z h2 b2 "com/example/steplint/steplint/prove/SmtScript" "sharedForms" "Lcom/example/steplint/steplint/prove/SmtScript$SharedForms;" .null := D2 (Or.inr (hw _ (List.mem_of_getElem? (i := 106) rfl))) (ty := (.object "com/example/steplint/steplint/prove/SmtScript$SharedForms")) (by decide)
  have F_sizeNotes_b2 : Fld Z h2 b2 "com/example/steplint/steplint/prove/SmtScript" "sizeNotes" "Ljava/util/List;" .null := D2 (Or.inr (hw _ (List.mem_of_getElem? (i := 108) rfl))) (ty := (.object "java/util/List")) (by decide)
  have F_sizeKeys_b2 : Fld Z h2 b2 "com/example/steplint/steplint/prove/SmtScript" "sizeKeys" "Ljava/util/Set;" .null := D2 (Or.inr (hw _ (List.mem_of_getElem? (i := 110) rfl))) (ty := (.object "java/util/Set")) (by decide)
  have F_sizedTerms_b2 : Fld Z h2 b2 "com/example/steplint/steplint/prove/SmtScript" "sizedTerms" "Ljava/util/Set;" .null := D2 (Or.inr (hw _ (List.mem_of_getElem? (i := 112) rfl))) (ty := (.object "java/util/Set")) (by decide)
  have F_countedSets_b2 : Fld Z h2 b2 "com/example/steplint/steplint/prove/SmtScript" "countedSets" "Ljava/util/Map;" .null := D2 (Or.inr (hw _ (List.mem_of_getElem? (i := 114) rfl))) (ty := (.object "java/util/Map")) (by decide)
  have F_countedNotes_b2 : Fld Z h2 b2 "com/example/steplint/steplint/prove/SmtScript" "countedNotes" "Ljava/util/List;" .null := D2 (Or.inr (hw _ (List.mem_of_getElem? (i := 116) rfl))) (ty := (.object "java/util/List")) (by decide)
  have F_variableSymbols_b2 : Fld Z h2 b2 "com/example/steplint/steplint/prove/SmtScript" "variableSymbols" "Ljava/util/Set;" .null := D2 (Or.inr (hw _ (List.mem_of_getElem? (i := 118) rfl))) (ty := (.object "java/util/Set")) (by decide)
  have F_names_b2 : Fld Z h2 b2 "com/example/steplint/steplint/prove/SmtScript" "names" "I" (.int (0 : Int32)) := D2 (Or.inl (hw _ (List.mem_of_getElem? (i := 125) rfl))) (ty := .int) (by decide)
  have E_b2 := A2
  have g_b2 : n0 ≤ b2 := Nat.le_trans Z0 (Nat.le_trans KK0.1 (Nat.le_of_eq g2.symm))
  have sz_b2 : h0.size ≤ b2 := Nat.le_trans KK0.1 (Nat.le_of_eq g2.symm)
  have KK2 : Keep h0 h2 [] := KK0.ext E2
  have ST2 := ST0.ext E2
  have BB2 : Sc Z h2 b2 (fun s => if s = "names" then .int (0 : Int32) else .null) := ⟨E_b2, by
    intro q hq
    simp only [own_fl, List.mem_cons, List.not_mem_nil, or_false] at hq
    rcases hq with rfl | rfl | rfl | rfl | rfl | rfl | rfl | rfl | rfl | rfl | rfl | rfl | rfl | rfl | rfl | rfl | rfl | rfl | rfl
    · exact F_declarations_b2
    · exact F_assertions_b2
    · exact F_sorts_b2
    · exact F_pairTypes_b2
    · exact F_constants_b2
    · exact F_definitions_b2
    · exact F_definedValues_b2
    · exact F_functions_b2
    · exact F_facts_b2
    · exact F_placeholders_b2
    · exact F_letNamesInUse_b2
    · exact F_sharedForms_b2
    · exact F_sizeNotes_b2
    · exact F_sizeKeys_b2
    · exact F_sizedTerms_b2
    · exact F_countedSets_b2
    · exact F_countedNotes_b2
    · exact F_variableSymbols_b2
    · exact F_names_b2⟩
  obtain ⟨_, _, ⟨T3, L3, k3, n3⟩, -, X3, ⟨Lc3, hQ3, l3, y3, z3⟩, st3⟩ := X2.specialBack hx (y := (⟨"com/example/steplint/steplint/prove/SmtScript", "<init>", "()V"⟩ : MethodName)) rfl hown (mvT hZ (hw _ (List.mem_of_getElem? (i := 3) rfl))) (mvT hZ (hw _ (List.mem_of_getElem? (i := 4) rfl))) (mvT hZ (hw _ (List.mem_of_getElem? (i := 5) rfl))) (by decide) (backOf (W := 1) (rm1 l Z a0 hw [] b2 w3 _ h2 n0 (Nat.le_trans Z0 KK2.1) BB2 ST2 rfl g_b2) hZ (hw _ (List.mem_of_getElem? (i := 5) rfl)) (hw _ (List.mem_of_getElem? (i := 2) rfl)) (by decide) (by decide)) (g := (mkF m 10 #[.val (.int p1), .val (.int ((p1 &&& (3 : Int32)) + (1 : Int32))), .unset, .unset, .unset, .unset, .unset, .unset, .unset, .unset] [(.ref b2), (.ref b2)])) rfl (by rw [hml]; rfl) (Steps.refl _) (a := b2) (argsL := []) (rest := [(.ref b2)]) (lenOf pd_0_0 rfl) rfl (by show 2 * 0 + _ ≤ _; exact Nat.le_of_eq rfl) (hb hby at_10) (fun _ _ => ⟨rfl, e2, (by decide : 1 + 26 ≤ _), (by decide : 19 + 141 ≤ _)⟩)
  dsimp only [Pt.U, Pt.locs, Pt.cells, Pt.slots] at X3 l3 y3 z3 st3 hQ3
  have y3' : k3 = 27 := y3
  have z3' : n3 = 160 := z3
  clear y3 z3
  subst y3' z3'
  obtain ⟨rfl, N3q, K3, d_b2, s_b2, sd_b2, ss_b2, Rb2_3⟩ := hQ3
  have N3 : Fr n0 L3 := by rw [l3]; exact Fr.app N0 N3q
  clear l3
  have KK3 : Keep h0 T3.heap [] := KK2.trans K3 fun x hx => by cases List.mem_singleton.mp hx; exact Or.inr sz_b2
  have ST3 := own_sta_keep ST2 K3 E_b2
  obtain ⟨cq4, kq4, q4a, q4b, q4c⟩ := isOf hZ rfl Rb2_3.1
  obtain ⟨_, _, ⟨T4, L4, k4, n4⟩, -, X4, ⟨Lc4, hQ4, l4, y4, z4⟩, st4⟩ := X3.virtualBack hx (y := (⟨"com/example/steplint/steplint/prove/SmtScript", "fresh", "()I"⟩ : MethodName)) (z := (⟨"com/example/steplint/steplint/prove/SmtScript", "fresh", "()I"⟩ : MethodName)) hown (mvT hZ (hw _ (List.mem_of_getElem? (i := 119) rfl))) (mvT hZ (hw _ (List.mem_of_getElem? (i := 120) rfl))) (notFace_of_selects (args := #[]) (mvT hZ (hw _ (List.mem_of_getElem? (i := 122) rfl)))) (mvT hZ (hw _ (List.mem_of_getElem? (i := 122) rfl))) (mvT hZ (hw _ (List.mem_of_getElem? (i := 121) rfl))) (by decide) (backOf (W := 0) (rm11 l Z a0 hw [] b2 d_b2 s_b2 (0 : Int32) T3.heap n0 (Nat.le_trans Z0 KK3.1) Rb2_3 g_b2) hZ (hw _ (List.mem_of_getElem? (i := 123) rfl)) (hw _ (List.mem_of_getElem? (i := 2) rfl)) (by decide) (by decide)) q4a q4c (g := (mkF m 15 #[.val (.int p1), .val (.int ((p1 &&& (3 : Int32)) + (1 : Int32))), .val (.ref b2), .unset, .unset, .unset, .unset, .unset, .unset, .unset] [(.ref b2)])) rfl (by rw [hml]; rfl) (Steps.refl _) (argsL := []) (rest := []) (lenOf pd_0_2 rfl) rfl (by show 2 * 0 + _ ≤ _; exact Nat.le_of_eq rfl) (hb hby at_15) (fun _ _ => ⟨rfl, rfl, (by decide : 27 + 0 ≤ _), (by decide : 160 + 0 ≤ _)⟩)
  dsimp only [Pt.U, Pt.locs, Pt.cells, Pt.slots] at X4 l4 y4 z4 st4 hQ4
  have y4' : k4 = 27 := y4
  have z4' : n4 = 160 := z4
  clear y4 z4
  subst y4' z4'
  obtain ⟨rfl, N4q, K4, Rb2_4⟩ := hQ4
  have N4 : Fr n0 L4 := by rw [l4]; exact Fr.app N3 N4q
  clear l4
  have KK4 : Keep h0 T4.heap [] := KK3.trans K4 fun x hx => by cases List.mem_singleton.mp hx; exact Or.inr sz_b2
  have ST4 := own_sta_keep ST3 K4 Rb2_3.1
  obtain ⟨cq5, kq5, q5a, q5b, q5c⟩ := isOf hZ rfl Rb2_4.1
  obtain ⟨_, _, ⟨T5, L5, k5, n5⟩, -, X5, ⟨Lc5, hQ5, l5, y5, z5⟩, st5⟩ := X4.virtualBack hx (y := (⟨"com/example/steplint/steplint/prove/SmtScript", "fresh", "()I"⟩ : MethodName)) (z := (⟨"com/example/steplint/steplint/prove/SmtScript", "fresh", "()I"⟩ : MethodName)) hown (mvT hZ (hw _ (List.mem_of_getElem? (i := 119) rfl))) (mvT hZ (hw _ (List.mem_of_getElem? (i := 120) rfl))) (notFace_of_selects (args := #[]) (mvT hZ (hw _ (List.mem_of_getElem? (i := 122) rfl)))) (mvT hZ (hw _ (List.mem_of_getElem? (i := 122) rfl))) (mvT hZ (hw _ (List.mem_of_getElem? (i := 121) rfl))) (by decide) (backOf (W := 0) (rm11 l Z a0 hw [] b2 d_b2 s_b2 ((0 : Int32) + (1 : Int32)) T4.heap n0 (Nat.le_trans Z0 KK4.1) Rb2_4 g_b2) hZ (hw _ (List.mem_of_getElem? (i := 123) rfl)) (hw _ (List.mem_of_getElem? (i := 2) rfl)) (by decide) (by decide)) q5a q5c (g := (mkF m 28 #[.val (.int p1), .val (.int ((p1 &&& (3 : Int32)) + (1 : Int32))), .val (.ref b2), .val (.int ((0 : Int32) + (1 : Int32))), .val (.int (2 : Int32)), .unset, .unset, .unset, .unset, .unset] [(.ref b2)])) rfl (by rw [hml]; rfl) (Steps.refl _) (argsL := []) (rest := []) (lenOf pd_0_2 rfl) rfl (by show 2 * 0 + _ ≤ _; exact Nat.le_of_eq rfl) (hb hby at_28) (fun _ _ => ⟨rfl, rfl, (by decide : 27 + 0 ≤ _), (by decide : 160 + 0 ≤ _)⟩)
  dsimp only [Pt.U, Pt.locs, Pt.cells, Pt.slots] at X5 l5 y5 z5 st5 hQ5
  have y5' : k5 = 27 := y5
  have z5' : n5 = 160 := z5
  clear y5 z5
  subst y5' z5'
  obtain ⟨rfl, N5q, K5, Rb2_5⟩ := hQ5
  have N5 : Fr n0 L5 := by rw [l5]; exact Fr.app N4 N5q
  clear l5
  have KK5 : Keep h0 T5.heap [] := KK4.trans K5 fun x hx => by cases List.mem_singleton.mp hx; exact Or.inr sz_b2
  have ST5 := own_sta_keep ST4 K5 Rb2_4.1
  obtain ⟨cq6, kq6, q6a, q6b, q6c⟩ := isOf hZ rfl Rb2_5.1
  obtain ⟨_, _, ⟨T6, L6, k6, n6⟩, -, X6, ⟨Lc6, hQ6, l6, y6, z6⟩, st6⟩ := X5.virtualBack hx (y := (⟨"com/example/steplint/steplint/prove/SmtScript", "fresh", "()I"⟩ : MethodName)) (z := (⟨"com/example/steplint/steplint/prove/SmtScript", "fresh", "()I"⟩ : MethodName)) hown (mvT hZ (hw _ (List.mem_of_getElem? (i := 119) rfl))) (mvT hZ (hw _ (List.mem_of_getElem? (i := 120) rfl))) (notFace_of_selects (args := #[]) (mvT hZ (hw _ (List.mem_of_getElem? (i := 122) rfl)))) (mvT hZ (hw _ (List.mem_of_getElem? (i := 122) rfl))) (mvT hZ (hw _ (List.mem_of_getElem? (i := 121) rfl))) (by decide) (backOf (W := 0) (rm11 l Z a0 hw [] b2 d_b2 s_b2 (((0 : Int32) + (1 : Int32)) + (1 : Int32)) T5.heap n0 (Nat.le_trans Z0 KK5.1) Rb2_5 g_b2) hZ (hw _ (List.mem_of_getElem? (i := 123) rfl)) (hw _ (List.mem_of_getElem? (i := 2) rfl)) (by decide) (by decide)) q6a q6c (g := (mkF m 42 #[.val (.int p1), .val (.int ((p1 &&& (3 : Int32)) + (1 : Int32))), .val (.ref b2), .val (.int ((0 : Int32) + (1 : Int32))), .val (.int (((0 : Int32) + (1 : Int32)) + (1 : Int32))), .val (.int (3 : Int32)), .unset, .unset, .unset, .unset] [(.ref b2)])) rfl (by rw [hml]; rfl) (Steps.refl _) (argsL := []) (rest := []) (lenOf pd_0_2 rfl) rfl (by show 2 * 0 + _ ≤ _; exact Nat.le_of_eq rfl) (hb hby at_42) (fun _ _ => ⟨rfl, rfl, (by decide : 27 + 0 ≤ _), (by decide : 160 + 0 ≤ _)⟩)
  dsimp only [Pt.U, Pt.locs, Pt.cells, Pt.slots] at X6 l6 y6 z6 st6 hQ6
  have y6' : k6 = 27 := y6
  have z6' : n6 = 160 := z6
  clear y6 z6
  subst y6' z6'
  obtain ⟨rfl, N6q, K6, Rb2_6⟩ := hQ6
  have N6 : Fr n0 L6 := by rw [l6]; exact Fr.app N5 N6q
  clear l6
  have KK6 : Keep h0 T6.heap [] := KK5.trans K6 fun x hx => by cases List.mem_singleton.mp hx; exact Or.inr sz_b2
  have ST6 := own_sta_keep ST5 K6 Rb2_5.1
  obtain ⟨cq7, kq7, q7a, q7b, q7c⟩ := isOf hZ rfl Rb2_6.1
  obtain ⟨_, _, ⟨T7, L7, k7, n7⟩, -, X7, ⟨Lc7, hQ7, l7, y7, z7⟩, st7⟩ := X6.virtualBack hx (y := (⟨"com/example/steplint/steplint/prove/SmtScript", "fresh", "()I"⟩ : MethodName)) (z := (⟨"com/example/steplint/steplint/prove/SmtScript", "fresh", "()I"⟩ : MethodName)) hown (mvT hZ (hw _ (List.mem_of_getElem? (i := 119) rfl))) (mvT hZ (hw _ (List.mem_of_getElem? (i := 120) rfl))) (notFace_of_selects (args := #[]) (mvT hZ (hw _ (List.mem_of_getElem? (i := 122) rfl)))) (mvT hZ (hw _ (List.mem_of_getElem? (i := 122) rfl))) (mvT hZ (hw _ (List.mem_of_getElem? (i := 121) rfl))) (by decide) (backOf (W := 0) (rm11 l Z a0 hw [] b2 d_b2 s_b2 ((((0 : Int32) + (1 : Int32)) + (1 : Int32)) + (1 : Int32)) T6.heap n0 (Nat.le_trans Z0 KK6.1) Rb2_6 g_b2) hZ (hw _ (List.mem_of_getElem? (i := 123) rfl)) (hw _ (List.mem_of_getElem? (i := 2) rfl)) (by decide) (by decide)) q7a q7c (g := (mkF m 56 #[.val (.int p1), .val (.int ((p1 &&& (3 : Int32)) + (1 : Int32))), .val (.ref b2), .val (.int ((0 : Int32) + (1 : Int32))), .val (.int (((0 : Int32) + (1 : Int32)) + (1 : Int32))), .val (.int ((((0 : Int32) + (1 : Int32)) + (1 : Int32)) + (1 : Int32))), .val (.int (4 : Int32)), .unset, .unset, .unset] [(.ref b2)])) rfl (by rw [hml]; rfl) (Steps.refl _) (argsL := []) (rest := []) (lenOf pd_0_2 rfl) rfl (by show 2 * 0 + _ ≤ _; exact Nat.le_of_eq rfl) (hb hby at_56) (fun _ _ => ⟨rfl, rfl, (by decide : 27 + 0 ≤ _), (by decide : 160 + 0 ≤ _)⟩)
  dsimp only [Pt.U, Pt.locs, Pt.cells, Pt.slots] at X7 l7 y7 z7 st7 hQ7
  have y7' : k7 = 27 := y7
  have z7' : n7 = 160 := z7
  clear y7 z7
  subst y7' z7'
  obtain ⟨rfl, N7q, K7, Rb2_7⟩ := hQ7
  have N7 : Fr n0 L7 := by rw [l7]; exact Fr.app N6 N7q
  clear l7
  have KK7 : Keep h0 T7.heap [] := KK6.trans K7 fun x hx => by cases List.mem_singleton.mp hx; exact Or.inr sz_b2
  have ST7 := own_sta_keep ST6 K7 Rb2_6.1
  obtain ⟨T8, h8, X8, e8, E8, A8, D8, -, st8⟩ := newO X7 hx hZ hown (hw _ (List.mem_of_getElem? (i := 0) rfl)) (hw _ (List.mem_of_getElem? (i := 1) rfl)) (hw _ (List.mem_of_getElem? (i := 2) rfl)) rfl (g := (mkF m 61 #[.val (.int p1), .val (.int ((p1 &&& (3 : Int32)) + (1 : Int32))), .val (.ref b2), .val (.int ((0 : Int32) + (1 : Int32))), .val (.int (((0 : Int32) + (1 : Int32)) + (1 : Int32))), .val (.int ((((0 : Int32) + (1 : Int32)) + (1 : Int32)) + (1 : Int32))), .val (.int (((((0 : Int32) + (1 : Int32)) + (1 : Int32)) + (1 : Int32)) + (1 : Int32))), .unset, .unset, .unset] [])) rfl (hb hby at_61) (by decide) (by decide)
  obtain ⟨b8, g8⟩ : ∃ z, z = T7.heap.size := ⟨_, rfl⟩
  rw [← g8] at A8 D8 st8
  have F_declarations_b8 : Fld Z h8 b8 "com/example/steplint/steplint/prove/SmtScript" "declarations" "Ljava/util/List;" .null := D8 (Or.inr (hw _ (List.mem_of_getElem? (i := 34) rfl))) (ty := (.object "java/util/List")) (by decide)
  have F_assertions_b8 : Fld Z h8 b8 "com/example/steplint/steplint/prove/SmtScript" "assertions" "Ljava/util/List;" .null := D8 (Or.inr (hw _ (List.mem_of_getElem? (i := 36) rfl))) (ty := (.object "java/util/List")) (by decide)
  have F_sorts_b8 : Fld Z h8 b8 "com/example/steplint/steplint/prove/SmtScript" "sorts" "Ljava/util/Map;" .null := D8 (Or.inr (hw _ (List.mem_of_getElem? (i := 54) rfl))) (ty := (.object "java/util/Map")) (by decide)
  have F_pairTypes_b8 : Fld Z h8 b8 "com/example/steplint/steplint/prove/SmtScript" "pairTypes" "Ljava/util/Map;" .null := D8 (Or.inr (hw _ (List.mem_of_getElem? (i := 56) rfl))) (ty := (.object "java/util/Map")) (by decide)
  have F_constants_b8 : Fld Z h8 b8 "com/example/steplint/steplint/prove/SmtScript" "constants" "Ljava/util/Map;" .null := D8 (Or.inr (hw _ (List.mem_of_getElem? (i := 58) rfl))) (ty := (.object "java/util/Map")) (by decide)
  have F_definitions_b8 : Fld Z h8 b8 "com/example/steplint/steplint/prove/SmtScript" "definitions" "Ljava/util/Map;" .null := D8 (Or.inr (hw _ (List.mem_of_getElem? (i := 60) rfl))) (ty := (.object "java/util/Map")) (by decide)
  have F_definedValues_b8 : Fld Z h8 b8 "com/example/steplint/steplint/prove/SmtScript" "definedValues" "Ljava/util/Set;" .null := D8 (Or.inr (hw _ (List.mem_of_getElem? (i := 81) rfl))) (ty := (.object "java/util/Set")) (by decide)
  have F_functions_b8 : Fld Z h8 b8 "com/example/steplint/steplint/prove/SmtScript" "functions" "Ljava/util/Map;" .null := D8 (Or.inr (hw _ (List.mem_of_getElem? (i := 83) rfl))) (ty := (.object "java/util/Map")) (by decide)
  have F_facts_b8 : Fld Z h8 b8 "com/example/steplint/steplint/prove/SmtScript" "facts" "Ljava/util/Set;" .null := D8 (Or.inr (hw _ (List.mem_of_getElem? (i := 85) rfl))) (ty := (.object "java/util/Set")) (by decide)
  have F_placeholders_b8 : Fld Z h8 b8 "com/example/steplint/steplint/prove/SmtScript" "placeholders" "Ljava/util/Map;" .null := D8 (Or.inr (hw _ (List.mem_of_getElem? (i := 87) rfl))) (ty := (.object "java/util/Map")) (by decide)
  have F_letNamesInUse_b8 : Fld Z h8 b8 "com/example/steplint/steplint/prove/SmtScript" "letNamesInUse" "Ljava/util/Set;" .null := D8 (Or.inr (hw _ (List.mem_of_getElem? (i := 89) rfl))) (ty := (.object "java/util/Set")) (by decide)
  have F_sharedForms_b8 : Fld Z h8 b8 "com/example/steplint/steplint/prove/SmtScript" "sharedForms" "Lcom/example/steplint/steplint/prove/SmtScript$SharedForms;" .null := D8 (Or.inr (hw _ (List.mem_of_getElem? (i := 106) rfl))) (ty := (.object "com/example/steplint/steplint/prove/SmtScript$SharedForms")) (by decide)
  have F_sizeNotes_b8 : Fld Z h8 b8 "com/example/steplint/steplint/prove/SmtScript" "sizeNotes" "Ljava/util/List;" .null := D8 (Or.inr (hw _ (List.mem_of_getElem? (i := 108) rfl))) (ty := (.object "java/util/List")) (by decide)
  have F_sizeKeys_b8 : Fld Z h8 b8 "com/example/steplint/steplint/prove/SmtScript" "sizeKeys" "Ljava/util/Set;" .null := D8 (Or.inr (hw _ (List.mem_of_getElem? (i := 110) rfl))) (ty := (.object "java/util/Set")) (by decide)
  have F_sizedTerms_b8 : Fld Z h8 b8 "com/example/steplint/steplint/prove/SmtScript" "sizedTerms" "Ljava/util/Set;" .null := D8 (Or.inr (hw _ (List.mem_of_getElem? (i := 112) rfl))) (ty := (.object "java/util/Set")) (by decide)
  have F_countedSets_b8 : Fld Z h8 b8 "com/example/steplint/steplint/prove/SmtScript" "countedSets" "Ljava/util/Map;" .null := D8 (Or.inr (hw _ (List.mem_of_getElem? (i := 114) rfl))) (ty := (.object "java/util/Map")) (by decide)
  have F_countedNotes_b8 : Fld Z h8 b8 "com/example/steplint/steplint/prove/SmtScript" "countedNotes" "Ljava/util/List;" .null := D8 (Or.inr (hw _ (List.mem_of_getElem? (i := 116) rfl))) (ty := (.object "java/util/List")) (by decide)
  have F_variableSymbols_b8 : Fld Z h8 b8 "com/example/steplint/steplint/prove/SmtScript" "variableSymbols" "Ljava/util/Set;" .null := D8 (Or.inr (hw _ (List.mem_of_getElem? (i := 118) rfl))) (ty := (.object "java/util/Set")) (by decide)
  have F_names_b8 : Fld Z h8 b8 "com/example/steplint/steplint/prove/SmtScript" "names" "I" (.int (0 : Int32)) := D8 (Or.inl (hw _ (List.mem_of_getElem? (i := 125) rfl))) (ty := .int) (by decide)
  have E_b8 := A8
  have g_b8 : n0 ≤ b8 := Nat.le_trans Z0 (Nat.le_trans KK7.1 (Nat.le_of_eq g8.symm))
  have sz_b8 : h0.size ≤ b8 := Nat.le_trans KK7.1 (Nat.le_of_eq g8.symm)
  have ne_b2_b8 := Rb2_7.lts (Nat.le_of_eq g8.symm)
  have Rb2_8 := Rb2_7.ext E8
  have KK8 : Keep h0 h8 [] := KK7.ext E8
  have ST8 := ST7.ext E8
  have BB8 : Sc Z h8 b8 (fun s => if s = "names" then .int (0 : Int32) else .null) := ⟨E_b8, by
    intro q hq
    simp only [own_fl, List.mem_cons, List.not_mem_nil, or_false] at hq
    rcases hq with rfl | rfl | rfl | rfl | rfl | rfl | rfl | rfl | rfl | rfl | rfl | rfl | rfl | rfl | rfl | rfl | rfl | rfl | rfl
    · exact F_declarations_b8
    · exact F_assertions_b8
    · exact F_sorts_b8
    · exact F_pairTypes_b8
    · exact F_constants_b8
    · exact F_definitions_b8
    · exact F_definedValues_b8
    · exact F_functions_b8
    · exact F_facts_b8
    · exact F_placeholders_b8
    · exact F_letNamesInUse_b8
    · exact F_sharedForms_b8
    · exact F_sizeNotes_b8
    · exact F_sizeKeys_b8
    · exact F_sizedTerms_b8
    · exact F_countedSets_b8
    · exact F_countedNotes_b8
    · exact F_variableSymbols_b8
    · exact F_names_b8⟩
  obtain ⟨_, _, ⟨T9, L9, k9, n9⟩, -, X9, ⟨Lc9, hQ9, l9, y9, z9⟩, st9⟩ := X8.specialBack hx (y := (⟨"com/example/steplint/steplint/prove/SmtScript", "<init>", "()V"⟩ : MethodName)) rfl hown (mvT hZ (hw _ (List.mem_of_getElem? (i := 3) rfl))) (mvT hZ (hw _ (List.mem_of_getElem? (i := 4) rfl))) (mvT hZ (hw _ (List.mem_of_getElem? (i := 5) rfl))) (by decide) (backOf (W := 1) (rm1 l Z a0 hw [] b8 w3 _ h8 n0 (Nat.le_trans Z0 KK8.1) BB8 ST8 rfl g_b8) hZ (hw _ (List.mem_of_getElem? (i := 5) rfl)) (hw _ (List.mem_of_getElem? (i := 2) rfl)) (by decide) (by decide)) (g := (mkF m 65 #[.val (.int p1), .val (.int ((p1 &&& (3 : Int32)) + (1 : Int32))), .val (.ref b2), .val (.int ((0 : Int32) + (1 : Int32))), .val (.int (((0 : Int32) + (1 : Int32)) + (1 : Int32))), .val (.int ((((0 : Int32) + (1 : Int32)) + (1 : Int32)) + (1 : Int32))), .val (.int (((((0 : Int32) + (1 : Int32)) + (1 : Int32)) + (1 : Int32)) + (1 : Int32))), .unset, .unset, .unset] [(.ref b8), (.ref b8)])) rfl (by rw [hml]; rfl) (Steps.refl _) (a := b8) (argsL := []) (rest := [(.ref b8)]) (lenOf pd_0_0 rfl) rfl (by show 2 * 0 + _ ≤ _; exact Nat.le_of_eq rfl) (hb hby at_65) (fun _ _ => ⟨rfl, e8, (by decide : 28 + 26 ≤ _), (by decide : 179 + 141 ≤ _)⟩)
  dsimp only [Pt.U, Pt.locs, Pt.cells, Pt.slots] at X9 l9 y9 z9 st9 hQ9
  have y9' : k9 = 54 := y9
  have z9' : n9 = 320 := z9
  clear y9 z9
  subst y9' z9'
  obtain ⟨rfl, N9q, K9, d_b8, s_b8, sd_b8, ss_b8, Rb8_9⟩ := hQ9
  have N9 : Fr n0 L9 := by rw [l9]; exact Fr.app N7 N9q
  clear l9
  have KK9 : Keep h0 T9.heap [] := KK8.trans K9 fun x hx => by cases List.mem_singleton.mp hx; exact Or.inr sz_b8
  have ST9 := own_sta_keep ST8 K9 E_b8
  have Rb2_9 := Rb2_8.keep K9 ne_b2_b8
  obtain ⟨cq10, kq10, q10a, q10b, q10c⟩ := isOf hZ rfl Rb8_9.1
  obtain ⟨_, _, ⟨T10, L10, k10, n10⟩, -, X10, ⟨Lc10, hQ10, l10, y10, z10⟩, st10⟩ := X9.virtualBack hx (y := (⟨"com/example/steplint/steplint/prove/SmtScript", "fresh", "()I"⟩ : MethodName)) (z := (⟨"com/example/steplint/steplint/prove/SmtScript", "fresh", "()I"⟩ : MethodName)) hown (mvT hZ (hw _ (List.mem_of_getElem? (i := 119) rfl))) (mvT hZ (hw _ (List.mem_of_getElem? (i := 120) rfl))) (notFace_of_selects (args := #[]) (mvT hZ (hw _ (List.mem_of_getElem? (i := 122) rfl)))) (mvT hZ (hw _ (List.mem_of_getElem? (i := 122) rfl))) (mvT hZ (hw _ (List.mem_of_getElem? (i := 121) rfl))) (by decide) (backOf (W := 0) (rm11 l Z a0 hw [] b8 d_b8 s_b8 (0 : Int32) T9.heap n0 (Nat.le_trans Z0 KK9.1) Rb8_9 g_b8) hZ (hw _ (List.mem_of_getElem? (i := 123) rfl)) (hw _ (List.mem_of_getElem? (i := 2) rfl)) (by decide) (by decide)) q10a q10c (g := (mkF m 72 #[.val (.int p1), .val (.int ((p1 &&& (3 : Int32)) + (1 : Int32))), .val (.ref b2), .val (.int ((0 : Int32) + (1 : Int32))), .val (.int (((0 : Int32) + (1 : Int32)) + (1 : Int32))), .val (.int ((((0 : Int32) + (1 : Int32)) + (1 : Int32)) + (1 : Int32))), .val (.int (((((0 : Int32) + (1 : Int32)) + (1 : Int32)) + (1 : Int32)) + (1 : Int32))), .val (.ref b8), .unset, .unset] [(.ref b8)])) rfl (by rw [hml]; rfl) (Steps.refl _) (argsL := []) (rest := []) (lenOf pd_0_2 rfl) rfl (by show 2 * 0 + _ ≤ _; exact Nat.le_of_eq rfl) (hb hby at_72) (fun _ _ => ⟨rfl, rfl, (by decide : 54 + 0 ≤ _), (by decide : 320 + 0 ≤ _)⟩)
  dsimp only [Pt.U, Pt.locs, Pt.cells, Pt.slots] at X10 l10 y10 z10 st10 hQ10
  have y10' : k10 = 54 := y10
  have z10' : n10 = 320 := z10
  clear y10 z10
  subst y10' z10'
  obtain ⟨rfl, N10q, K10, Rb8_10⟩ := hQ10
  have N10 : Fr n0 L10 := by rw [l10]; exact Fr.app N9 N10q
  clear l10
  have KK10 : Keep h0 T10.heap [] := KK9.trans K10 fun x hx => by cases List.mem_singleton.mp hx; exact Or.inr sz_b8
  have ST10 := own_sta_keep ST9 K10 Rb8_9.1
  have Rb2_10 := Rb2_9.keep K10 ne_b2_b8
  obtain ⟨cq11, kq11, q11a, q11b, q11c⟩ := isOf hZ rfl Rb2_10.1
  obtain ⟨_, _, ⟨T11, L11, k11, n11⟩, -, X11, ⟨Lc11, hQ11, l11, y11, z11⟩, st11⟩ := X10.virtualBack hx (y := (⟨"com/example/steplint/steplint/prove/SmtScript", "said", "()I"⟩ : MethodName)) (z := (⟨"com/example/steplint/steplint/prove/SmtScript", "said", "()I"⟩ : MethodName)) hown (mvT hZ (hw _ (List.mem_of_getElem? (i := 126) rfl))) (mvT hZ (hw _ (List.mem_of_getElem? (i := 127) rfl))) (notFace_of_selects (args := #[]) (mvT hZ (hw _ (List.mem_of_getElem? (i := 129) rfl)))) (mvT hZ (hw _ (List.mem_of_getElem? (i := 129) rfl))) (mvT hZ (hw _ (List.mem_of_getElem? (i := 128) rfl))) (by decide) (backOf (W := 0) (rm12 l Z a0 hw [] b2 d_b2 s_b2 T10.heap n0 (Nat.le_trans Z0 KK10.1) Rb2_10.2.2.1 Rb2_10.2.2.2.2.1.1 Rb2_10.2.2.2.1 Rb2_10.2.2.2.2.2.1.1 Rb2_10.2.2.2.2.1.2 Rb2_10.2.2.2.2.2.1.2) hZ (hw _ (List.mem_of_getElem? (i := 130) rfl)) (hw _ (List.mem_of_getElem? (i := 2) rfl)) (by decide) (by decide)) q11a q11c (g := (mkF m 78 #[.val (.int p1), .val (.int ((p1 &&& (3 : Int32)) + (1 : Int32))), .val (.ref b2), .val (.int ((0 : Int32) + (1 : Int32))), .val (.int (((0 : Int32) + (1 : Int32)) + (1 : Int32))), .val (.int ((((0 : Int32) + (1 : Int32)) + (1 : Int32)) + (1 : Int32))), .val (.int (((((0 : Int32) + (1 : Int32)) + (1 : Int32)) + (1 : Int32)) + (1 : Int32))), .val (.ref b8), .val (.int ((0 : Int32) + (1 : Int32))), .unset] [(.ref b2)])) rfl (by rw [hml]; rfl) (Steps.refl _) (argsL := []) (rest := []) (lenOf pd_0_2 rfl) rfl (by show 2 * 0 + _ ≤ _; exact Nat.le_of_eq rfl) (hb hby at_78) (fun _ _ => ⟨rfl, rfl, (by decide : 54 + 0 ≤ _), (by decide : 320 + 0 ≤ _)⟩)
  dsimp only [Pt.U, Pt.locs, Pt.cells, Pt.slots] at X11 l11 y11 z11 st11 hQ11
  have y11' : k11 = 54 := y11
  have z11' : n11 = 320 := z11
  clear y11 z11
  subst y11' z11'
  obtain ⟨rfl, N11q, q11⟩ := hQ11
  have N11 : Fr n0 L11 := by rw [l11]; exact Fr.app N10 N11q
  clear l11
  obtain ⟨fs, hr, hrun, hended, hW, hsame⟩ := X11.leave (v := some (.int (1 : Int32))) (fun h => by rw [Bd.returns] at h; cases h)
  refine ⟨_, _, pre0 _ ?_, hrun, hended, _, _, rfl, ?_, ⟨_, rfl⟩, hW, hsame.mono (by decide) (by decide)⟩
  -- 4. STEPS
  · show Steps p.tables e below (s₁.setTop (mkF m 0 #[.val (.int p1), .unset, .unset, .unset, .unset, .unset, .unset, .unset, .unset, .unset] [])) _
    refine XS.iloadN X0.here hx rfl (hb hby at_0) rfl ?_
    show Steps p.tables e below (s₁.setTop (mkF m 1 #[.val (.int p1), .unset, .unset, .unset, .unset, .unset, .unset, .unset, .unset, .unset] [(.int p1)])) _
    refine XS.iconst X0.here hx rfl (hb hby at_1) ?_
    show Steps p.tables e below (s₁.setTop (mkF m 2 #[.val (.int p1), .unset, .unset, .unset, .unset, .unset, .unset, .unset, .unset, .unset] [(.int (3 : Int32)), (.int p1)])) _
    refine XS.iand X0.here hx rfl (hb hby at_2) rfl ?_
    show Steps p.tables e below (s₁.setTop (mkF m 3 #[.val (.int p1), .unset, .unset, .unset, .unset, .unset, .unset, .unset, .unset, .unset] [(.int (p1 &&& (3 : Int32)))])) _
    refine XS.iconst X0.here hx rfl (hb hby at_3) ?_
    show Steps p.tables e below (s₁.setTop (mkF m 4 #[.val (.int p1), .unset, .unset, .unset, .unset, .unset, .unset, .unset, .unset, .unset] [(.int (1 : Int32)), (.int (p1 &&& (3 : Int32)))])) _
    refine XS.iadd X0.here hx rfl (hb hby at_4) rfl ?_
    show Steps p.tables e below (s₁.setTop (mkF m 5 #[.val (.int p1), .unset, .unset, .unset, .unset, .unset, .unset, .unset, .unset, .unset] [(.int ((p1 &&& (3 : Int32)) + (1 : Int32)))])) _
    refine XS.istoreN X0.here hx rfl (hb hby at_5) rfl (l' := #[.val (.int p1), .val (.int ((p1 &&& (3 : Int32)) + (1 : Int32))), .unset, .unset, .unset, .unset, .unset, .unset, .unset, .unset]) rfl ?_
    show Steps p.tables e below (s₁.setTop (mkF m 6 #[.val (.int p1), .val (.int ((p1 &&& (3 : Int32)) + (1 : Int32))), .unset, .unset, .unset, .unset, .unset, .unset, .unset, .unset] [])) _
    refine st2 _ ?_
    show Steps p.tables e below (T2.setTop (mkF m 9 #[.val (.int p1), .val (.int ((p1 &&& (3 : Int32)) + (1 : Int32))), .unset, .unset, .unset, .unset, .unset, .unset, .unset, .unset] [(.ref b2)])) _
    refine XS.dup X2.here hx rfl (hb hby at_9) rfl rfl ?_
    show Steps p.tables e below (T2.setTop (mkF m 10 #[.val (.int p1), .val (.int ((p1 &&& (3 : Int32)) + (1 : Int32))), .unset, .unset, .unset, .unset, .unset, .unset, .unset, .unset] [(.ref b2), (.ref b2)])) _
    refine st3.trans ?_
    show Steps p.tables e below (T3.setTop (mkF m 13 #[.val (.int p1), .val (.int ((p1 &&& (3 : Int32)) + (1 : Int32))), .unset, .unset, .unset, .unset, .unset, .unset, .unset, .unset] [(.ref b2)])) _
    refine XS.astoreN X3.here hx rfl (hb hby at_13) rfl rfl (l' := #[.val (.int p1), .val (.int ((p1 &&& (3 : Int32)) + (1 : Int32))), .val (.ref b2), .unset, .unset, .unset, .unset, .unset, .unset, .unset]) rfl ?_
    show Steps p.tables e below (T3.setTop (mkF m 14 #[.val (.int p1), .val (.int ((p1 &&& (3 : Int32)) + (1 : Int32))), .val (.ref b2), .unset, .unset, .unset, .unset, .unset, .unset, .unset] [])) _
    refine XS.aloadN X3.here hx rfl (hb hby at_14) rfl rfl ?_
    show Steps p.tables e below (T3.setTop (mkF m 15 #[.val (.int p1), .val (.int ((p1 &&& (3 : Int32)) + (1 : Int32))), .val (.ref b2), .unset, .unset, .unset, .unset, .unset, .unset, .unset] [(.ref b2)])) _
    refine st4.trans ?_
    show Steps p.tables e below (T4.setTop (mkF m 18 #[.val (.int p1), .val (.int ((p1 &&& (3 : Int32)) + (1 : Int32))), .val (.ref b2), .unset, .unset, .unset, .unset, .unset, .unset, .unset] [(.int ((0 : Int32) + (1 : Int32)))])) _
    refine XS.istoreN X4.here hx rfl (hb hby at_18) rfl (l' := #[.val (.int p1), .val (.int ((p1 &&& (3 : Int32)) + (1 : Int32))), .val (.ref b2), .val (.int ((0 : Int32) + (1 : Int32))), .unset, .unset, .unset, .unset, .unset, .unset]) rfl ?_
    show Steps p.tables e below (T4.setTop (mkF m 19 #[.val (.int p1), .val (.int ((p1 &&& (3 : Int32)) + (1 : Int32))), .val (.ref b2), .val (.int ((0 : Int32) + (1 : Int32))), .unset, .unset, .unset, .unset, .unset, .unset] [])) _
    refine XS.iconst X4.here hx rfl (hb hby at_19) ?_
    show Steps p.tables e below (T4.setTop (mkF m 20 #[.val (.int p1), .val (.int ((p1 &&& (3 : Int32)) + (1 : Int32))), .val (.ref b2), .val (.int ((0 : Int32) + (1 : Int32))), .unset, .unset, .unset, .unset, .unset, .unset] [(.int (2 : Int32))])) _
    refine XS.istore X4.here hx rfl (hb hby at_20) rfl (l' := #[.val (.int p1), .val (.int ((p1 &&& (3 : Int32)) + (1 : Int32))), .val (.ref b2), .val (.int ((0 : Int32) + (1 : Int32))), .val (.int (2 : Int32)), .unset, .unset, .unset, .unset, .unset]) rfl ?_
    show Steps p.tables e below (T4.setTop (mkF m 22 #[.val (.int p1), .val (.int ((p1 &&& (3 : Int32)) + (1 : Int32))), .val (.ref b2), .val (.int ((0 : Int32) + (1 : Int32))), .val (.int (2 : Int32)), .unset, .unset, .unset, .unset, .unset] [])) _
    refine XS.iloadN X4.here hx rfl (hb hby at_22) rfl ?_
    show Steps p.tables e below (T4.setTop (mkF m 23 #[.val (.int p1), .val (.int ((p1 &&& (3 : Int32)) + (1 : Int32))), .val (.ref b2), .val (.int ((0 : Int32) + (1 : Int32))), .val (.int (2 : Int32)), .unset, .unset, .unset, .unset, .unset] [(.int ((p1 &&& (3 : Int32)) + (1 : Int32)))])) _
    refine XS.iconst X4.here hx rfl (hb hby at_23) ?_
    show Steps p.tables e below (T4.setTop (mkF m 24 #[.val (.int p1), .val (.int ((p1 &&& (3 : Int32)) + (1 : Int32))), .val (.ref b2), .val (.int ((0 : Int32) + (1 : Int32))), .val (.int (2 : Int32)), .unset, .unset, .unset, .unset, .unset] [(.int (2 : Int32)), (.int ((p1 &&& (3 : Int32)) + (1 : Int32)))])) _
    refine XS.icmpNo X4.here hx rfl (hb hby at_24) rfl (flt hc24).1 ?_
    show Steps p.tables e below (T4.setTop (mkF m 27 #[.val (.int p1), .val (.int ((p1 &&& (3 : Int32)) + (1 : Int32))), .val (.ref b2), .val (.int ((0 : Int32) + (1 : Int32))), .val (.int (2 : Int32)), .unset, .unset, .unset, .unset, .unset] [])) _
    refine XS.aloadN X4.here hx rfl (hb hby at_27) rfl rfl ?_
    show Steps p.tables e below (T4.setTop (mkF m 28 #[.val (.int p1), .val (.int ((p1 &&& (3 : Int32)) + (1 : Int32))), .val (.ref b2), .val (.int ((0 : Int32) + (1 : Int32))), .val (.int (2 : Int32)), .unset, .unset, .unset, .unset, .unset] [(.ref b2)])) _
    refine st5.trans ?_
    show Steps p.tables e below (T5.setTop (mkF m 31 #[.val (.int p1), .val (.int ((p1 &&& (3 : Int32)) + (1 : Int32))), .val (.ref b2), .val (.int ((0 : Int32) + (1 : Int32))), .val (.int (2 : Int32)), .unset, .unset, .unset, .unset, .unset] [(.int (((0 : Int32) + (1 : Int32)) + (1 : Int32)))])) _
    refine XS.istore X5.here hx rfl (hb hby at_31) rfl (l' := #[.val (.int p1), .val (.int ((p1 &&& (3 : Int32)) + (1 : Int32))), .val (.ref b2), .val (.int ((0 : Int32) + (1 : Int32))), .val (.int (((0 : Int32) + (1 : Int32)) + (1 : Int32))), .unset, .unset, .unset, .unset, .unset]) rfl ?_
    show Steps p.tables e below (T5.setTop (mkF m 33 #[.val (.int p1), .val (.int ((p1 &&& (3 : Int32)) + (1 : Int32))), .val (.ref b2), .val (.int ((0 : Int32) + (1 : Int32))), .val (.int (((0 : Int32) + (1 : Int32)) + (1 : Int32))), .unset, .unset, .unset, .unset, .unset] [])) _
    refine XS.iconst X5.here hx rfl (hb hby at_33) ?_
    show Steps p.tables e below (T5.setTop (mkF m 34 #[.val (.int p1), .val (.int ((p1 &&& (3 : Int32)) + (1 : Int32))), .val (.ref b2), .val (.int ((0 : Int32) + (1 : Int32))), .val (.int (((0 : Int32) + (1 : Int32)) + (1 : Int32))), .unset, .unset, .unset, .unset, .unset] [(.int (3 : Int32))])) _
    refine XS.istore X5.here hx rfl (hb hby at_34) rfl (l' := #[.val (.int p1), .val (.int ((p1 &&& (3 : Int32)) + (1 : Int32))), .val (.ref b2), .val (.int ((0 : Int32) + (1 : Int32))), .val (.int (((0 : Int32) + (1 : Int32)) + (1 : Int32))), .val (.int (3 : Int32)), .unset, .unset, .unset, .unset]) rfl ?_
    show Steps p.tables e below (T5.setTop (mkF m 36 #[.val (.int p1), .val (.int ((p1 &&& (3 : Int32)) + (1 : Int32))), .val (.ref b2), .val (.int ((0 : Int32) + (1 : Int32))), .val (.int (((0 : Int32) + (1 : Int32)) + (1 : Int32))), .val (.int (3 : Int32)), .unset, .unset, .unset, .unset] [])) _
    refine XS.iloadN X5.here hx rfl (hb hby at_36) rfl ?_
    show Steps p.tables e below (T5.setTop (mkF m 37 #[.val (.int p1), .val (.int ((p1 &&& (3 : Int32)) + (1 : Int32))), .val (.ref b2), .val (.int ((0 : Int32) + (1 : Int32))), .val (.int (((0 : Int32) + (1 : Int32)) + (1 : Int32))), .val (.int (3 : Int32)), .unset, .unset, .unset, .unset] [(.int ((p1 &&& (3 : Int32)) + (1 : Int32)))])) _
    refine XS.iconst X5.here hx rfl (hb hby at_37) ?_
    show Steps p.tables e below (T5.setTop (mkF m 38 #[.val (.int p1), .val (.int ((p1 &&& (3 : Int32)) + (1 : Int32))), .val (.ref b2), .val (.int ((0 : Int32) + (1 : Int32))), .val (.int (((0 : Int32) + (1 : Int32)) + (1 : Int32))), .val (.int (3 : Int32)), .unset, .unset, .unset, .unset] [(.int (3 : Int32)), (.int ((p1 &&& (3 : Int32)) + (1 : Int32)))])) _
    refine XS.icmpNo X5.here hx rfl (hb hby at_38) rfl (flt hc38).1 ?_
    show Steps p.tables e below (T5.setTop (mkF m 41 #[.val (.int p1), .val (.int ((p1 &&& (3 : Int32)) + (1 : Int32))), .val (.ref b2), .val (.int ((0 : Int32) + (1 : Int32))), .val (.int (((0 : Int32) + (1 : Int32)) + (1 : Int32))), .val (.int (3 : Int32)), .unset, .unset, .unset, .unset] [])) _
    refine XS.aloadN X5.here hx rfl (hb hby at_41) rfl rfl ?_
    show Steps p.tables e below (T5.setTop (mkF m 42 #[.val (.int p1), .val (.int ((p1 &&& (3 : Int32)) + (1 : Int32))), .val (.ref b2), .val (.int ((0 : Int32) + (1 : Int32))), .val (.int (((0 : Int32) + (1 : Int32)) + (1 : Int32))), .val (.int (3 : Int32)), .unset, .unset, .unset, .unset] [(.ref b2)])) _
    refine st6.trans ?_
    show Steps p.tables e below (T6.setTop (mkF m 45 #[.val (.int p1), .val (.int ((p1 &&& (3 : Int32)) + (1 : Int32))), .val (.ref b2), .val (.int ((0 : Int32) + (1 : Int32))), .val (.int (((0 : Int32) + (1 : Int32)) + (1 : Int32))), .val (.int (3 : Int32)), .unset, .unset, .unset, .unset] [(.int ((((0 : Int32) + (1 : Int32)) + (1 : Int32)) + (1 : Int32)))])) _
    refine XS.istore X6.here hx rfl (hb hby at_45) rfl (l' := #[.val (.int p1), .val (.int ((p1 &&& (3 : Int32)) + (1 : Int32))), .val (.ref b2), .val (.int ((0 : Int32) + (1 : Int32))), .val (.int (((0 : Int32) + (1 : Int32)) + (1 : Int32))), .val (.int ((((0 : Int32) + (1 : Int32)) + (1 : Int32)) + (1 : Int32))), .unset, .unset, .unset, .unset]) rfl ?_
    show Steps p.tables e below (T6.setTop (mkF m 47 #[.val (.int p1), .val (.int ((p1 &&& (3 : Int32)) + (1 : Int32))), .val (.ref b2), .val (.int ((0 : Int32) + (1 : Int32))), .val (.int (((0 : Int32) + (1 : Int32)) + (1 : Int32))), .val (.int ((((0 : Int32) + (1 : Int32)) + (1 : Int32)) + (1 : Int32))), .unset, .unset, .unset, .unset] [])) _
    refine XS.iconst X6.here hx rfl (hb hby at_47) ?_
    show Steps p.tables e below (T6.setTop (mkF m 48 #[.val (.int p1), .val (.int ((p1 &&& (3 : Int32)) + (1 : Int32))), .val (.ref b2), .val (.int ((0 : Int32) + (1 : Int32))), .val (.int (((0 : Int32) + (1 : Int32)) + (1 : Int32))), .val (.int ((((0 : Int32) + (1 : Int32)) + (1 : Int32)) + (1 : Int32))), .unset, .unset, .unset, .unset] [(.int (4 : Int32))])) _
    refine XS.istore X6.here hx rfl (hb hby at_48) rfl (l' := #[.val (.int p1), .val (.int ((p1 &&& (3 : Int32)) + (1 : Int32))), .val (.ref b2), .val (.int ((0 : Int32) + (1 : Int32))), .val (.int (((0 : Int32) + (1 : Int32)) + (1 : Int32))), .val (.int ((((0 : Int32) + (1 : Int32)) + (1 : Int32)) + (1 : Int32))), .val (.int (4 : Int32)), .unset, .unset, .unset]) rfl ?_
    show Steps p.tables e below (T6.setTop (mkF m 50 #[.val (.int p1), .val (.int ((p1 &&& (3 : Int32)) + (1 : Int32))), .val (.ref b2), .val (.int ((0 : Int32) + (1 : Int32))), .val (.int (((0 : Int32) + (1 : Int32)) + (1 : Int32))), .val (.int ((((0 : Int32) + (1 : Int32)) + (1 : Int32)) + (1 : Int32))), .val (.int (4 : Int32)), .unset, .unset, .unset] [])) _
    refine XS.iloadN X6.here hx rfl (hb hby at_50) rfl ?_
    show Steps p.tables e below (T6.setTop (mkF m 51 #[.val (.int p1), .val (.int ((p1 &&& (3 : Int32)) + (1 : Int32))), .val (.ref b2), .val (.int ((0 : Int32) + (1 : Int32))), .val (.int (((0 : Int32) + (1 : Int32)) + (1 : Int32))), .val (.int ((((0 : Int32) + (1 : Int32)) + (1 : Int32)) + (1 : Int32))), .val (.int (4 : Int32)), .unset, .unset, .unset] [(.int ((p1 &&& (3 : Int32)) + (1 : Int32)))])) _
    refine XS.iconst X6.here hx rfl (hb hby at_51) ?_
    show Steps p.tables e below (T6.setTop (mkF m 52 #[.val (.int p1), .val (.int ((p1 &&& (3 : Int32)) + (1 : Int32))), .val (.ref b2), .val (.int ((0 : Int32) + (1 : Int32))), .val (.int (((0 : Int32) + (1 : Int32)) + (1 : Int32))), .val (.int ((((0 : Int32) + (1 : Int32)) + (1 : Int32)) + (1 : Int32))), .val (.int (4 : Int32)), .unset, .unset, .unset] [(.int (4 : Int32)), (.int ((p1 &&& (3 : Int32)) + (1 : Int32)))])) _
    refine XS.icmpNo X6.here hx rfl (hb hby at_52) rfl (flt hc52).1 ?_
    show Steps p.tables e below (T6.setTop (mkF m 55 #[.val (.int p1), .val (.int ((p1 &&& (3 : Int32)) + (1 : Int32))), .val (.ref b2), .val (.int ((0 : Int32) + (1 : Int32))), .val (.int (((0 : Int32) + (1 : Int32)) + (1 : Int32))), .val (.int ((((0 : Int32) + (1 : Int32)) + (1 : Int32)) + (1 : Int32))), .val (.int (4 : Int32)), .unset, .unset, .unset] [])) _
    refine XS.aloadN X6.here hx rfl (hb hby at_55) rfl rfl ?_
    show Steps p.tables e below (T6.setTop (mkF m 56 #[.val (.int p1), .val (.int ((p1 &&& (3 : Int32)) + (1 : Int32))), .val (.ref b2), .val (.int ((0 : Int32) + (1 : Int32))), .val (.int (((0 : Int32) + (1 : Int32)) + (1 : Int32))), .val (.int ((((0 : Int32) + (1 : Int32)) + (1 : Int32)) + (1 : Int32))), .val (.int (4 : Int32)), .unset, .unset, .unset] [(.ref b2)])) _
    refine st7.trans ?_
    show Steps p.tables e below (T7.setTop (mkF m 59 #[.val (.int p1), .val (.int ((p1 &&& (3 : Int32)) + (1 : Int32))), .val (.ref b2), .val (.int ((0 : Int32) + (1 : Int32))), .val (.int (((0 : Int32) + (1 : Int32)) + (1 : Int32))), .val (.int ((((0 : Int32) + (1 : Int32)) + (1 : Int32)) + (1 : Int32))), .val (.int (4 : Int32)), .unset, .unset, .unset] [(.int (((((0 : Int32) + (1 : Int32)) + (1 : Int32)) + (1 : Int32)) + (1 : Int32)))])) _
    refine XS.istore X7.here hx rfl (hb hby at_59) rfl (l' := #[.val (.int p1), .val (.int ((p1 &&& (3 : Int32)) + (1 : Int32))), .val (.ref b2), .val (.int ((0 : Int32) + (1 : Int32))), .val (.int (((0 : Int32) + (1 : Int32)) + (1 : Int32))), .val (.int ((((0 : Int32) + (1 : Int32)) + (1 : Int32)) + (1 : Int32))), .val (.int (((((0 : Int32) + (1 : Int32)) + (1 : Int32)) + (1 : Int32)) + (1 : Int32))), .unset, .unset, .unset]) rfl ?_
    show Steps p.tables e below (T7.setTop (mkF m 61 #[.val (.int p1), .val (.int ((p1 &&& (3 : Int32)) + (1 : Int32))), .val (.ref b2), .val (.int ((0 : Int32) + (1 : Int32))), .val (.int (((0 : Int32) + (1 : Int32)) + (1 : Int32))), .val (.int ((((0 : Int32) + (1 : Int32)) + (1 : Int32)) + (1 : Int32))), .val (.int (((((0 : Int32) + (1 : Int32)) + (1 : Int32)) + (1 : Int32)) + (1 : Int32))), .unset, .unset, .unset] [])) _
    refine st8 _ ?_
    show Steps p.tables e below (T8.setTop (mkF m 64 #[.val (.int p1), .val (.int ((p1 &&& (3 : Int32)) + (1 : Int32))), .val (.ref b2), .val (.int ((0 : Int32) + (1 : Int32))), .val (.int (((0 : Int32) + (1 : Int32)) + (1 : Int32))), .val (.int ((((0 : Int32) + (1 : Int32)) + (1 : Int32)) + (1 : Int32))), .val (.int (((((0 : Int32) + (1 : Int32)) + (1 : Int32)) + (1 : Int32)) + (1 : Int32))), .unset, .unset, .unset] [(.ref b8)])) _
    refine XS.dup X8.here hx rfl (hb hby at_64) rfl rfl ?_
    show Steps p.tables e below (T8.setTop (mkF m 65 #[.val (.int p1), .val (.int ((p1 &&& (3 : Int32)) + (1 : Int32))), .val (.ref b2), .val (.int ((0 : Int32) + (1 : Int32))), .val (.int (((0 : Int32) + (1 : Int32)) + (1 : Int32))), .val (.int ((((0 : Int32) + (1 : Int32)) + (1 : Int32)) + (1 : Int32))), .val (.int (((((0 : Int32) + (1 : Int32)) + (1 : Int32)) + (1 : Int32)) + (1 : Int32))), .unset, .unset, .unset] [(.ref b8), (.ref b8)])) _
    refine st9.trans ?_
    show Steps p.tables e below (T9.setTop (mkF m 68 #[.val (.int p1), .val (.int ((p1 &&& (3 : Int32)) + (1 : Int32))), .val (.ref b2), .val (.int ((0 : Int32) + (1 : Int32))), .val (.int (((0 : Int32) + (1 : Int32)) + (1 : Int32))), .val (.int ((((0 : Int32) + (1 : Int32)) + (1 : Int32)) + (1 : Int32))), .val (.int (((((0 : Int32) + (1 : Int32)) + (1 : Int32)) + (1 : Int32)) + (1 : Int32))), .unset, .unset, .unset] [(.ref b8)])) _
    refine XS.astore X9.here hx rfl (hb hby at_68) rfl rfl (l' := #[.val (.int p1), .val (.int ((p1 &&& (3 : Int32)) + (1 : Int32))), .val (.ref b2), .val (.int ((0 : Int32) + (1 : Int32))), .val (.int (((0 : Int32) + (1 : Int32)) + (1 : Int32))), .val (.int ((((0 : Int32) + (1 : Int32)) + (1 : Int32)) + (1 : Int32))), .val (.int (((((0 : Int32) + (1 : Int32)) + (1 : Int32)) + (1 : Int32)) + (1 : Int32))), .val (.ref b8), .unset, .unset]) rfl ?_
    show Steps p.tables e below (T9.setTop (mkF m 70 #[.val (.int p1), .val (.int ((p1 &&& (3 : Int32)) + (1 : Int32))), .val (.ref b2), .val (.int ((0 : Int32) + (1 : Int32))), .val (.int (((0 : Int32) + (1 : Int32)) + (1 : Int32))), .val (.int ((((0 : Int32) + (1 : Int32)) + (1 : Int32)) + (1 : Int32))), .val (.int (((((0 : Int32) + (1 : Int32)) + (1 : Int32)) + (1 : Int32)) + (1 : Int32))), .val (.ref b8), .unset, .unset] [])) _
    refine XS.aload X9.here hx rfl (hb hby at_70) rfl rfl ?_
    show Steps p.tables e below (T9.setTop (mkF m 72 #[.val (.int p1), .val (.int ((p1 &&& (3 : Int32)) + (1 : Int32))), .val (.ref b2), .val (.int ((0 : Int32) + (1 : Int32))), .val (.int (((0 : Int32) + (1 : Int32)) + (1 : Int32))), .val (.int ((((0 : Int32) + (1 : Int32)) + (1 : Int32)) + (1 : Int32))), .val (.int (((((0 : Int32) + (1 : Int32)) + (1 : Int32)) + (1 : Int32)) + (1 : Int32))), .val (.ref b8), .unset, .unset] [(.ref b8)])) _
    refine st10.trans ?_
    show Steps p.tables e below (T10.setTop (mkF m 75 #[.val (.int p1), .val (.int ((p1 &&& (3 : Int32)) + (1 : Int32))), .val (.ref b2), .val (.int ((0 : Int32) + (1 : Int32))), .val (.int (((0 : Int32) + (1 : Int32)) + (1 : Int32))), .val (.int ((((0 : Int32) + (1 : Int32)) + (1 : Int32)) + (1 : Int32))), .val (.int (((((0 : Int32) + (1 : Int32)) + (1 : Int32)) + (1 : Int32)) + (1 : Int32))), .val (.ref b8), .unset, .unset] [(.int ((0 : Int32) + (1 : Int32)))])) _
    refine XS.istore X10.here hx rfl (hb hby at_75) rfl (l' := #[.val (.int p1), .val (.int ((p1 &&& (3 : Int32)) + (1 : Int32))), .val (.ref b2), .val (.int ((0 : Int32) + (1 : Int32))), .val (.int (((0 : Int32) + (1 : Int32)) + (1 : Int32))), .val (.int ((((0 : Int32) + (1 : Int32)) + (1 : Int32)) + (1 : Int32))), .val (.int (((((0 : Int32) + (1 : Int32)) + (1 : Int32)) + (1 : Int32)) + (1 : Int32))), .val (.ref b8), .val (.int ((0 : Int32) + (1 : Int32))), .unset]) rfl ?_
    show Steps p.tables e below (T10.setTop (mkF m 77 #[.val (.int p1), .val (.int ((p1 &&& (3 : Int32)) + (1 : Int32))), .val (.ref b2), .val (.int ((0 : Int32) + (1 : Int32))), .val (.int (((0 : Int32) + (1 : Int32)) + (1 : Int32))), .val (.int ((((0 : Int32) + (1 : Int32)) + (1 : Int32)) + (1 : Int32))), .val (.int (((((0 : Int32) + (1 : Int32)) + (1 : Int32)) + (1 : Int32)) + (1 : Int32))), .val (.ref b8), .val (.int ((0 : Int32) + (1 : Int32))), .unset] [])) _
    refine XS.aloadN X10.here hx rfl (hb hby at_77) rfl rfl ?_
    show Steps p.tables e below (T10.setTop (mkF m 78 #[.val (.int p1), .val (.int ((p1 &&& (3 : Int32)) + (1 : Int32))), .val (.ref b2), .val (.int ((0 : Int32) + (1 : Int32))), .val (.int (((0 : Int32) + (1 : Int32)) + (1 : Int32))), .val (.int ((((0 : Int32) + (1 : Int32)) + (1 : Int32)) + (1 : Int32))), .val (.int (((((0 : Int32) + (1 : Int32)) + (1 : Int32)) + (1 : Int32)) + (1 : Int32))), .val (.ref b8), .val (.int ((0 : Int32) + (1 : Int32))), .unset] [(.ref b2)])) _
    refine st11.trans ?_
    show Steps p.tables e below (T11.setTop (mkF m 81 #[.val (.int p1), .val (.int ((p1 &&& (3 : Int32)) + (1 : Int32))), .val (.ref b2), .val (.int ((0 : Int32) + (1 : Int32))), .val (.int (((0 : Int32) + (1 : Int32)) + (1 : Int32))), .val (.int ((((0 : Int32) + (1 : Int32)) + (1 : Int32)) + (1 : Int32))), .val (.int (((((0 : Int32) + (1 : Int32)) + (1 : Int32)) + (1 : Int32)) + (1 : Int32))), .val (.ref b8), .val (.int ((0 : Int32) + (1 : Int32))), .unset] [(.int ((0 : Int32) + (0 : Int32)))])) _
    refine XS.istore X11.here hx rfl (hb hby at_81) rfl (l' := #[.val (.int p1), .val (.int ((p1 &&& (3 : Int32)) + (1 : Int32))), .val (.ref b2), .val (.int ((0 : Int32) + (1 : Int32))), .val (.int (((0 : Int32) + (1 : Int32)) + (1 : Int32))), .val (.int ((((0 : Int32) + (1 : Int32)) + (1 : Int32)) + (1 : Int32))), .val (.int (((((0 : Int32) + (1 : Int32)) + (1 : Int32)) + (1 : Int32)) + (1 : Int32))), .val (.ref b8), .val (.int ((0 : Int32) + (1 : Int32))), .val (.int ((0 : Int32) + (0 : Int32)))]) rfl ?_
    show Steps p.tables e below (T11.setTop (mkF m 83 #[.val (.int p1), .val (.int ((p1 &&& (3 : Int32)) + (1 : Int32))), .val (.ref b2), .val (.int ((0 : Int32) + (1 : Int32))), .val (.int (((0 : Int32) + (1 : Int32)) + (1 : Int32))), .val (.int ((((0 : Int32) + (1 : Int32)) + (1 : Int32)) + (1 : Int32))), .val (.int (((((0 : Int32) + (1 : Int32)) + (1 : Int32)) + (1 : Int32)) + (1 : Int32))), .val (.ref b8), .val (.int ((0 : Int32) + (1 : Int32))), .val (.int ((0 : Int32) + (0 : Int32)))] [])) _
    refine XS.iloadN X11.here hx rfl (hb hby at_83) rfl ?_
    show Steps p.tables e below (T11.setTop (mkF m 84 #[.val (.int p1), .val (.int ((p1 &&& (3 : Int32)) + (1 : Int32))), .val (.ref b2), .val (.int ((0 : Int32) + (1 : Int32))), .val (.int (((0 : Int32) + (1 : Int32)) + (1 : Int32))), .val (.int ((((0 : Int32) + (1 : Int32)) + (1 : Int32)) + (1 : Int32))), .val (.int (((((0 : Int32) + (1 : Int32)) + (1 : Int32)) + (1 : Int32)) + (1 : Int32))), .val (.ref b8), .val (.int ((0 : Int32) + (1 : Int32))), .val (.int ((0 : Int32) + (0 : Int32)))] [(.int ((0 : Int32) + (1 : Int32)))])) _
    refine XS.iconst X11.here hx rfl (hb hby at_84) ?_
    show Steps p.tables e below (T11.setTop (mkF m 85 #[.val (.int p1), .val (.int ((p1 &&& (3 : Int32)) + (1 : Int32))), .val (.ref b2), .val (.int ((0 : Int32) + (1 : Int32))), .val (.int (((0 : Int32) + (1 : Int32)) + (1 : Int32))), .val (.int ((((0 : Int32) + (1 : Int32)) + (1 : Int32)) + (1 : Int32))), .val (.int (((((0 : Int32) + (1 : Int32)) + (1 : Int32)) + (1 : Int32)) + (1 : Int32))), .val (.ref b8), .val (.int ((0 : Int32) + (1 : Int32))), .val (.int ((0 : Int32) + (0 : Int32)))] [(.int (1 : Int32)), (.int ((0 : Int32) + (1 : Int32)))])) _
    refine XS.icmpNo X11.here hx rfl (hb hby at_85) rfl (teq (by decide : ((0 : Int32) + (1 : Int32)) = (1 : Int32))).2 ?_
    show Steps p.tables e below (T11.setTop (mkF m 88 #[.val (.int p1), .val (.int ((p1 &&& (3 : Int32)) + (1 : Int32))), .val (.ref b2), .val (.int ((0 : Int32) + (1 : Int32))), .val (.int (((0 : Int32) + (1 : Int32)) + (1 : Int32))), .val (.int ((((0 : Int32) + (1 : Int32)) + (1 : Int32)) + (1 : Int32))), .val (.int (((((0 : Int32) + (1 : Int32)) + (1 : Int32)) + (1 : Int32)) + (1 : Int32))), .val (.ref b8), .val (.int ((0 : Int32) + (1 : Int32))), .val (.int ((0 : Int32) + (0 : Int32)))] [])) _
    refine XS.iload X11.here hx rfl (hb hby at_88) rfl ?_
    show Steps p.tables e below (T11.setTop (mkF m 90 #[.val (.int p1), .val (.int ((p1 &&& (3 : Int32)) + (1 : Int32))), .val (.ref b2), .val (.int ((0 : Int32) + (1 : Int32))), .val (.int (((0 : Int32) + (1 : Int32)) + (1 : Int32))), .val (.int ((((0 : Int32) + (1 : Int32)) + (1 : Int32)) + (1 : Int32))), .val (.int (((((0 : Int32) + (1 : Int32)) + (1 : Int32)) + (1 : Int32)) + (1 : Int32))), .val (.ref b8), .val (.int ((0 : Int32) + (1 : Int32))), .val (.int ((0 : Int32) + (0 : Int32)))] [(.int (((0 : Int32) + (1 : Int32)) + (1 : Int32)))])) _
    refine XS.iconst X11.here hx rfl (hb hby at_90) ?_
    show Steps p.tables e below (T11.setTop (mkF m 91 #[.val (.int p1), .val (.int ((p1 &&& (3 : Int32)) + (1 : Int32))), .val (.ref b2), .val (.int ((0 : Int32) + (1 : Int32))), .val (.int (((0 : Int32) + (1 : Int32)) + (1 : Int32))), .val (.int ((((0 : Int32) + (1 : Int32)) + (1 : Int32)) + (1 : Int32))), .val (.int (((((0 : Int32) + (1 : Int32)) + (1 : Int32)) + (1 : Int32)) + (1 : Int32))), .val (.ref b8), .val (.int ((0 : Int32) + (1 : Int32))), .val (.int ((0 : Int32) + (0 : Int32)))] [(.int (2 : Int32)), (.int (((0 : Int32) + (1 : Int32)) + (1 : Int32)))])) _
    refine XS.icmpNo X11.here hx rfl (hb hby at_91) rfl (teq (by decide : (((0 : Int32) + (1 : Int32)) + (1 : Int32)) = (2 : Int32))).2 ?_
    show Steps p.tables e below (T11.setTop (mkF m 94 #[.val (.int p1), .val (.int ((p1 &&& (3 : Int32)) + (1 : Int32))), .val (.ref b2), .val (.int ((0 : Int32) + (1 : Int32))), .val (.int (((0 : Int32) + (1 : Int32)) + (1 : Int32))), .val (.int ((((0 : Int32) + (1 : Int32)) + (1 : Int32)) + (1 : Int32))), .val (.int (((((0 : Int32) + (1 : Int32)) + (1 : Int32)) + (1 : Int32)) + (1 : Int32))), .val (.ref b8), .val (.int ((0 : Int32) + (1 : Int32))), .val (.int ((0 : Int32) + (0 : Int32)))] [])) _
    refine XS.iload X11.here hx rfl (hb hby at_94) rfl ?_
    show Steps p.tables e below (T11.setTop (mkF m 96 #[.val (.int p1), .val (.int ((p1 &&& (3 : Int32)) + (1 : Int32))), .val (.ref b2), .val (.int ((0 : Int32) + (1 : Int32))), .val (.int (((0 : Int32) + (1 : Int32)) + (1 : Int32))), .val (.int ((((0 : Int32) + (1 : Int32)) + (1 : Int32)) + (1 : Int32))), .val (.int (((((0 : Int32) + (1 : Int32)) + (1 : Int32)) + (1 : Int32)) + (1 : Int32))), .val (.ref b8), .val (.int ((0 : Int32) + (1 : Int32))), .val (.int ((0 : Int32) + (0 : Int32)))] [(.int ((((0 : Int32) + (1 : Int32)) + (1 : Int32)) + (1 : Int32)))])) _
    refine XS.iconst X11.here hx rfl (hb hby at_96) ?_
    show Steps p.tables e below (T11.setTop (mkF m 97 #[.val (.int p1), .val (.int ((p1 &&& (3 : Int32)) + (1 : Int32))), .val (.ref b2), .val (.int ((0 : Int32) + (1 : Int32))), .val (.int (((0 : Int32) + (1 : Int32)) + (1 : Int32))), .val (.int ((((0 : Int32) + (1 : Int32)) + (1 : Int32)) + (1 : Int32))), .val (.int (((((0 : Int32) + (1 : Int32)) + (1 : Int32)) + (1 : Int32)) + (1 : Int32))), .val (.ref b8), .val (.int ((0 : Int32) + (1 : Int32))), .val (.int ((0 : Int32) + (0 : Int32)))] [(.int (3 : Int32)), (.int ((((0 : Int32) + (1 : Int32)) + (1 : Int32)) + (1 : Int32)))])) _
    refine XS.icmpNo X11.here hx rfl (hb hby at_97) rfl (teq (by decide : ((((0 : Int32) + (1 : Int32)) + (1 : Int32)) + (1 : Int32)) = (3 : Int32))).2 ?_
    show Steps p.tables e below (T11.setTop (mkF m 100 #[.val (.int p1), .val (.int ((p1 &&& (3 : Int32)) + (1 : Int32))), .val (.ref b2), .val (.int ((0 : Int32) + (1 : Int32))), .val (.int (((0 : Int32) + (1 : Int32)) + (1 : Int32))), .val (.int ((((0 : Int32) + (1 : Int32)) + (1 : Int32)) + (1 : Int32))), .val (.int (((((0 : Int32) + (1 : Int32)) + (1 : Int32)) + (1 : Int32)) + (1 : Int32))), .val (.ref b8), .val (.int ((0 : Int32) + (1 : Int32))), .val (.int ((0 : Int32) + (0 : Int32)))] [])) _
    refine XS.iload X11.here hx rfl (hb hby at_100) rfl ?_
    show Steps p.tables e below (T11.setTop (mkF m 102 #[.val (.int p1), .val (.int ((p1 &&& (3 : Int32)) + (1 : Int32))), .val (.ref b2), .val (.int ((0 : Int32) + (1 : Int32))), .val (.int (((0 : Int32) + (1 : Int32)) + (1 : Int32))), .val (.int ((((0 : Int32) + (1 : Int32)) + (1 : Int32)) + (1 : Int32))), .val (.int (((((0 : Int32) + (1 : Int32)) + (1 : Int32)) + (1 : Int32)) + (1 : Int32))), .val (.ref b8), .val (.int ((0 : Int32) + (1 : Int32))), .val (.int ((0 : Int32) + (0 : Int32)))] [(.int (((((0 : Int32) + (1 : Int32)) + (1 : Int32)) + (1 : Int32)) + (1 : Int32)))])) _
    refine XS.iconst X11.here hx rfl (hb hby at_102) ?_
    show Steps p.tables e below (T11.setTop (mkF m 103 #[.val (.int p1), .val (.int ((p1 &&& (3 : Int32)) + (1 : Int32))), .val (.ref b2), .val (.int ((0 : Int32) + (1 : Int32))), .val (.int (((0 : Int32) + (1 : Int32)) + (1 : Int32))), .val (.int ((((0 : Int32) + (1 : Int32)) + (1 : Int32)) + (1 : Int32))), .val (.int (((((0 : Int32) + (1 : Int32)) + (1 : Int32)) + (1 : Int32)) + (1 : Int32))), .val (.ref b8), .val (.int ((0 : Int32) + (1 : Int32))), .val (.int ((0 : Int32) + (0 : Int32)))] [(.int (4 : Int32)), (.int (((((0 : Int32) + (1 : Int32)) + (1 : Int32)) + (1 : Int32)) + (1 : Int32)))])) _
    refine XS.icmpNo X11.here hx rfl (hb hby at_103) rfl (teq (by decide : (((((0 : Int32) + (1 : Int32)) + (1 : Int32)) + (1 : Int32)) + (1 : Int32)) = (4 : Int32))).2 ?_
    show Steps p.tables e below (T11.setTop (mkF m 106 #[.val (.int p1), .val (.int ((p1 &&& (3 : Int32)) + (1 : Int32))), .val (.ref b2), .val (.int ((0 : Int32) + (1 : Int32))), .val (.int (((0 : Int32) + (1 : Int32)) + (1 : Int32))), .val (.int ((((0 : Int32) + (1 : Int32)) + (1 : Int32)) + (1 : Int32))), .val (.int (((((0 : Int32) + (1 : Int32)) + (1 : Int32)) + (1 : Int32)) + (1 : Int32))), .val (.ref b8), .val (.int ((0 : Int32) + (1 : Int32))), .val (.int ((0 : Int32) + (0 : Int32)))] [])) _
    refine XS.iload X11.here hx rfl (hb hby at_106) rfl ?_
    show Steps p.tables e below (T11.setTop (mkF m 108 #[.val (.int p1), .val (.int ((p1 &&& (3 : Int32)) + (1 : Int32))), .val (.ref b2), .val (.int ((0 : Int32) + (1 : Int32))), .val (.int (((0 : Int32) + (1 : Int32)) + (1 : Int32))), .val (.int ((((0 : Int32) + (1 : Int32)) + (1 : Int32)) + (1 : Int32))), .val (.int (((((0 : Int32) + (1 : Int32)) + (1 : Int32)) + (1 : Int32)) + (1 : Int32))), .val (.ref b8), .val (.int ((0 : Int32) + (1 : Int32))), .val (.int ((0 : Int32) + (0 : Int32)))] [(.int ((0 : Int32) + (1 : Int32)))])) _
    refine XS.iconst X11.here hx rfl (hb hby at_108) ?_
    show Steps p.tables e below (T11.setTop (mkF m 109 #[.val (.int p1), .val (.int ((p1 &&& (3 : Int32)) + (1 : Int32))), .val (.ref b2), .val (.int ((0 : Int32) + (1 : Int32))), .val (.int (((0 : Int32) + (1 : Int32)) + (1 : Int32))), .val (.int ((((0 : Int32) + (1 : Int32)) + (1 : Int32)) + (1 : Int32))), .val (.int (((((0 : Int32) + (1 : Int32)) + (1 : Int32)) + (1 : Int32)) + (1 : Int32))), .val (.ref b8), .val (.int ((0 : Int32) + (1 : Int32))), .val (.int ((0 : Int32) + (0 : Int32)))] [(.int (1 : Int32)), (.int ((0 : Int32) + (1 : Int32)))])) _
    refine XS.icmpNo X11.here hx rfl (hb hby at_109) rfl (teq (by decide : ((0 : Int32) + (1 : Int32)) = (1 : Int32))).2 ?_
    show Steps p.tables e below (T11.setTop (mkF m 112 #[.val (.int p1), .val (.int ((p1 &&& (3 : Int32)) + (1 : Int32))), .val (.ref b2), .val (.int ((0 : Int32) + (1 : Int32))), .val (.int (((0 : Int32) + (1 : Int32)) + (1 : Int32))), .val (.int ((((0 : Int32) + (1 : Int32)) + (1 : Int32)) + (1 : Int32))), .val (.int (((((0 : Int32) + (1 : Int32)) + (1 : Int32)) + (1 : Int32)) + (1 : Int32))), .val (.ref b8), .val (.int ((0 : Int32) + (1 : Int32))), .val (.int ((0 : Int32) + (0 : Int32)))] [])) _
    refine XS.iload X11.here hx rfl (hb hby at_112) rfl ?_
    show Steps p.tables e below (T11.setTop (mkF m 114 #[.val (.int p1), .val (.int ((p1 &&& (3 : Int32)) + (1 : Int32))), .val (.ref b2), .val (.int ((0 : Int32) + (1 : Int32))), .val (.int (((0 : Int32) + (1 : Int32)) + (1 : Int32))), .val (.int ((((0 : Int32) + (1 : Int32)) + (1 : Int32)) + (1 : Int32))), .val (.int (((((0 : Int32) + (1 : Int32)) + (1 : Int32)) + (1 : Int32)) + (1 : Int32))), .val (.ref b8), .val (.int ((0 : Int32) + (1 : Int32))), .val (.int ((0 : Int32) + (0 : Int32)))] [(.int ((0 : Int32) + (0 : Int32)))])) _
    refine XS.ifNo X11.here hx rfl (hb hby at_114) rfl ((if0 _ _).trans (teq (by decide : ((0 : Int32) + (0 : Int32)) = (0 : Int32))).2) ?_
    show Steps p.tables e below (T11.setTop (mkF m 117 #[.val (.int p1), .val (.int ((p1 &&& (3 : Int32)) + (1 : Int32))), .val (.ref b2), .val (.int ((0 : Int32) + (1 : Int32))), .val (.int (((0 : Int32) + (1 : Int32)) + (1 : Int32))), .val (.int ((((0 : Int32) + (1 : Int32)) + (1 : Int32)) + (1 : Int32))), .val (.int (((((0 : Int32) + (1 : Int32)) + (1 : Int32)) + (1 : Int32)) + (1 : Int32))), .val (.ref b8), .val (.int ((0 : Int32) + (1 : Int32))), .val (.int ((0 : Int32) + (0 : Int32)))] [])) _
    refine XS.iconst X11.here hx rfl (hb hby at_117) ?_
    show Steps p.tables e below (T11.setTop (mkF m 118 #[.val (.int p1), .val (.int ((p1 &&& (3 : Int32)) + (1 : Int32))), .val (.ref b2), .val (.int ((0 : Int32) + (1 : Int32))), .val (.int (((0 : Int32) + (1 : Int32)) + (1 : Int32))), .val (.int ((((0 : Int32) + (1 : Int32)) + (1 : Int32)) + (1 : Int32))), .val (.int (((((0 : Int32) + (1 : Int32)) + (1 : Int32)) + (1 : Int32)) + (1 : Int32))), .val (.ref b8), .val (.int ((0 : Int32) + (1 : Int32))), .val (.int ((0 : Int32) + (0 : Int32)))] [(.int (1 : Int32))])) _
    refine XS.goto X11.here hx rfl (pc0 := 118) (pc' := 122) rfl (hb hby at_118) (by decide) (by decide) ?_
    show Steps p.tables e below (T11.setTop (mkF m 122 #[.val (.int p1), .val (.int ((p1 &&& (3 : Int32)) + (1 : Int32))), .val (.ref b2), .val (.int ((0 : Int32) + (1 : Int32))), .val (.int (((0 : Int32) + (1 : Int32)) + (1 : Int32))), .val (.int ((((0 : Int32) + (1 : Int32)) + (1 : Int32)) + (1 : Int32))), .val (.int (((((0 : Int32) + (1 : Int32)) + (1 : Int32)) + (1 : Int32)) + (1 : Int32))), .val (.ref b8), .val (.int ((0 : Int32) + (1 : Int32))), .val (.int ((0 : Int32) + (0 : Int32)))] [(.int (1 : Int32))])) _
    exact retN X11 hx (t := .boolean) Bd.returns (by simp) (hb hby at_122) hr
  · show Q0 Z p1 h0 n0 _ T11.heap _
    exact ⟨rfl, N11⟩
theorem rm0 (l : Launch) (Z : State) (a0 : Array Value) (hw : ∀ d ∈ tables_1, d.before a0 Z = true) (ws : List Jvm.Cond) (p1 : Int32) (w3 : Addr) (h0 : Heap) (n0 : Nat) (Z0 : n0 ≤ h0.size) (ST0 : Sta Z h0 "java/util/ArrayList" "DEFAULTCAPACITY_EMPTY_ELEMENTDATA" "[Ljava/lang/Object;" (.ref w3)) :
    MetFree l x (head1 (Jvm.Cond.code x code maxLocals ret :: ws) room_1) (fun a U => a = #[(.int p1)] ∧ Z.Warmed39 U.vm ∧ U.heap = h0) (fun _ _ _ _ _ => True) (fun _ U o U' => ∃ v L, o = .returned v ∧ Q0 Z p1 h0 n0 v U'.heap L ∧ FrameEnd U o U' L room_1.cells room_1.slots) := by
  by_cases hc24 : ((p1 &&& (3 : Int32)) + (1 : Int32)) < (2 : Int32)
  · exact rm0_1 l Z a0 hw ws p1 w3 h0 n0 Z0 ST0 hc24 (own_up _ _ _ hc24 (by decide)) (own_up _ _ _ hc24 (by decide))
  · by_cases hc38 : ((p1 &&& (3 : Int32)) + (1 : Int32)) < (3 : Int32)
    · exact rm0_2 l Z a0 hw ws p1 w3 h0 n0 Z0 ST0 hc24 hc38 (own_up _ _ _ hc38 (by decide))
    · by_cases hc52 : ((p1 &&& (3 : Int32)) + (1 : Int32)) < (4 : Int32)
      · exact rm0_3 l Z a0 hw ws p1 w3 h0 n0 Z0 ST0 hc24 hc38 hc52
      · exact rm0_4 l Z a0 hw ws p1 w3 h0 n0 Z0 ST0 hc24 hc38 hc52
set_option maxRecDepth 65536 in
set_option maxHeartbeats 40000000 in
theorem comes_1 {Post : Tables → Env → Array Value → State → Outcome → State → Prop} (hpost : ∀ tb e args s v u, (limb_1_1.after args s (.returned v) u = true ∧ limb_1_2.after args s (.returned v) u = true ∧ True) → FrameEnd s (.returned v) u (Jvm.fieldLocs frame_1_writes args s ++ Jvm.arrayLocs frame_1_arrays args s ++ Jvm.staticLocs frame_1_statics s) 120 704 → Post tb e args s (.returned v) u) :
    ArmFor flags0 classFile x code maxLocals ret World_1 tables_1 room_1 Calls_1 rest_1 Pre_1 Post := by
  intro l hfl _ _ p e ha hc hk s m args below hf hA hF happ hP
  obtain ⟨hcalls, hrest, hpre⟩ := hP
  obtain ⟨-, -, -, hnamed, -, -, -, hat⟩ := (Spec.applies_iff hf).mp happ
  obtain ⟨hg, hn⟩ := and_e (Cond.before_iff.mp (show (Jvm.Cond.and given_1 narrow_1).before args s = true from hpre))
  obtain ⟨g9, g10⟩ := and_e hg
  obtain ⟨w0, rfl⟩ : ∃ w0 : Value, args = #[w0] := by
    have hs : args.size = 1 := by simpa [Cond.value, given_1] using g9
    obtain ⟨L⟩ := args
    match L, hs with
    | [w0], _ => exact ⟨w0, rfl⟩
  have hw := fun d (hd : d ∈ tables_1) => atoms_spec (ws := Jvm.Cond.code x code maxLocals ret :: tables_1) hat d (List.mem_cons_of_mem _ hd)
  have hfit : Fit s := fun {y c} hc i hi => by
    obtain ⟨ha, rfl⟩ := Array.getElem?_eq_some_iff.mp hc
    have q := List.all_eq_true.mp ((Array.all_eq_true_iff_forall_mem.mp hF) _ (Array.getElem_mem ha)) i (List.mem_range.mpr hi)
    simpa [Array.getElem?_eq_getElem hi] using q
  -- the named sets: hsets indexes jdkStatics_1 (Statement.lean): (hsets _ (List.mem_of_getElem? (i := n) rfl)) is its n-th word, before the call
  obtain ⟨hsets, hown0⟩ := atoms_of _ (rest_1_c_eq ▸ (show rest_1_c.before _ s = true from hrest))
  have hr0 := Cond.before_iff.mp hown0
  obtain ⟨i0, ei0⟩ := is_v g10
  obtain rfl : w0 = (.int i0) := Option.some.inj ei0
  obtain ⟨w3, ew3⟩ := arr_v (Cond.before_iff.mp (hsets _ (List.mem_of_getElem? (i := 6) rfl)))
  have ST0 : Sta s s.heap "java/util/ArrayList" "DEFAULTCAPACITY_EMPTY_ELEMENTDATA" "[Ljava/lang/Object;" (.ref w3) := Sta.start ew3 (Or.inr ⟨(hw _ (List.mem_of_getElem? (i := 11) rfl)), (hsets _ (List.mem_of_getElem? (i := 2) rfl))⟩)
  obtain ⟨n, o, h1, h2, h3, _, L, rfl, ⟨rfl, N⟩, hq⟩ := rm0 l s _ hw tables_1 i0 w3 s.heap s.heap.size (Nat.le_refl _) ST0 p e ha hc hk s m _ below hf ((Spec.applies_iff_loose hf).mp happ).1 ⟨rfl, State.Warmed39.refl s, rfl⟩ trivial
  refine ⟨n, _, h1, h2, h3, hpost _ _ _ _ _ _ ⟨Cond.after_iff.mpr rfl, Cond.after_iff.mpr (eq_i res_at (Term.int_eval (1)) rfl), trivial⟩ ⟨hq.1, hq.2.1, (hq.2.2.sift fun y hy => Or.inr (N y hy)).mono (by decide) (by decide)⟩⟩
theorem main_1_1 : Claimed_1_1 := comes_1 fun _ _ _ _ _ _ h hF => ⟨h.1, hF⟩
theorem main_1_2 : Claimed_1_2 := comes_1 fun _ _ _ _ _ _ h hF => ⟨h.2.1, hF⟩
end Jvm.Pilot.@@N@@
namespace Jvm.Pilot.@@N@@
open Jvm Jvm.ClassFile Sem Op Lib Jvm.Free Jvm.Stand Jvm.Pilot.@@N@@.Jvm.D
/-! MADE BY PROGRAM (witnessworld.py) out of the Statement's table words and the real class files: 26 classes; the members and pool entries that the words name. The judged class is class 1, her method 1. -/
namespace start1
open Jvm.ClassFile
def u (s : String) : CpInfo := .utf8 (stringToUtf16 s)
/-- a pool by its gaps: so many unusable entries, then the entry; so many at the end -/
def gap : Nat → List CpInfo → List CpInfo
  | 0, r => r
  | n + 1, r => .unusable :: gap n r
def poolList (es : List (Nat × CpInfo)) (last : Nat) : List CpInfo := es.foldr (fun e r => gap e.1 (e.2 :: r)) (gap last [])
def pool (es : List (Nat × CpInfo)) (last : Nat) : Array CpInfo := ⟨poolList es last⟩
def fileOf (pool : Array CpInfo) (this : Nat) (attrs : Array Attribute := #[]) (ms : Array MethodInfo := #[]) (fl : Nat := 33) (sup : Nat := 0) (ifs : Array Nat := #[]) (fds : Array FieldInfo := #[]) : ClassFile where
  minorVersion := 0
  majorVersion := 65
  constantPool := pool
  accessFlags := fl
  thisClass := this
  superClass := sup
  interfaces := ifs
  fields := fds
  methods := ms
  attributes := attrs
def plain (name : String) (sup : Option ClassId) : Class where
  name := name
  kind := .ordinary
  loader := none
  accessFlags := 33
  super := sup
  interfaces := #[]
  cf := none
  fields := #[]
  methods := #[]
  instanceTypes := #[]
  staticTypes := #[]
  resolved := #[]
  callSites := []
  init := .initialized
  statics := none
  mirror := none

def pool0 : Array CpInfo := pool [(5, u "<init>"), (0, u "()V"), (1, .class_ 10), (1, u "java/lang/Object")] 113

def k0c0 : Code := { maxStack := 0, maxLocals := 1, code := object_method_1_code, exceptionTable := #[], attributes := #[] }
def k0m0 : Method := { name := "<init>", desc := "()V", sig := { parameters := [], returnType := none }, accessFlags := 1, code := some k0c0 }
/-- java/lang/Object -/
def k0 : Class := { plain "java/lang/Object" none with
  accessFlags := 33
  interfaces := #[]
  cf := some (fileOf pool0 8 #[] #[{ accessFlags := 1, nameIndex := 5, descriptorIndex := 6, attributes := #[] }] 33 0 #[] #[])
  fields := #[]
  methods := #[k0m0]
  instanceTypes := #[]
  staticTypes := #[]
  resolved := Array.replicate 124 none
  statics := none }

def pool1 : Array CpInfo := pool [(2, .class_ 4), (0, .nameAndType 5 6), (0, u "java/lang/Object"), (0, u "<init>"), (0, u "()V"), (0, .class_ 8), (0, u "com/example/steplint/steplint/prove/SmtScript"), (0, .methodref 7 3), (0, .methodref 7 11), (0, .nameAndType 12 13), (0, u "fresh"), (0, u "()I"), (0, .methodref 7 15), (0, .nameAndType 16 13), (0, u "said"), (0, .class_ 18), (0, u "com/example/steplint/steplint/prove/SmtScriptFreshPinLaw"), (2, u "law"), (0, u "(I)Z")] 3

def k1m0 : Method := { name := "<init>", desc := "()V", sig := { parameters := [], returnType := none }, accessFlags := 2, code := none }
def k1c1 : Code := { maxStack := 2, maxLocals := 10, code := code, exceptionTable := #[], attributes := #[] }
def k1m1 : Method := { name := "law", desc := "(I)Z", sig := { parameters := [.int], returnType := some .boolean }, accessFlags := 9, code := some k1c1 }
/-- com/example/steplint/steplint/prove/SmtScriptFreshPinLaw -/
def k1 : Class := { plain "com/example/steplint/steplint/prove/SmtScriptFreshPinLaw" (some 0) with
  accessFlags := 49
  interfaces := #[]
  cf := some (fileOf pool1 17 #[] #[{ accessFlags := 2, nameIndex := 5, descriptorIndex := 6, attributes := #[] }, { accessFlags := 9, nameIndex := 21, descriptorIndex := 22, attributes := #[] }] 49 2 #[] #[])
  fields := #[]
  methods := #[k1m0, k1m1]
  instanceTypes := #[]
  staticTypes := #[]
  resolved := Array.replicate 26 none
  statics := none }

def pool2 : Array CpInfo := pool [(1, .methodref 2 3), (0, .class_ 4), (0, .nameAndType 5 6), (0, u "java/lang/Object"), (0, u "<init>"), (0, u "()V"), (0, .class_ 8), (0, u "java/util/ArrayList"), (0, .methodref 7 3), (0, .fieldref 11 12), (0, .class_ 13), (0, .nameAndType 14 15), (0, u "com/example/steplint/steplint/prove/SmtScript"), (0, u "declarations"), (0, u "Ljava/util/List;"), (0, .fieldref 11 17), (0, .nameAndType 18 15), (0, u "assertions"), (0, .class_ 20), (0, u "java/util/HashMap"), (0, .methodref 19 3), (0, .fieldref 11 23), (0, .nameAndType 24 25), (0, u "sorts"), (0, u "Ljava/util/Map;"), (0, .fieldref 11 27), (0, .nameAndType 28 25), (0, u "pairTypes"), (0, .fieldref 11 30), (0, .nameAndType 31 25), (0, u "constants"), (0, .fieldref 11 33), (0, .nameAndType 34 25), (0, u "definitions"), (0, .class_ 36), (0, u "java/util/HashSet"), (0, .methodref 35 3), (0, .fieldref 11 39), (0, .nameAndType 40 41), (0, u "definedValues"), (0, u "Ljava/util/Set;"), (0, .fieldref 11 43), (0, .nameAndType 44 25), (0, u "functions"), (0, .fieldref 11 46), (0, .nameAndType 47 41), (0, u "facts"), (0, .fieldref 11 49), (0, .nameAndType 50 25), (0, u "placeholders"), (0, .fieldref 11 52), (0, .nameAndType 53 41), (0, u "letNamesInUse"), (0, .class_ 55), (0, u "com/example/steplint/steplint/prove/SmtScript$SharedForms"), (0, .methodref 54 57), (0, .nameAndType 5 58), (0, u "(Lcom/example/steplint/steplint/prove/SmtScript;)V"), (0, .fieldref 11 60), (0, .nameAndType 61 62), (0, u "sharedForms"), (0, u "Lcom/example/steplint/steplint/prove/SmtScript$SharedForms;"), (0, .fieldref 11 64), (0, .nameAndType 65 15), (0, u "sizeNotes"), (0, .fieldref 11 67), (0, .nameAndType 68 41), (0, u "sizeKeys"), (0, .fieldref 11 70), (0, .nameAndType 71 41), (0, u "sizedTerms"), (0, .fieldref 11 73), (0, .nameAndType 74 25), (0, u "countedSets"), (0, .fieldref 11 76), (0, .nameAndType 77 15), (0, u "countedNotes"), (0, .fieldref 11 79), (0, .nameAndType 80 41), (0, u "variableSymbols"), (7, .class_ 90), (1, u "java/util/List"), (71, .interfaceMethodref 88 163), (0, .nameAndType 164 165), (0, u "size"), (0, u "()I"), (83, u "fresh"), (28, .class_ 279), (0, u "com/example/steplint/steplint/prove/SmtScript$Variables"), (7, .class_ 288), (0, u "com/example/steplint/steplint/prove/SmtScript$Placeholder"), (24, .class_ 314), (0, u "com/example/steplint/steplint/prove/SmtScript$1"), (40, .class_ 356), (0, u "com/example/steplint/steplint/prove/SmtScript$SizeNote"), (2, .class_ 360), (0, u "com/example/steplint/steplint/prove/SmtScript$CountedNote"), (183, .fieldref 11 545), (0, .nameAndType 546 547), (0, u "names"), (0, u "I"), (59, u "PLACEHOLDER_MARK"), (0, u "C"), (21, u "said")] 216

def k2c0 : Code := { maxStack := 4, maxLocals := 1, code := prog_131_method_1_code, exceptionTable := #[], attributes := #[] }
def k2m0 : Method := { name := "<init>", desc := "()V", sig := { parameters := [], returnType := none }, accessFlags := 0, code := some k2c0 }
def k2c1 : Code := { maxStack := 2, maxLocals := 1, code := prog_131_method_4_code, exceptionTable := #[], attributes := #[] }
def k2m1 : Method := { name := "said", desc := "()I", sig := { parameters := [], returnType := some .int }, accessFlags := 0, code := some k2c1 }
def k2c2 : Code := { maxStack := 3, maxLocals := 1, code := prog_131_method_48_code, exceptionTable := #[], attributes := #[] }
def k2m2 : Method := { name := "fresh", desc := "()I", sig := { parameters := [], returnType := some .int }, accessFlags := 0, code := some k2c2 }
/-- com/example/steplint/steplint/prove/SmtScript -/
def k2 : Class := { plain "com/example/steplint/steplint/prove/SmtScript" (some 0) with
  accessFlags := 32
  interfaces := #[]
  cf := some (fileOf pool2 11 #[.nestMembers #[355, 359, 54, 287, 278, 313]] #[{ accessFlags := 0, nameIndex := 5, descriptorIndex := 6, attributes := #[] }, { accessFlags := 0, nameIndex := 630, descriptorIndex := 165, attributes := #[] }, { accessFlags := 0, nameIndex := 249, descriptorIndex := 165, attributes := #[] }] 32 2 #[] #[{ accessFlags := 26, nameIndex := 607, descriptorIndex := 608, attributes := #[] }, { accessFlags := 18, nameIndex := 14, descriptorIndex := 15, attributes := #[] }, { accessFlags := 18, nameIndex := 18, descriptorIndex := 15, attributes := #[] }, { accessFlags := 18, nameIndex := 24, descriptorIndex := 25, attributes := #[] }, { accessFlags := 18, nameIndex := 28, descriptorIndex := 25, attributes := #[] }, { accessFlags := 18, nameIndex := 31, descriptorIndex := 25, attributes := #[] }, { accessFlags := 18, nameIndex := 34, descriptorIndex := 25, attributes := #[] }, { accessFlags := 18, nameIndex := 40, descriptorIndex := 41, attributes := #[] }, { accessFlags := 18, nameIndex := 44, descriptorIndex := 25, attributes := #[] }, { accessFlags := 18, nameIndex := 47, descriptorIndex := 41, attributes := #[] }, { accessFlags := 18, nameIndex := 50, descriptorIndex := 25, attributes := #[] }, { accessFlags := 18, nameIndex := 53, descriptorIndex := 41, attributes := #[] }, { accessFlags := 18, nameIndex := 61, descriptorIndex := 62, attributes := #[] }, { accessFlags := 18, nameIndex := 65, descriptorIndex := 15, attributes := #[] }, { accessFlags := 18, nameIndex := 68, descriptorIndex := 41, attributes := #[] }, { accessFlags := 18, nameIndex := 71, descriptorIndex := 41, attributes := #[] }, { accessFlags := 18, nameIndex := 74, descriptorIndex := 25, attributes := #[] }, { accessFlags := 18, nameIndex := 77, descriptorIndex := 15, attributes := #[] }, { accessFlags := 18, nameIndex := 80, descriptorIndex := 41, attributes := #[] }, { accessFlags := 2, nameIndex := 546, descriptorIndex := 547, attributes := #[] }])
  fields := #[{ name := "PLACEHOLDER_MARK", type := .char, accessFlags := 26, slot := 0, constantValue := 0 }, { name := "declarations", type := (.object "java/util/List"), accessFlags := 18, slot := 0, constantValue := 0 }, { name := "assertions", type := (.object "java/util/List"), accessFlags := 18, slot := 1, constantValue := 0 }, { name := "sorts", type := (.object "java/util/Map"), accessFlags := 18, slot := 2, constantValue := 0 }, { name := "pairTypes", type := (.object "java/util/Map"), accessFlags := 18, slot := 3, constantValue := 0 }, { name := "constants", type := (.object "java/util/Map"), accessFlags := 18, slot := 4, constantValue := 0 }, { name := "definitions", type := (.object "java/util/Map"), accessFlags := 18, slot := 5, constantValue := 0 }, { name := "definedValues", type := (.object "java/util/Set"), accessFlags := 18, slot := 6, constantValue := 0 }, { name := "functions", type := (.object "java/util/Map"), accessFlags := 18, slot := 7, constantValue := 0 }, { name := "facts", type := (.object "java/util/Set"), accessFlags := 18, slot := 8, constantValue := 0 }, { name := "placeholders", type := (.object "java/util/Map"), accessFlags := 18, slot := 9, constantValue := 0 }, { name := "letNamesInUse", type := (.object "java/util/Set"), accessFlags := 18, slot := 10, constantValue := 0 }, { name := "sharedForms", type := (.object "com/example/steplint/steplint/prove/SmtScript$SharedForms"), accessFlags := 18, slot := 11, constantValue := 0 }, { name := "sizeNotes", type := (.object "java/util/List"), accessFlags := 18, slot := 12, constantValue := 0 }, { name := "sizeKeys", type := (.object "java/util/Set"), accessFlags := 18, slot := 13, constantValue := 0 }, { name := "sizedTerms", type := (.object "java/util/Set"), accessFlags := 18, slot := 14, constantValue := 0 }, { name := "countedSets", type := (.object "java/util/Map"), accessFlags := 18, slot := 15, constantValue := 0 }, { name := "countedNotes", type := (.object "java/util/List"), accessFlags := 18, slot := 16, constantValue := 0 }, { name := "variableSymbols", type := (.object "java/util/Set"), accessFlags := 18, slot := 17, constantValue := 0 }, { name := "names", type := .int, accessFlags := 2, slot := 18, constantValue := 0 }]
  methods := #[k2m0, k2m1, k2m2]
  instanceTypes := #[(.object "java/util/List"), (.object "java/util/List"), (.object "java/util/Map"), (.object "java/util/Map"), (.object "java/util/Map"), (.object "java/util/Map"), (.object "java/util/Set"), (.object "java/util/Map"), (.object "java/util/Set"), (.object "java/util/Map"), (.object "java/util/Set"), (.object "com/example/steplint/steplint/prove/SmtScript$SharedForms"), (.object "java/util/List"), (.object "java/util/Set"), (.object "java/util/Set"), (.object "java/util/Map"), (.object "java/util/List"), (.object "java/util/Set"), .int]
  staticTypes := #[.char]
  resolved := ((Array.replicate 847 none).setIfInBounds 54 (some (.cls 20))).setIfInBounds 56 (some (.method ⟨20, 0⟩))
  statics := none }

def pool3 : Array CpInfo := pool [(8, .class_ 10), (1, u "java/lang/Iterable"), (24, .class_ 36), (0, u "java/lang/Object")] 25

/-- java/lang/Iterable -/
def k3 : Class := { plain "java/lang/Iterable" (some 0) with
  accessFlags := 1537
  interfaces := #[]
  cf := some (fileOf pool3 8 #[] #[] 1537 35 #[] #[])
  fields := #[]
  methods := #[]
  instanceTypes := #[]
  staticTypes := #[]
  resolved := Array.replicate 62 none
  statics := none }

def pool4 : Array CpInfo := pool [(10, .class_ 12), (1, u "java/util/Collection"), (47, .class_ 61), (0, u "java/lang/Object"), (0, .class_ 63), (0, u "java/lang/Iterable")] 51

/-- java/util/Collection -/
def k4 : Class := { plain "java/util/Collection" (some 0) with
  accessFlags := 1537
  interfaces := #[3]
  cf := some (fileOf pool4 10 #[] #[] 1537 60 #[62] #[])
  fields := #[]
  methods := #[]
  instanceTypes := #[]
  staticTypes := #[]
  resolved := Array.replicate 115 none
  statics := none }

def pool5 : Array CpInfo := pool [(1, .methodref 2 3), (0, .class_ 4), (0, .nameAndType 5 6), (0, u "java/lang/Object"), (0, u "<init>"), (0, u "()V"), (1, .class_ 10), (1, u "java/util/AbstractCollection"), (66, .class_ 78), (0, u "java/util/Collection")] 81

def k5c0 : Code := { maxStack := 1, maxLocals := 1, code := jdk_22_method_1_code, exceptionTable := #[], attributes := #[] }
def k5m0 : Method := { name := "<init>", desc := "()V", sig := { parameters := [], returnType := none }, accessFlags := 4, code := some k5c0 }
/-- java/util/AbstractCollection -/
def k5 : Class := { plain "java/util/AbstractCollection" (some 0) with
  accessFlags := 1057
  interfaces := #[4]
  cf := some (fileOf pool5 8 #[] #[{ accessFlags := 4, nameIndex := 5, descriptorIndex := 6, attributes := #[] }] 1057 2 #[77] #[])
  fields := #[]
  methods := #[k5m0]
  instanceTypes := #[]
  staticTypes := #[]
  resolved := Array.replicate 160 none
  statics := none }

def pool6 : Array CpInfo := pool [(8, .class_ 10), (1, u "java/util/SequencedCollection"), (15, .class_ 27), (0, u "java/lang/Object"), (0, .class_ 29), (0, u "java/util/Collection")] 27

/-- java/util/SequencedCollection -/
def k6 : Class := { plain "java/util/SequencedCollection" (some 0) with
  accessFlags := 1537
  interfaces := #[4]
  cf := some (fileOf pool6 8 #[] #[] 1537 26 #[28] #[])
  fields := #[]
  methods := #[]
  instanceTypes := #[]
  staticTypes := #[]
  resolved := Array.replicate 57 none
  statics := none }

def pool7 : Array CpInfo := pool [(8, .class_ 10), (1, u "java/util/List"), (68, u "size"), (0, u "()I"), (22, .class_ 104), (0, u "java/lang/Object"), (15, .class_ 121), (0, u "java/util/SequencedCollection")] 129

def k7m0 : Method := { name := "size", desc := "()I", sig := { parameters := [], returnType := some .int }, accessFlags := 1025, code := none }
/-- java/util/List -/
def k7 : Class := { plain "java/util/List" (some 0) with
  accessFlags := 1537
  interfaces := #[6]
  cf := some (fileOf pool7 8 #[] #[{ accessFlags := 1025, nameIndex := 79, descriptorIndex := 80, attributes := #[] }] 1537 103 #[120] #[])
  fields := #[]
  methods := #[k7m0]
  instanceTypes := #[]
  staticTypes := #[]
  resolved := Array.replicate 251 none
  statics := none }

def pool8 : Array CpInfo := pool [(1, .methodref 2 3), (0, .class_ 4), (0, .nameAndType 5 6), (0, u "java/util/AbstractCollection"), (0, u "<init>"), (0, u "()V"), (0, .fieldref 8 9), (0, .class_ 10), (0, .nameAndType 11 12), (0, u "java/util/AbstractList"), (0, u "modCount"), (0, u "I"), (64, .class_ 78), (0, u "java/util/AbstractList$Itr"), (3, .class_ 83), (0, u "java/util/AbstractList$ListItr"), (9, .class_ 94), (0, u "java/util/AbstractList$RandomAccessSubList"), (3, .class_ 99), (0, u "java/util/AbstractList$SubList"), (33, .class_ 134), (0, u "java/util/List"), (73, .class_ 209), (0, u "java/util/AbstractList$SubList$1"), (0, .class_ 211), (0, u "java/util/AbstractList$RandomAccessSpliterator")] 6

def k8c0 : Code := { maxStack := 2, maxLocals := 1, code := jdk_39_method_1_code, exceptionTable := #[], attributes := #[] }
def k8m0 : Method := { name := "<init>", desc := "()V", sig := { parameters := [], returnType := none }, accessFlags := 4, code := some k8c0 }
/-- java/util/AbstractList -/
def k8 : Class := { plain "java/util/AbstractList" (some 5) with
  accessFlags := 1057
  interfaces := #[7]
  cf := some (fileOf pool8 8 #[.nestMembers #[93, 98, 208, 210, 82, 77]] #[{ accessFlags := 4, nameIndex := 5, descriptorIndex := 6, attributes := #[] }] 1057 2 #[133] #[{ accessFlags := 132, nameIndex := 11, descriptorIndex := 12, attributes := #[] }])
  fields := #[{ name := "modCount", type := .int, accessFlags := 132, slot := 0, constantValue := 0 }]
  methods := #[k8m0]
  instanceTypes := #[.int]
  staticTypes := #[]
  resolved := Array.replicate 218 none
  statics := none }

def pool9 : Array CpInfo := pool [(1, .class_ 2), (0, u "java/util/RandomAccess"), (0, .class_ 4), (0, u "java/lang/Object")] 2

/-- java/util/RandomAccess -/
def k9 : Class := { plain "java/util/RandomAccess" (some 0) with
  accessFlags := 1537
  interfaces := #[]
  cf := some (fileOf pool9 1 #[] #[] 1537 3 #[] #[])
  fields := #[]
  methods := #[]
  instanceTypes := #[]
  staticTypes := #[]
  resolved := Array.replicate 7 none
  statics := none }

def pool10 : Array CpInfo := pool [(1, .class_ 2), (0, u "java/lang/Cloneable"), (0, .class_ 4), (0, u "java/lang/Object")] 2

/-- java/lang/Cloneable -/
def k10 : Class := { plain "java/lang/Cloneable" (some 0) with
  accessFlags := 1537
  interfaces := #[]
  cf := some (fileOf pool10 1 #[] #[] 1537 3 #[] #[])
  fields := #[]
  methods := #[]
  instanceTypes := #[]
  staticTypes := #[]
  resolved := Array.replicate 7 none
  statics := none }

def pool11 : Array CpInfo := pool [(1, .class_ 2), (0, u "java/io/Serializable"), (0, .class_ 4), (0, u "java/lang/Object")] 2

/-- java/io/Serializable -/
def k11 : Class := { plain "java/io/Serializable" (some 0) with
  accessFlags := 1537
  interfaces := #[]
  cf := some (fileOf pool11 1 #[] #[] 1537 3 #[] #[])
  fields := #[]
  methods := #[]
  instanceTypes := #[]
  staticTypes := #[]
  resolved := Array.replicate 7 none
  statics := none }

def pool12 : Array CpInfo := pool [(1, .methodref 2 3), (0, .class_ 4), (0, .nameAndType 5 6), (0, u "java/util/AbstractList"), (0, u "<init>"), (0, u "()V"), (2, .fieldref 10 11), (0, .class_ 12), (0, .nameAndType 13 14), (0, u "java/util/ArrayList"), (0, u "elementData"), (0, u "[Ljava/lang/Object;"), (2, u "EMPTY_ELEMENTDATA"), (21, .fieldref 10 40), (0, .nameAndType 41 14), (0, u "DEFAULTCAPACITY_EMPTY_ELEMENTDATA"), (6, .fieldref 10 49), (0, .nameAndType 50 51), (0, u "size"), (0, u "I"), (96, .class_ 149), (0, u "java/util/List"), (36, u "()I"), (75, .class_ 263), (0, u "java/util/ArrayList$ListItr"), (3, .class_ 268), (0, u "java/util/ArrayList$Itr"), (7, .class_ 277), (0, u "java/util/ArrayList$SubList"), (12, .class_ 291), (0, u "java/util/ArrayList$ArrayListSpliterator"), (37, .class_ 330), (0, u "java/util/RandomAccess"), (0, .class_ 332), (0, u "java/lang/Cloneable"), (0, .class_ 334), (0, u "java/io/Serializable"), (0, u "serialVersionUID"), (0, u "J"), (3, u "DEFAULT_CAPACITY"), (159, .class_ 501), (0, u "java/util/ArrayList$SubList$2"), (0, .class_ 503), (0, u "java/util/ArrayList$SubList$1")] 5

def k12c0 : Code := { maxStack := 2, maxLocals := 1, code := jdk_38_method_2_code, exceptionTable := #[], attributes := #[] }
def k12m0 : Method := { name := "<init>", desc := "()V", sig := { parameters := [], returnType := none }, accessFlags := 1, code := some k12c0 }
def k12c1 : Code := { maxStack := 1, maxLocals := 1, code := jdk_38_method_8_code, exceptionTable := #[], attributes := #[] }
def k12m1 : Method := { name := "size", desc := "()I", sig := { parameters := [], returnType := some .int }, accessFlags := 1, code := some k12c1 }
/-- java/util/ArrayList -/
def k12 : Class := { plain "java/util/ArrayList" (some 8) with
  accessFlags := 33
  interfaces := #[7, 9, 10, 11]
  cf := some (fileOf pool12 10 #[.nestMembers #[290, 276, 500, 502, 262, 267]] #[{ accessFlags := 1, nameIndex := 5, descriptorIndex := 6, attributes := #[] }, { accessFlags := 1, nameIndex := 50, descriptorIndex := 186, attributes := #[] }] 33 2 #[148, 329, 331, 333] #[{ accessFlags := 26, nameIndex := 335, descriptorIndex := 336, attributes := #[] }, { accessFlags := 26, nameIndex := 340, descriptorIndex := 51, attributes := #[] }, { accessFlags := 26, nameIndex := 17, descriptorIndex := 14, attributes := #[] }, { accessFlags := 26, nameIndex := 41, descriptorIndex := 14, attributes := #[] }, { accessFlags := 128, nameIndex := 13, descriptorIndex := 14, attributes := #[] }, { accessFlags := 2, nameIndex := 50, descriptorIndex := 51, attributes := #[] }])
  fields := #[{ name := "serialVersionUID", type := .long, accessFlags := 26, slot := 0, constantValue := 0 }, { name := "DEFAULT_CAPACITY", type := .int, accessFlags := 26, slot := 1, constantValue := 0 }, { name := "EMPTY_ELEMENTDATA", type := (.array (.object "java/lang/Object")), accessFlags := 26, slot := 2, constantValue := 0 }, { name := "DEFAULTCAPACITY_EMPTY_ELEMENTDATA", type := (.array (.object "java/lang/Object")), accessFlags := 26, slot := 3, constantValue := 0 }, { name := "elementData", type := (.array (.object "java/lang/Object")), accessFlags := 128, slot := 1, constantValue := 0 }, { name := "size", type := .int, accessFlags := 2, slot := 2, constantValue := 0 }]
  methods := #[k12m0, k12m1]
  instanceTypes := #[.int, (.array (.object "java/lang/Object")), .int]
  staticTypes := #[.long, .int, (.array (.object "java/lang/Object")), (.array (.object "java/lang/Object"))]
  resolved := Array.replicate 509 none
  statics := some 0 }

def pool13 : Array CpInfo := pool [(2, .class_ 4), (1, u "java/util/Map"), (31, .class_ 37), (0, u "java/util/Map$Entry"), (55, .class_ 94), (0, u "java/lang/Object")] 168

/-- java/util/Map -/
def k13 : Class := { plain "java/util/Map" (some 0) with
  accessFlags := 1537
  interfaces := #[]
  cf := some (fileOf pool13 2 #[.nestMembers #[36]] #[] 1537 93 #[] #[])
  fields := #[]
  methods := #[]
  instanceTypes := #[]
  staticTypes := #[]
  resolved := Array.replicate 263 none
  statics := none }

def pool14 : Array CpInfo := pool [(1, .methodref 2 3), (0, .class_ 4), (0, .nameAndType 5 6), (0, u "java/lang/Object"), (0, u "<init>"), (0, u "()V"), (1, .class_ 10), (1, u "java/util/AbstractMap"), (42, .class_ 54), (0, u "java/util/Map"), (9, u "keySet"), (0, u "Ljava/util/Set;"), (0, .class_ 67), (0, u "java/util/AbstractMap$1"), (5, u "values"), (0, u "Ljava/util/Collection;"), (0, .class_ 76), (0, u "java/util/AbstractMap$2"), (104, .class_ 182), (0, u "java/util/AbstractMap$ViewCollection"), (0, .class_ 184), (0, u "java/util/AbstractMap$SimpleImmutableEntry"), (0, .class_ 186), (0, u "java/util/AbstractMap$SimpleEntry"), (0, .class_ 188), (0, u "java/util/AbstractMap$2$1"), (0, .class_ 190), (0, u "java/util/AbstractMap$1$1")] 5

def k14c0 : Code := { maxStack := 1, maxLocals := 1, code := jdk_71_method_1_code, exceptionTable := #[], attributes := #[] }
def k14m0 : Method := { name := "<init>", desc := "()V", sig := { parameters := [], returnType := none }, accessFlags := 4, code := some k14c0 }
/-- java/util/AbstractMap -/
def k14 : Class := { plain "java/util/AbstractMap" (some 0) with
  accessFlags := 1057
  interfaces := #[13]
  cf := some (fileOf pool14 8 #[.nestMembers #[181, 183, 185, 75, 187, 66, 189]] #[{ accessFlags := 4, nameIndex := 5, descriptorIndex := 6, attributes := #[] }] 1057 2 #[53] #[{ accessFlags := 128, nameIndex := 64, descriptorIndex := 65, attributes := #[] }, { accessFlags := 128, nameIndex := 73, descriptorIndex := 74, attributes := #[] }])
  fields := #[{ name := "keySet", type := (.object "java/util/Set"), accessFlags := 128, slot := 0, constantValue := 0 }, { name := "values", type := (.object "java/util/Collection"), accessFlags := 128, slot := 1, constantValue := 0 }]
  methods := #[k14m0]
  instanceTypes := #[(.object "java/util/Set"), (.object "java/util/Collection")]
  staticTypes := #[]
  resolved := Array.replicate 196 none
  statics := none }

def pool15 : Array CpInfo := pool [(40, .class_ 41), (0, u "java/util/HashMap"), (1, .methodref 44 45), (0, .class_ 46), (0, .nameAndType 47 48), (0, u "java/util/AbstractMap"), (0, u "<init>"), (0, u "()V"), (32, .fieldref 40 82), (0, .nameAndType 83 84), (0, u "loadFactor"), (0, u "F"), (5, u "threshold"), (0, u "I"), (0, .float 1061158912), (8, .class_ 103), (1, u "java/util/Map"), (0, u "size"), (2, u "table"), (0, u "[Ljava/util/HashMap$Node;"), (14, u "entrySet"), (39, .class_ 165), (1, u "java/util/HashMap$Node"), (14, .class_ 181), (0, u "java/util/HashMap$TreeNode"), (22, u "modCount"), (37, u "Ljava/util/Set;"), (0, .class_ 244), (0, u "java/util/HashMap$KeySet"), (18, .class_ 264), (0, u "java/util/HashMap$Values"), (3, .class_ 269), (0, u "java/util/HashMap$EntrySet"), (76, .class_ 348), (1, u "java/util/HashMap$UnsafeHolder"), (43, .class_ 393), (0, u "java/lang/Cloneable"), (0, .class_ 395), (0, u "java/io/Serializable"), (0, u "serialVersionUID"), (0, u "J"), (3, u "DEFAULT_INITIAL_CAPACITY"), (1, u "MAXIMUM_CAPACITY"), (0, u "DEFAULT_LOAD_FACTOR"), (0, u "TREEIFY_THRESHOLD"), (1, u "UNTREEIFY_THRESHOLD"), (1, u "MIN_TREEIFY_CAPACITY"), (186, .class_ 597), (0, u "java/util/HashMap$EntrySpliterator"), (0, .class_ 599), (0, u "java/util/HashMap$ValueSpliterator"), (0, .class_ 601), (0, u "java/util/HashMap$KeySpliterator"), (0, .class_ 603), (0, u "java/util/HashMap$HashMapSpliterator"), (0, .class_ 605), (0, u "java/util/HashMap$EntryIterator"), (0, .class_ 607), (0, u "java/util/HashMap$ValueIterator"), (0, .class_ 609), (0, u "java/util/HashMap$KeyIterator"), (0, .class_ 611), (0, u "java/util/HashMap$HashIterator")] 17

def k15c0 : Code := { maxStack := 2, maxLocals := 1, code := jdk_69_method_7_code, exceptionTable := #[], attributes := #[] }
def k15m0 : Method := { name := "<init>", desc := "()V", sig := { parameters := [], returnType := none }, accessFlags := 1, code := some k15c0 }
/-- java/util/HashMap -/
def k15 : Class := { plain "java/util/HashMap" (some 14) with
  accessFlags := 33
  interfaces := #[13, 10, 11]
  cf := some (fileOf pool15 40 #[.nestMembers #[180, 596, 598, 600, 602, 604, 606, 608, 610, 346, 268, 263, 243, 163]] #[{ accessFlags := 1, nameIndex := 47, descriptorIndex := 48, attributes := #[] }] 33 44 #[101, 392, 394] #[{ accessFlags := 26, nameIndex := 396, descriptorIndex := 397, attributes := #[] }, { accessFlags := 24, nameIndex := 401, descriptorIndex := 91, attributes := #[] }, { accessFlags := 24, nameIndex := 403, descriptorIndex := 91, attributes := #[] }, { accessFlags := 24, nameIndex := 404, descriptorIndex := 84, attributes := #[] }, { accessFlags := 24, nameIndex := 405, descriptorIndex := 91, attributes := #[] }, { accessFlags := 24, nameIndex := 407, descriptorIndex := 91, attributes := #[] }, { accessFlags := 24, nameIndex := 409, descriptorIndex := 91, attributes := #[] }, { accessFlags := 128, nameIndex := 107, descriptorIndex := 108, attributes := #[] }, { accessFlags := 128, nameIndex := 123, descriptorIndex := 242, attributes := #[] }, { accessFlags := 128, nameIndex := 104, descriptorIndex := 91, attributes := #[] }, { accessFlags := 128, nameIndex := 204, descriptorIndex := 91, attributes := #[] }, { accessFlags := 0, nameIndex := 90, descriptorIndex := 91, attributes := #[] }, { accessFlags := 16, nameIndex := 83, descriptorIndex := 84, attributes := #[] }])
  fields := #[{ name := "serialVersionUID", type := .long, accessFlags := 26, slot := 0, constantValue := 0 }, { name := "DEFAULT_INITIAL_CAPACITY", type := .int, accessFlags := 24, slot := 1, constantValue := 0 }, { name := "MAXIMUM_CAPACITY", type := .int, accessFlags := 24, slot := 2, constantValue := 0 }, { name := "DEFAULT_LOAD_FACTOR", type := .float, accessFlags := 24, slot := 3, constantValue := 0 }, { name := "TREEIFY_THRESHOLD", type := .int, accessFlags := 24, slot := 4, constantValue := 0 }, { name := "UNTREEIFY_THRESHOLD", type := .int, accessFlags := 24, slot := 5, constantValue := 0 }, { name := "MIN_TREEIFY_CAPACITY", type := .int, accessFlags := 24, slot := 6, constantValue := 0 }, { name := "table", type := (.array (.object "java/util/HashMap$Node")), accessFlags := 128, slot := 2, constantValue := 0 }, { name := "entrySet", type := (.object "java/util/Set"), accessFlags := 128, slot := 3, constantValue := 0 }, { name := "size", type := .int, accessFlags := 128, slot := 4, constantValue := 0 }, { name := "modCount", type := .int, accessFlags := 128, slot := 5, constantValue := 0 }, { name := "threshold", type := .int, accessFlags := 0, slot := 6, constantValue := 0 }, { name := "loadFactor", type := .float, accessFlags := 16, slot := 7, constantValue := 0 }]
  methods := #[k15m0]
  instanceTypes := #[(.object "java/util/Set"), (.object "java/util/Collection"), (.array (.object "java/util/HashMap$Node")), (.object "java/util/Set"), .int, .int, .int, .float]
  staticTypes := #[.long, .int, .int, .float, .int, .int, .int]
  resolved := Array.replicate 629 none
  statics := none }

def pool16 : Array CpInfo := pool [(26, .class_ 27), (0, u "java/lang/Object"), (5, .class_ 34), (0, u "java/util/Set"), (1, .class_ 38), (1, u "java/util/Collection")] 105

/-- java/util/Set -/
def k16 : Class := { plain "java/util/Set" (some 0) with
  accessFlags := 1537
  interfaces := #[4]
  cf := some (fileOf pool16 33 #[] #[] 1537 26 #[36] #[])
  fields := #[]
  methods := #[]
  instanceTypes := #[]
  staticTypes := #[]
  resolved := Array.replicate 144 none
  statics := none }

def pool17 : Array CpInfo := pool [(1, .methodref 2 3), (0, .class_ 4), (0, .nameAndType 5 6), (0, u "java/util/AbstractCollection"), (0, u "<init>"), (0, u "()V"), (0, .class_ 8), (0, u "java/util/Set"), (7, .class_ 17), (0, u "java/util/AbstractSet")] 78

def k17c0 : Code := { maxStack := 1, maxLocals := 1, code := jdk_91_method_1_code, exceptionTable := #[], attributes := #[] }
def k17m0 : Method := { name := "<init>", desc := "()V", sig := { parameters := [], returnType := none }, accessFlags := 4, code := some k17c0 }
/-- java/util/AbstractSet -/
def k17 : Class := { plain "java/util/AbstractSet" (some 5) with
  accessFlags := 1057
  interfaces := #[16]
  cf := some (fileOf pool17 16 #[] #[{ accessFlags := 4, nameIndex := 5, descriptorIndex := 6, attributes := #[] }] 1057 2 #[7] #[])
  fields := #[]
  methods := #[k17m0]
  instanceTypes := #[]
  staticTypes := #[]
  resolved := Array.replicate 96 none
  statics := none }

def pool18 : Array CpInfo := pool [(1, .methodref 2 3), (0, .class_ 4), (0, .nameAndType 5 6), (0, u "java/util/AbstractSet"), (0, u "<init>"), (0, u "()V"), (0, .class_ 8), (0, u "java/util/HashMap"), (0, .methodref 7 3), (0, .fieldref 11 12), (0, .class_ 13), (0, .nameAndType 14 15), (0, u "java/util/HashSet"), (0, u "map"), (0, u "Ljava/util/HashMap;"), (34, .class_ 52), (1, u "java/util/Set"), (13, u "PRESENT"), (0, u "Ljava/lang/Object;"), (158, .class_ 227), (0, u "java/lang/Cloneable"), (0, .class_ 229), (0, u "java/io/Serializable"), (0, u "serialVersionUID"), (0, u "J")] 71

def k18c0 : Code := { maxStack := 3, maxLocals := 1, code := jdk_93_method_1_code, exceptionTable := #[], attributes := #[] }
def k18m0 : Method := { name := "<init>", desc := "()V", sig := { parameters := [], returnType := none }, accessFlags := 1, code := some k18c0 }
/-- java/util/HashSet -/
def k18 : Class := { plain "java/util/HashSet" (some 17) with
  accessFlags := 33
  interfaces := #[16, 10, 11]
  cf := some (fileOf pool18 11 #[] #[{ accessFlags := 1, nameIndex := 5, descriptorIndex := 6, attributes := #[] }] 33 2 #[50, 226, 228] #[{ accessFlags := 24, nameIndex := 230, descriptorIndex := 231, attributes := #[] }, { accessFlags := 128, nameIndex := 14, descriptorIndex := 15, attributes := #[] }, { accessFlags := 24, nameIndex := 66, descriptorIndex := 67, attributes := #[] }])
  fields := #[{ name := "serialVersionUID", type := .long, accessFlags := 24, slot := 0, constantValue := 0 }, { name := "map", type := (.object "java/util/HashMap"), accessFlags := 128, slot := 0, constantValue := 0 }, { name := "PRESENT", type := (.object "java/lang/Object"), accessFlags := 24, slot := 1, constantValue := 0 }]
  methods := #[k18m0]
  instanceTypes := #[(.object "java/util/HashMap")]
  staticTypes := #[.long, (.object "java/lang/Object")]
  resolved := Array.replicate 303 none
  statics := none }

def pool19 : Array CpInfo := pool [(1, .class_ 2), (0, u "com/example/steplint/steplint/prove/SExpression$Reading"), (0, .class_ 4), (0, u "java/lang/Object"), (11, .class_ 17), (0, u "com/example/steplint/steplint/prove/SExpression")] 2

/-- com/example/steplint/steplint/prove/SExpression$Reading -/
def k19 : Class := { plain "com/example/steplint/steplint/prove/SExpression$Reading" (some 0) with
  accessFlags := 1536
  interfaces := #[]
  cf := some (fileOf pool19 1 #[.nestHost 16] #[] 1536 3 #[] #[])
  fields := #[]
  methods := #[]
  instanceTypes := #[]
  staticTypes := #[]
  resolved := Array.replicate 20 none
  statics := none }

def pool20 : Array CpInfo := pool [(1, .fieldref 2 3), (0, .class_ 4), (0, .nameAndType 5 6), (0, u "com/example/steplint/steplint/prove/SmtScript$SharedForms"), (0, u "this$0"), (0, u "Lcom/example/steplint/steplint/prove/SmtScript;"), (0, .methodref 8 9), (0, .class_ 10), (0, .nameAndType 11 12), (0, u "java/lang/Object"), (0, u "<init>"), (0, u "()V"), (0, .class_ 14), (0, u "java/util/HashMap"), (0, .methodref 13 9), (0, .fieldref 2 17), (0, .nameAndType 18 19), (0, u "atoms"), (0, u "Ljava/util/Map;"), (0, .fieldref 2 21), (0, .nameAndType 22 19), (0, u "lists"), (1, .class_ 26), (1, u "com/example/steplint/steplint/prove/SmtScript"), (52, .class_ 80), (0, u "com/example/steplint/steplint/prove/SExpression$Reading"), (3, u "(Lcom/example/steplint/steplint/prove/SmtScript;)V")] 38

def k20c0 : Code := { maxStack := 3, maxLocals := 2, code := prog_135_method_1_code, exceptionTable := #[], attributes := #[] }
def k20m0 : Method := { name := "<init>", desc := "(Lcom/example/steplint/steplint/prove/SmtScript;)V", sig := { parameters := [(.object "com/example/steplint/steplint/prove/SmtScript")], returnType := none }, accessFlags := 2, code := some k20c0 }
/-- com/example/steplint/steplint/prove/SmtScript$SharedForms -/
def k20 : Class := { plain "com/example/steplint/steplint/prove/SmtScript$SharedForms" (some 0) with
  accessFlags := 32
  interfaces := #[19]
  cf := some (fileOf pool20 2 #[.nestHost 24] #[{ accessFlags := 2, nameIndex := 11, descriptorIndex := 84, attributes := #[] }] 32 8 #[79] #[{ accessFlags := 18, nameIndex := 18, descriptorIndex := 19, attributes := #[] }, { accessFlags := 18, nameIndex := 22, descriptorIndex := 19, attributes := #[] }, { accessFlags := 4112, nameIndex := 5, descriptorIndex := 6, attributes := #[] }])
  fields := #[{ name := "atoms", type := (.object "java/util/Map"), accessFlags := 18, slot := 0, constantValue := 0 }, { name := "lists", type := (.object "java/util/Map"), accessFlags := 18, slot := 1, constantValue := 0 }, { name := "this$0", type := (.object "com/example/steplint/steplint/prove/SmtScript"), accessFlags := 4112, slot := 2, constantValue := 0 }]
  methods := #[k20m0]
  instanceTypes := #[(.object "java/util/Map"), (.object "java/util/Map"), (.object "com/example/steplint/steplint/prove/SmtScript")]
  staticTypes := #[]
  resolved := Array.replicate 123 none
  statics := none }

/-- the primitive byte -/
def k21 : Class := { plain "byte" none with kind := .primitive 'B', accessFlags := 0x411 }
/-- [B -/
def k22 : Class := { plain "[B" (some 0) with kind := .array 21 .byte, interfaces := #[10, 11], accessFlags := 1041 }

/-- the primitive int -/
def k23 : Class := { plain "int" none with kind := .primitive 'I', accessFlags := 0x411 }
/-- [I -/
def k24 : Class := { plain "[I" (some 0) with kind := .array 23 .int, interfaces := #[10, 11], accessFlags := 1041 }

/-- [Ljava/lang/Object; -/
def k25 : Class := { plain "[Ljava/lang/Object;" (some 0) with kind := .array 0 (.object "java/lang/Object"), interfaces := #[10, 11], accessFlags := 1041 }

def heap : Heap := #[{ cls := 12, slots := #[.long 0, .int 0, .ref 1, .ref 2], vm := .statics 12 },
  { cls := 25, slots := #[], vm := .none },
  { cls := 25, slots := #[], vm := .none }]
def classes : Array Class := #[k0, k1, k2, k3, k4, k5, k6, k7, k8, k9, k10, k11, k12, k13, k14, k15, k16, k17, k18, k19, k20, k21, k22, k23, k24, k25]
def interned : List (Array UInt16 × Addr) := []
def slotsUsed : Nat := 4
def theMethod : MethodId := ⟨1, 1⟩
def args0 : Array Value := #[.int 2]
def aboutOver (below : List Frame) : State where
  vm := { classes := classes, interned := interned.toArray }
  heap := heap
  slotsUsed := slotsUsed
  threads := #[{ frames := .invoking theMethod args0 :: below }]
def below0 : List Frame := [.native { method := ⟨0, 0⟩, args := #[] }]
def about1 : State := aboutOver below0
def p0 : Program := .bare "" "" ""
def e0 : Env := launch0.env 0 0 0
theorem w_frames : about1.frames = Frame.invoking theMethod args0 :: below0 := rfl
set_option maxRecDepth 65536 in
theorem w_args : argsFit about1.vm theMethod args0 = true := by decide +kernel
set_option maxRecDepth 65536 in
theorem w_heap : heapFits about1 = true := by decide +kernel
set_option maxRecDepth 65536 in
theorem w_runnable : about1.curStatus? = some .runnable := by decide +kernel
set_option maxRecDepth 65536 in
theorem w_alone : about1.alone = true := by decide +kernel
set_option maxRecDepth 65536 in
theorem w_named : about1.methodNamed? x = some theMethod := by decide +kernel
set_option maxRecDepth 65536 in
theorem w_hears : about1.hears theMethod below0 = true := by decide +kernel
set_option maxRecDepth 65536 in
theorem w_ripe : about1.ripe theMethod args0 below0 = true := by decide +kernel
theorem w_running : about1.status = .running := rfl
set_option maxRecDepth 65536 in
theorem w_room : about1.hasRoom e0.platform room_1 = true :=
  launch0.hasRoom_least _ room_1 (by decide +kernel) (by decide +kernel) (by decide +kernel) (by decide +kernel) (by decide +kernel) (by decide +kernel)
theorem allAtoms_all (ts : List Jvm.Cond) (a : Array Jvm.Value) (st : Jvm.State) : (allAtoms ts).before a st = ts.all (fun c => c.before a st) := by
  induction ts with
  | nil => rfl
  | cons c t ih =>
    show (Jvm.Cond.and c (allAtoms t)).before a st = _
    rw [Jvm.Cond.before_and, ih, List.all_cons]
def words1 : List Jvm.Cond := Jvm.Cond.code x code maxLocals ret :: tables_1
/-- a 'code' word, met by the world's own term for the bytes: nothing is compared byte by byte -/
theorem code_word {y : MethodName} {bytes : ByteArray} {mx : Nat} {rt : Option FieldType} {a : Array Value} {s : State} {m : MethodId} {meth : Method} {c : Code} (h1 : s.methodNamed? y = some m) (h2 : s.vm.method? m = some meth) (h3 : meth.code = some c) (h4 : c.code = bytes)
    (h5 : (c.maxLocals == mx && c.exceptionTable.isEmpty && decide (c.maxStack ≤ mostOperands) && decide (meth.sig.returnType = rt) && !meth.locks && decide (parseMethodDescriptor y.desc = some meth.sig)) = true) : (Jvm.Cond.code y bytes mx rt).before a s = true := by
  simp only [Bool.and_eq_true, beq_iff_eq, Bool.not_eq_true', decide_eq_true_eq] at h5
  obtain ⟨⟨⟨⟨⟨g1, g2⟩, g3⟩, g4⟩, g5⟩, g6⟩ := h5
  simp [Cond.before, Cond.holds, Cond.value, h1, h2, h3, h4, g1, g2, g3, g4, g5, g6]
def isCode : Jvm.Cond → Bool
  | .code _ _ _ _ => true
  | _ => false
theorem all_split {L : List Jvm.Cond} {P : Jvm.Cond → Bool} (h1 : L.all (fun c => isCode c || P c) = true) (h2 : ∀ c ∈ L.filter isCode, P c = true) : L.all P = true := by
  refine List.all_eq_true.mpr fun c hc => ?_
  have h := List.all_eq_true.mp h1 c hc
  rcases Bool.eq_false_or_eq_true (isCode c) with hi | hi
  · exact h2 c (List.mem_filter.mpr ⟨hc, hi⟩)
  · simpa [hi] using h
set_option maxRecDepth 65536 in
theorem w_c0 : (Jvm.Cond.code x code maxLocals ret).before args0 about1 = true := code_word (m := ⟨1, 1⟩) (meth := k1m1) (c := k1c1) (by decide +kernel) rfl rfl rfl (by decide +kernel)
set_option maxRecDepth 65536 in
theorem w_c1 : (Jvm.Cond.code ({ cls := "com/example/steplint/steplint/prove/SmtScript", name := "<init>", desc := "()V" } : Jvm.MethodName) prog_131_method_1_code (1 : Nat) (Option.none : Option Jvm.ClassFile.FieldType)).before args0 about1 = true := code_word (m := ⟨2, 0⟩) (meth := k2m0) (c := k2c0) (by decide +kernel) rfl rfl rfl (by decide +kernel)
set_option maxRecDepth 65536 in
theorem w_c2 : (Jvm.Cond.code ({ cls := "java/lang/Object", name := "<init>", desc := "()V" } : Jvm.MethodName) object_method_1_code (1 : Nat) (Option.none : Option Jvm.ClassFile.FieldType)).before args0 about1 = true := code_word (m := ⟨0, 0⟩) (meth := k0m0) (c := k0c0) (by decide +kernel) rfl rfl rfl (by decide +kernel)
set_option maxRecDepth 65536 in
theorem w_c3 : (Jvm.Cond.code ({ cls := "java/util/ArrayList", name := "<init>", desc := "()V" } : Jvm.MethodName) jdk_38_method_2_code (1 : Nat) (Option.none : Option Jvm.ClassFile.FieldType)).before args0 about1 = true := code_word (m := ⟨12, 0⟩) (meth := k12m0) (c := k12c0) (by decide +kernel) rfl rfl rfl (by decide +kernel)
set_option maxRecDepth 65536 in
theorem w_c4 : (Jvm.Cond.code ({ cls := "java/util/AbstractList", name := "<init>", desc := "()V" } : Jvm.MethodName) jdk_39_method_1_code (1 : Nat) (Option.none : Option Jvm.ClassFile.FieldType)).before args0 about1 = true := code_word (m := ⟨8, 0⟩) (meth := k8m0) (c := k8c0) (by decide +kernel) rfl rfl rfl (by decide +kernel)
set_option maxRecDepth 65536 in
theorem w_c5 : (Jvm.Cond.code ({ cls := "java/util/AbstractCollection", name := "<init>", desc := "()V" } : Jvm.MethodName) jdk_22_method_1_code (1 : Nat) (Option.none : Option Jvm.ClassFile.FieldType)).before args0 about1 = true := code_word (m := ⟨5, 0⟩) (meth := k5m0) (c := k5c0) (by decide +kernel) rfl rfl rfl (by decide +kernel)
set_option maxRecDepth 65536 in
theorem w_c6 : (Jvm.Cond.code ({ cls := "java/util/HashMap", name := "<init>", desc := "()V" } : Jvm.MethodName) jdk_69_method_7_code (1 : Nat) (Option.none : Option Jvm.ClassFile.FieldType)).before args0 about1 = true := code_word (m := ⟨15, 0⟩) (meth := k15m0) (c := k15c0) (by decide +kernel) rfl rfl rfl (by decide +kernel)
set_option maxRecDepth 65536 in
theorem w_c7 : (Jvm.Cond.code ({ cls := "java/util/AbstractMap", name := "<init>", desc := "()V" } : Jvm.MethodName) jdk_71_method_1_code (1 : Nat) (Option.none : Option Jvm.ClassFile.FieldType)).before args0 about1 = true := code_word (m := ⟨14, 0⟩) (meth := k14m0) (c := k14c0) (by decide +kernel) rfl rfl rfl (by decide +kernel)
set_option maxRecDepth 65536 in
theorem w_c8 : (Jvm.Cond.code ({ cls := "java/util/HashSet", name := "<init>", desc := "()V" } : Jvm.MethodName) jdk_93_method_1_code (1 : Nat) (Option.none : Option Jvm.ClassFile.FieldType)).before args0 about1 = true := code_word (m := ⟨18, 0⟩) (meth := k18m0) (c := k18c0) (by decide +kernel) rfl rfl rfl (by decide +kernel)
set_option maxRecDepth 65536 in
theorem w_c9 : (Jvm.Cond.code ({ cls := "java/util/AbstractSet", name := "<init>", desc := "()V" } : Jvm.MethodName) jdk_91_method_1_code (1 : Nat) (Option.none : Option Jvm.ClassFile.FieldType)).before args0 about1 = true := code_word (m := ⟨17, 0⟩) (meth := k17m0) (c := k17c0) (by decide +kernel) rfl rfl rfl (by decide +kernel)
set_option maxRecDepth 65536 in
theorem w_c10 : (Jvm.Cond.code ({ cls := "com/example/steplint/steplint/prove/SmtScript$SharedForms", name := "<init>", desc := "(Lcom/example/steplint/steplint/prove/SmtScript;)V" } : Jvm.MethodName) prog_135_method_1_code (2 : Nat) (Option.none : Option Jvm.ClassFile.FieldType)).before args0 about1 = true := code_word (m := ⟨20, 0⟩) (meth := k20m0) (c := k20c0) (by decide +kernel) rfl rfl rfl (by decide +kernel)
set_option maxRecDepth 65536 in
theorem w_c11 : (Jvm.Cond.code ({ cls := "com/example/steplint/steplint/prove/SmtScript", name := "fresh", desc := "()I" } : Jvm.MethodName) prog_131_method_48_code (1 : Nat) (Option.some Jvm.ClassFile.FieldType.int)).before args0 about1 = true := code_word (m := ⟨2, 2⟩) (meth := k2m2) (c := k2c2) (by decide +kernel) rfl rfl rfl (by decide +kernel)
set_option maxRecDepth 65536 in
theorem w_c12 : (Jvm.Cond.code ({ cls := "com/example/steplint/steplint/prove/SmtScript", name := "said", desc := "()I" } : Jvm.MethodName) prog_131_method_4_code (1 : Nat) (Option.some Jvm.ClassFile.FieldType.int)).before args0 about1 = true := code_word (m := ⟨2, 1⟩) (meth := k2m1) (c := k2c1) (by decide +kernel) rfl rfl rfl (by decide +kernel)
set_option maxRecDepth 65536 in
theorem w_c13 : (Jvm.Cond.code ({ cls := "java/util/ArrayList", name := "size", desc := "()I" } : Jvm.MethodName) jdk_38_method_8_code (1 : Nat) (Option.some Jvm.ClassFile.FieldType.int)).before args0 about1 = true := code_word (m := ⟨12, 1⟩) (meth := k12m1) (c := k12c1) (by decide +kernel) rfl rfl rfl (by decide +kernel)
def codes1 : List Jvm.Cond := [Jvm.Cond.code x code maxLocals ret, Jvm.Cond.code ({ cls := "com/example/steplint/steplint/prove/SmtScript", name := "<init>", desc := "()V" } : Jvm.MethodName) prog_131_method_1_code (1 : Nat) (Option.none : Option Jvm.ClassFile.FieldType), Jvm.Cond.code ({ cls := "java/lang/Object", name := "<init>", desc := "()V" } : Jvm.MethodName) object_method_1_code (1 : Nat) (Option.none : Option Jvm.ClassFile.FieldType), Jvm.Cond.code ({ cls := "java/util/ArrayList", name := "<init>", desc := "()V" } : Jvm.MethodName) jdk_38_method_2_code (1 : Nat) (Option.none : Option Jvm.ClassFile.FieldType), Jvm.Cond.code ({ cls := "java/util/AbstractList", name := "<init>", desc := "()V" } : Jvm.MethodName) jdk_39_method_1_code (1 : Nat) (Option.none : Option Jvm.ClassFile.FieldType), Jvm.Cond.code ({ cls := "java/util/AbstractCollection", name := "<init>", desc := "()V" } : Jvm.MethodName) jdk_22_method_1_code (1 : Nat) (Option.none : Option Jvm.ClassFile.FieldType), Jvm.Cond.code ({ cls := "java/util/HashMap", name := "<init>", desc := "()V" } : Jvm.MethodName) jdk_69_method_7_code (1 : Nat) (Option.none : Option Jvm.ClassFile.FieldType), Jvm.Cond.code ({ cls := "java/util/AbstractMap", name := "<init>", desc := "()V" } : Jvm.MethodName) jdk_71_method_1_code (1 : Nat) (Option.none : Option Jvm.ClassFile.FieldType), Jvm.Cond.code ({ cls := "java/util/HashSet", name := "<init>", desc := "()V" } : Jvm.MethodName) jdk_93_method_1_code (1 : Nat) (Option.none : Option Jvm.ClassFile.FieldType), Jvm.Cond.code ({ cls := "java/util/AbstractSet", name := "<init>", desc := "()V" } : Jvm.MethodName) jdk_91_method_1_code (1 : Nat) (Option.none : Option Jvm.ClassFile.FieldType), Jvm.Cond.code ({ cls := "com/example/steplint/steplint/prove/SmtScript$SharedForms", name := "<init>", desc := "(Lcom/example/steplint/steplint/prove/SmtScript;)V" } : Jvm.MethodName) prog_135_method_1_code (2 : Nat) (Option.none : Option Jvm.ClassFile.FieldType), Jvm.Cond.code ({ cls := "com/example/steplint/steplint/prove/SmtScript", name := "fresh", desc := "()I" } : Jvm.MethodName) prog_131_method_48_code (1 : Nat) (Option.some Jvm.ClassFile.FieldType.int), Jvm.Cond.code ({ cls := "com/example/steplint/steplint/prove/SmtScript", name := "said", desc := "()I" } : Jvm.MethodName) prog_131_method_4_code (1 : Nat) (Option.some Jvm.ClassFile.FieldType.int), Jvm.Cond.code ({ cls := "java/util/ArrayList", name := "size", desc := "()I" } : Jvm.MethodName) jdk_38_method_8_code (1 : Nat) (Option.some Jvm.ClassFile.FieldType.int)]
set_option maxRecDepth 65536 in
theorem codes_eq : words1.filter isCode = codes1 := rfl
theorem w_codes : ∀ c ∈ words1.filter isCode, c.before args0 about1 = true := by
  rw [codes_eq]
  intro c hc
  simp only [codes1, List.mem_cons, List.not_mem_nil, or_false] at hc
  rcases hc with rfl | rfl | rfl | rfl | rfl | rfl | rfl | rfl | rfl | rfl | rfl | rfl | rfl | rfl
  · exact w_c0
  · exact w_c1
  · exact w_c2
  · exact w_c3
  · exact w_c4
  · exact w_c5
  · exact w_c6
  · exact w_c7
  · exact w_c8
  · exact w_c9
  · exact w_c10
  · exact w_c11
  · exact w_c12
  · exact w_c13
set_option maxRecDepth 65536 in
theorem w_t1 : (words1.take 24).all (fun c => isCode c || c.before args0 about1) = true := by decide +kernel
set_option maxRecDepth 65536 in
theorem w_t2 : ((words1.drop 24).take 24).all (fun c => isCode c || c.before args0 about1) = true := by decide +kernel
set_option maxRecDepth 65536 in
theorem w_t3 : (((words1.drop 24).drop 24).take 24).all (fun c => isCode c || c.before args0 about1) = true := by decide +kernel
set_option maxRecDepth 65536 in
theorem w_t4 : ((((words1.drop 24).drop 24).drop 24).take 24).all (fun c => isCode c || c.before args0 about1) = true := by decide +kernel
set_option maxRecDepth 65536 in
theorem w_t5 : (((((words1.drop 24).drop 24).drop 24).drop 24).take 24).all (fun c => isCode c || c.before args0 about1) = true := by decide +kernel
set_option maxRecDepth 65536 in
theorem w_t6 : (((((words1.drop 24).drop 24).drop 24).drop 24).drop 24).all (fun c => isCode c || c.before args0 about1) = true := by decide +kernel
theorem w_tables : (allAtoms (Jvm.Cond.code x code maxLocals ret :: tables_1)).before args0 about1 = true := by
  rw [allAtoms_all]
  show words1.all (fun c => c.before args0 about1) = true
  refine all_split ?_ w_codes
  rw [← List.take_append_drop 24 words1, List.all_append, w_t1, ← List.take_append_drop 24 (words1.drop 24), List.all_append, w_t2, ← List.take_append_drop 24 ((words1.drop 24).drop 24), List.all_append, w_t3, ← List.take_append_drop 24 (((words1.drop 24).drop 24).drop 24), List.all_append, w_t4, ← List.take_append_drop 24 ((((words1.drop 24).drop 24).drop 24).drop 24), List.all_append, w_t5, w_t6]
  rfl
set_option maxRecDepth 65536 in
theorem w_rest : rest_1_c.before args0 about1 = true := by decide +kernel
set_option maxRecDepth 65536 in
theorem w_case : (Jvm.Cond.and given_1 narrow_1).before args0 about1 = true := by decide +kernel
theorem w_applies : (headSpec (Jvm.Cond.code x code maxLocals ret :: tables_1) room_1).applies x e0.platform about1 = true :=
  (Spec.applies_iff w_frames).mpr ⟨w_running, w_runnable, w_alone, w_named, w_hears, w_ripe, w_room, w_tables⟩
theorem atStart : AtStart classFile x code maxLocals ret World_1 tables_1 room_1 Calls_1 rest_1 Pre_1 launch0 p0 e0 about1 theMethod args0 below0 :=
  ⟨lists_1, trivial, launch0.admits_env _ _ _, launch0.least_env, fairChoices_fair.cas, fairChoices_fair.clock, w_frames, w_args, w_heap, w_applies, trivial, w_rest, w_case⟩
end start1
theorem witness_1 : WitnessClaimed_1 := ⟨start1.p0, start1.e0, start1.about1, start1.theMethod, start1.args0, start1.below0, start1.atStart⟩
end Jvm.Pilot.@@N@@

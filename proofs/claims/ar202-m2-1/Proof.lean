import JvmDerived
import JvmDerived.Pilot.@@N@@Statement
import JvmDerived.Pilot.@@N@@Code
set_option linter.unusedVariables false
set_option linter.unusedSimpArgs false
namespace Jvm.RoadKit
open Sem ClassFile Op Lib Jvm.Stand Jvm.Free Jvm.LawKit
section New
variable {p : Program} {l : Launch} {e : Env} {R : Room} {s : State} {m : MethodId} {args : Array Value} {below : List Frame} {meth : Method} {c : Code} {T : State} {locs : List Loc} {cells slots : Nat}
theorem retI (X : Stand p l e R s m args below meth c T locs cells slots) (hx : p.tables.exec = Jvm.exec) {pc : Nat} {Ls : Array Slot} {z : Int32} {rest : List Value} (hret : meth.sig.returnType = some .int) (hd : decode c.code pc = .ok (.ireturn, 1)) {fs : List Frame}
    (hl : ∀ (f : JFrame) (acts : List Action), f.method = m → f.locked = none → f.entered = [] → (doReturn e (T.setTop f) acts (some (.int z))).1 = T.setFrames fs) : Steps p.tables e below (T.setTop (mkF m pc Ls (.int z :: rest))) (T.setFrames fs) := by
  have hm' : T.vm.method? m = some meth := X.method'
  have hn : narrow .int (.int z) = .int z := rfl
  show Steps p.tables e below (T.setTop { method := m, pc := pc, locals := Ls, stack := _ :: rest, locked := none }) _
  jvm_step X.here [X.here.top, hx, hd, hm', hret, hn]
  first | (intro acts; rw [hl _ acts rfl rfl rfl]) | rw [hl _ _ rfl rfl rfl]
  exact Steps.refl _
end New
end Jvm.RoadKit
namespace Jvm.Pilot.@@N@@
open Jvm Jvm.ClassFile Sem Op Lib Jvm.Free Jvm.Stand Jvm.LawKit Jvm.RoadKit Bundle Jvm.Pilot.@@N@@.Jvm.D
def Bat (Z : State) (n0 : Nat) (h : Heap) (a : Nat) (ll ff ss le tt bb : Nat) (kl kf ks ke kt kb : ClassId) (n rc fc x f0 f1 s0 l0 : Int32) : Prop :=
  (n0 ≤ a ∧ a < ll ∧ ll < ff ∧ ff < ss ∧ ss < le ∧ le < tt ∧ tt < bb) ∧ Exa Z h a "com/example/interstice/interstice/CsvScanner$Batch" ∧
  (Fld Z h a "com/example/interstice/interstice/CsvScanner$Batch" "lines" "[I" (.ref ll) ∧ Fld Z h a "com/example/interstice/interstice/CsvScanner$Batch" "firstFields" "[I" (.ref ff) ∧ Fld Z h a "com/example/interstice/interstice/CsvScanner$Batch" "starts" "[I" (.ref ss) ∧ Fld Z h a "com/example/interstice/interstice/CsvScanner$Batch" "lengths" "[I" (.ref le) ∧ Fld Z h a "com/example/interstice/interstice/CsvScanner$Batch" "texts" "[Ljava/lang/String;" (.ref tt) ∧ Fld Z h a "com/example/interstice/interstice/CsvScanner$Batch" "bytes" "[B" (.ref bb)) ∧
  (Fld Z h a "com/example/interstice/interstice/CsvScanner$Batch" "records" "I" (.int rc) ∧ Fld Z h a "com/example/interstice/interstice/CsvScanner$Batch" "fields" "I" (.int fc)) ∧
  (Arv Z h ll kl .int (1024 : Int32) [.int x] (.int (0 : Int32)) ∧ Arv Z h ff kf .int (1025 : Int32) [.int f0, .int f1] (.int (0 : Int32)) ∧ Arv Z h ss ks .int (4096 : Int32) [.int s0] (.int (0 : Int32)) ∧ Arv Z h le ke .int (4096 : Int32) [.int l0] (.int (0 : Int32)) ∧ Arv Z h tt kt (.object "java/lang/String") (4096 : Int32) [.null] .null ∧ Arv Z h bb kb .byte n [] (.int (0 : Int32)))
theorem Bat.setL {Z : State} {n0 : Nat} {h h' : Heap} {a : Nat} {ll ff ss le tt bb : Nat} {kl kf ks ke kt kb : ClassId} {n rc fc x f0 f1 s0 l0 : Int32} {y : Int32} (B0 : Bat Z n0 h a ll ff ss le tt bb kl kf ks ke kt kb n rc fc x f0 f1 s0 l0) (W : Wr h h' ll 0 (.int y)) : Bat Z n0 h' a ll ff ss le tt bb kl kf ks ke kt kb n rc fc y f0 f1 s0 l0 := by
  obtain ⟨⟨o00, o10, o20, o30, o40, o50, o60⟩, E_0, ⟨Fl_0, Ff_0, Fs_0, Fe_0, Ft_0, Fb_0⟩, ⟨Fr_0, Fc_0⟩, ⟨Al_0, Af_0, As_0, Ae_0, At_0, Ab_0⟩⟩ := id B0
  obtain ⟨c, Ar, q, S, N, H, G⟩ := Al_0
  exact ⟨⟨o00, o10, o20, o30, o40, o50, o60⟩, E_0.wr W, ⟨Fl_0.other W (Or.inl (by omega : a ≠ ll)), Ff_0.other W (Or.inl (by omega : a ≠ ll)), Fs_0.other W (Or.inl (by omega : a ≠ ll)), Fe_0.other W (Or.inl (by omega : a ≠ ll)), Ft_0.other W (Or.inl (by omega : a ≠ ll)), Fb_0.other W (Or.inl (by omega : a ≠ ll))⟩, ⟨Fr_0.other W (Or.inl (by omega : a ≠ ll)), Fc_0.other W (Or.inl (by omega : a ≠ ll))⟩, ⟨Arv.set Ar q S N H G rfl (j := (0 : Int32)) W 0 rfl (Nat.le_of_ble_eq_true rfl), Af_0.other W (by omega : ff ≠ ll), As_0.other W (by omega : ss ≠ ll), Ae_0.other W (by omega : le ≠ ll), At_0.other W (by omega : tt ≠ ll), Ab_0.other W (by omega : bb ≠ ll)⟩⟩
theorem Bat.setF0 {Z : State} {n0 : Nat} {h h' : Heap} {a : Nat} {ll ff ss le tt bb : Nat} {kl kf ks ke kt kb : ClassId} {n rc fc x f0 f1 s0 l0 : Int32} {y : Int32} (B0 : Bat Z n0 h a ll ff ss le tt bb kl kf ks ke kt kb n rc fc x f0 f1 s0 l0) (W : Wr h h' ff 0 (.int y)) : Bat Z n0 h' a ll ff ss le tt bb kl kf ks ke kt kb n rc fc x y f1 s0 l0 := by
  obtain ⟨⟨o00, o10, o20, o30, o40, o50, o60⟩, E_0, ⟨Fl_0, Ff_0, Fs_0, Fe_0, Ft_0, Fb_0⟩, ⟨Fr_0, Fc_0⟩, ⟨Al_0, Af_0, As_0, Ae_0, At_0, Ab_0⟩⟩ := id B0
  obtain ⟨c, Ar, q, S, N, H, G⟩ := Af_0
  exact ⟨⟨o00, o10, o20, o30, o40, o50, o60⟩, E_0.wr W, ⟨Fl_0.other W (Or.inl (by omega : a ≠ ff)), Ff_0.other W (Or.inl (by omega : a ≠ ff)), Fs_0.other W (Or.inl (by omega : a ≠ ff)), Fe_0.other W (Or.inl (by omega : a ≠ ff)), Ft_0.other W (Or.inl (by omega : a ≠ ff)), Fb_0.other W (Or.inl (by omega : a ≠ ff))⟩, ⟨Fr_0.other W (Or.inl (by omega : a ≠ ff)), Fc_0.other W (Or.inl (by omega : a ≠ ff))⟩, ⟨Al_0.other W (by omega : ll ≠ ff), Arv.set Ar q S N H G rfl (j := (0 : Int32)) W 0 rfl (Nat.le_of_ble_eq_true rfl), As_0.other W (by omega : ss ≠ ff), Ae_0.other W (by omega : le ≠ ff), At_0.other W (by omega : tt ≠ ff), Ab_0.other W (by omega : bb ≠ ff)⟩⟩
theorem Bat.setF1 {Z : State} {n0 : Nat} {h h' : Heap} {a : Nat} {ll ff ss le tt bb : Nat} {kl kf ks ke kt kb : ClassId} {n rc fc x f0 f1 s0 l0 : Int32} {y : Int32} (B0 : Bat Z n0 h a ll ff ss le tt bb kl kf ks ke kt kb n rc fc x f0 f1 s0 l0) (W : Wr h h' ff 1 (.int y)) : Bat Z n0 h' a ll ff ss le tt bb kl kf ks ke kt kb n rc fc x f0 y s0 l0 := by
  obtain ⟨⟨o00, o10, o20, o30, o40, o50, o60⟩, E_0, ⟨Fl_0, Ff_0, Fs_0, Fe_0, Ft_0, Fb_0⟩, ⟨Fr_0, Fc_0⟩, ⟨Al_0, Af_0, As_0, Ae_0, At_0, Ab_0⟩⟩ := id B0
  obtain ⟨c, Ar, q, S, N, H, G⟩ := Af_0
  exact ⟨⟨o00, o10, o20, o30, o40, o50, o60⟩, E_0.wr W, ⟨Fl_0.other W (Or.inl (by omega : a ≠ ff)), Ff_0.other W (Or.inl (by omega : a ≠ ff)), Fs_0.other W (Or.inl (by omega : a ≠ ff)), Fe_0.other W (Or.inl (by omega : a ≠ ff)), Ft_0.other W (Or.inl (by omega : a ≠ ff)), Fb_0.other W (Or.inl (by omega : a ≠ ff))⟩, ⟨Fr_0.other W (Or.inl (by omega : a ≠ ff)), Fc_0.other W (Or.inl (by omega : a ≠ ff))⟩, ⟨Al_0.other W (by omega : ll ≠ ff), Arv.set Ar q S N H G rfl (j := (1 : Int32)) W 1 rfl (Nat.le_of_ble_eq_true rfl), As_0.other W (by omega : ss ≠ ff), Ae_0.other W (by omega : le ≠ ff), At_0.other W (by omega : tt ≠ ff), Ab_0.other W (by omega : bb ≠ ff)⟩⟩
theorem Bat.setS {Z : State} {n0 : Nat} {h h' : Heap} {a : Nat} {ll ff ss le tt bb : Nat} {kl kf ks ke kt kb : ClassId} {n rc fc x f0 f1 s0 l0 : Int32} {y : Int32} (B0 : Bat Z n0 h a ll ff ss le tt bb kl kf ks ke kt kb n rc fc x f0 f1 s0 l0) (W : Wr h h' ss 0 (.int y)) : Bat Z n0 h' a ll ff ss le tt bb kl kf ks ke kt kb n rc fc x f0 f1 y l0 := by
  obtain ⟨⟨o00, o10, o20, o30, o40, o50, o60⟩, E_0, ⟨Fl_0, Ff_0, Fs_0, Fe_0, Ft_0, Fb_0⟩, ⟨Fr_0, Fc_0⟩, ⟨Al_0, Af_0, As_0, Ae_0, At_0, Ab_0⟩⟩ := id B0
  obtain ⟨c, Ar, q, S, N, H, G⟩ := As_0
  exact ⟨⟨o00, o10, o20, o30, o40, o50, o60⟩, E_0.wr W, ⟨Fl_0.other W (Or.inl (by omega : a ≠ ss)), Ff_0.other W (Or.inl (by omega : a ≠ ss)), Fs_0.other W (Or.inl (by omega : a ≠ ss)), Fe_0.other W (Or.inl (by omega : a ≠ ss)), Ft_0.other W (Or.inl (by omega : a ≠ ss)), Fb_0.other W (Or.inl (by omega : a ≠ ss))⟩, ⟨Fr_0.other W (Or.inl (by omega : a ≠ ss)), Fc_0.other W (Or.inl (by omega : a ≠ ss))⟩, ⟨Al_0.other W (by omega : ll ≠ ss), Af_0.other W (by omega : ff ≠ ss), Arv.set Ar q S N H G rfl (j := (0 : Int32)) W 0 rfl (Nat.le_of_ble_eq_true rfl), Ae_0.other W (by omega : le ≠ ss), At_0.other W (by omega : tt ≠ ss), Ab_0.other W (by omega : bb ≠ ss)⟩⟩
theorem Bat.setE {Z : State} {n0 : Nat} {h h' : Heap} {a : Nat} {ll ff ss le tt bb : Nat} {kl kf ks ke kt kb : ClassId} {n rc fc x f0 f1 s0 l0 : Int32} {y : Int32} (B0 : Bat Z n0 h a ll ff ss le tt bb kl kf ks ke kt kb n rc fc x f0 f1 s0 l0) (W : Wr h h' le 0 (.int y)) : Bat Z n0 h' a ll ff ss le tt bb kl kf ks ke kt kb n rc fc x f0 f1 s0 y := by
  obtain ⟨⟨o00, o10, o20, o30, o40, o50, o60⟩, E_0, ⟨Fl_0, Ff_0, Fs_0, Fe_0, Ft_0, Fb_0⟩, ⟨Fr_0, Fc_0⟩, ⟨Al_0, Af_0, As_0, Ae_0, At_0, Ab_0⟩⟩ := id B0
  obtain ⟨c, Ar, q, S, N, H, G⟩ := Ae_0
  exact ⟨⟨o00, o10, o20, o30, o40, o50, o60⟩, E_0.wr W, ⟨Fl_0.other W (Or.inl (by omega : a ≠ le)), Ff_0.other W (Or.inl (by omega : a ≠ le)), Fs_0.other W (Or.inl (by omega : a ≠ le)), Fe_0.other W (Or.inl (by omega : a ≠ le)), Ft_0.other W (Or.inl (by omega : a ≠ le)), Fb_0.other W (Or.inl (by omega : a ≠ le))⟩, ⟨Fr_0.other W (Or.inl (by omega : a ≠ le)), Fc_0.other W (Or.inl (by omega : a ≠ le))⟩, ⟨Al_0.other W (by omega : ll ≠ le), Af_0.other W (by omega : ff ≠ le), As_0.other W (by omega : ss ≠ le), Arv.set Ar q S N H G rfl (j := (0 : Int32)) W 0 rfl (Nat.le_of_ble_eq_true rfl), At_0.other W (by omega : tt ≠ le), Ab_0.other W (by omega : bb ≠ le)⟩⟩
theorem Bat.setT {Z : State} {n0 : Nat} {h h' : Heap} {a : Nat} {ll ff ss le tt bb : Nat} {kl kf ks ke kt kb : ClassId} {n rc fc x f0 f1 s0 l0 : Int32} (B0 : Bat Z n0 h a ll ff ss le tt bb kl kf ks ke kt kb n rc fc x f0 f1 s0 l0) (W : Wr h h' tt 0 .null) : Bat Z n0 h' a ll ff ss le tt bb kl kf ks ke kt kb n rc fc x f0 f1 s0 l0 := by
  obtain ⟨⟨o00, o10, o20, o30, o40, o50, o60⟩, E_0, ⟨Fl_0, Ff_0, Fs_0, Fe_0, Ft_0, Fb_0⟩, ⟨Fr_0, Fc_0⟩, ⟨Al_0, Af_0, As_0, Ae_0, At_0, Ab_0⟩⟩ := id B0
  obtain ⟨c, Ar, q, S, N, H, G⟩ := At_0
  exact ⟨⟨o00, o10, o20, o30, o40, o50, o60⟩, E_0.wr W, ⟨Fl_0.other W (Or.inl (by omega : a ≠ tt)), Ff_0.other W (Or.inl (by omega : a ≠ tt)), Fs_0.other W (Or.inl (by omega : a ≠ tt)), Fe_0.other W (Or.inl (by omega : a ≠ tt)), Ft_0.other W (Or.inl (by omega : a ≠ tt)), Fb_0.other W (Or.inl (by omega : a ≠ tt))⟩, ⟨Fr_0.other W (Or.inl (by omega : a ≠ tt)), Fc_0.other W (Or.inl (by omega : a ≠ tt))⟩, ⟨Al_0.other W (by omega : ll ≠ tt), Af_0.other W (by omega : ff ≠ tt), As_0.other W (by omega : ss ≠ tt), Ae_0.other W (by omega : le ≠ tt), Arv.set Ar q S N H G rfl (j := (0 : Int32)) W 0 rfl (Nat.le_of_ble_eq_true rfl), Ab_0.other W (by omega : bb ≠ tt)⟩⟩
theorem Bat.setR {Z : State} {n0 : Nat} {h h' : Heap} {a : Nat} {ll ff ss le tt bb : Nat} {kl kf ks ke kt kb : ClassId} {n rc fc x f0 f1 s0 l0 : Int32} {y : Int32} {a0 : Array Value} (hw : ∀ d ∈ tables_1, d.before a0 Z = true) (B0 : Bat Z n0 h a ll ff ss le tt bb kl kf ks ke kt kb n rc fc x f0 f1 s0 l0) (W : Wr h h' a (Jvm.RoadKit.slotOf Z "com/example/interstice/interstice/CsvScanner$Batch" "records" "I") (.int y)) : Bat Z n0 h' a ll ff ss le tt bb kl kf ks ke kt kb n y fc x f0 f1 s0 l0 := by
  obtain ⟨⟨o00, o10, o20, o30, o40, o50, o60⟩, E_0, ⟨Fl_0, Ff_0, Fs_0, Fe_0, Ft_0, Fb_0⟩, ⟨Fr_0, Fc_0⟩, ⟨Al_0, Af_0, As_0, Ae_0, At_0, Ab_0⟩⟩ := id B0
  exact ⟨⟨o00, o10, o20, o30, o40, o50, o60⟩, E_0.wr W, ⟨Fl_0.other W (Or.inr (Jvm.RoadKit.slot_ne (Or.inl (hw _ (List.mem_of_getElem? (i := 11) rfl))) (Or.inl (hw _ (List.mem_of_getElem? (i := 41) rfl))) (by decide) (t := (.array .int)) (t' := .int) (by decide) (by decide))), Ff_0.other W (Or.inr (Jvm.RoadKit.slot_ne (Or.inl (hw _ (List.mem_of_getElem? (i := 13) rfl))) (Or.inl (hw _ (List.mem_of_getElem? (i := 41) rfl))) (by decide) (t := (.array .int)) (t' := .int) (by decide) (by decide))), Fs_0.other W (Or.inr (Jvm.RoadKit.slot_ne (Or.inl (hw _ (List.mem_of_getElem? (i := 15) rfl))) (Or.inl (hw _ (List.mem_of_getElem? (i := 41) rfl))) (by decide) (t := (.array .int)) (t' := .int) (by decide) (by decide))), Fe_0.other W (Or.inr (Jvm.RoadKit.slot_ne (Or.inl (hw _ (List.mem_of_getElem? (i := 17) rfl))) (Or.inl (hw _ (List.mem_of_getElem? (i := 41) rfl))) (by decide) (t := (.array .int)) (t' := .int) (by decide) (by decide))), Ft_0.other W (Or.inr (Jvm.RoadKit.slot_ne (Or.inl (hw _ (List.mem_of_getElem? (i := 21) rfl))) (Or.inl (hw _ (List.mem_of_getElem? (i := 41) rfl))) (by decide) (t := (.array (.object "java/lang/String"))) (t' := .int) (by decide) (by decide))), Fb_0.other W (Or.inr (Jvm.RoadKit.slot_ne (Or.inl (hw _ (List.mem_of_getElem? (i := 34) rfl))) (Or.inl (hw _ (List.mem_of_getElem? (i := 41) rfl))) (by decide) (t := (.array .byte)) (t' := .int) (by decide) (by decide)))⟩, ⟨Fr_0.same W, Fc_0.other W (Or.inr (Jvm.RoadKit.slot_ne (Or.inl (hw _ (List.mem_of_getElem? (i := 43) rfl))) (Or.inl (hw _ (List.mem_of_getElem? (i := 41) rfl))) (by decide) (t := .int) (t' := .int) (by decide) (by decide)))⟩, ⟨Al_0.other W (by omega : ll ≠ a), Af_0.other W (by omega : ff ≠ a), As_0.other W (by omega : ss ≠ a), Ae_0.other W (by omega : le ≠ a), At_0.other W (by omega : tt ≠ a), Ab_0.other W (by omega : bb ≠ a)⟩⟩
theorem Bat.setC {Z : State} {n0 : Nat} {h h' : Heap} {a : Nat} {ll ff ss le tt bb : Nat} {kl kf ks ke kt kb : ClassId} {n rc fc x f0 f1 s0 l0 : Int32} {y : Int32} {a0 : Array Value} (hw : ∀ d ∈ tables_1, d.before a0 Z = true) (B0 : Bat Z n0 h a ll ff ss le tt bb kl kf ks ke kt kb n rc fc x f0 f1 s0 l0) (W : Wr h h' a (Jvm.RoadKit.slotOf Z "com/example/interstice/interstice/CsvScanner$Batch" "fields" "I") (.int y)) : Bat Z n0 h' a ll ff ss le tt bb kl kf ks ke kt kb n rc y x f0 f1 s0 l0 := by
  obtain ⟨⟨o00, o10, o20, o30, o40, o50, o60⟩, E_0, ⟨Fl_0, Ff_0, Fs_0, Fe_0, Ft_0, Fb_0⟩, ⟨Fr_0, Fc_0⟩, ⟨Al_0, Af_0, As_0, Ae_0, At_0, Ab_0⟩⟩ := id B0
  exact ⟨⟨o00, o10, o20, o30, o40, o50, o60⟩, E_0.wr W, ⟨Fl_0.other W (Or.inr (Jvm.RoadKit.slot_ne (Or.inl (hw _ (List.mem_of_getElem? (i := 11) rfl))) (Or.inl (hw _ (List.mem_of_getElem? (i := 43) rfl))) (by decide) (t := (.array .int)) (t' := .int) (by decide) (by decide))), Ff_0.other W (Or.inr (Jvm.RoadKit.slot_ne (Or.inl (hw _ (List.mem_of_getElem? (i := 13) rfl))) (Or.inl (hw _ (List.mem_of_getElem? (i := 43) rfl))) (by decide) (t := (.array .int)) (t' := .int) (by decide) (by decide))), Fs_0.other W (Or.inr (Jvm.RoadKit.slot_ne (Or.inl (hw _ (List.mem_of_getElem? (i := 15) rfl))) (Or.inl (hw _ (List.mem_of_getElem? (i := 43) rfl))) (by decide) (t := (.array .int)) (t' := .int) (by decide) (by decide))), Fe_0.other W (Or.inr (Jvm.RoadKit.slot_ne (Or.inl (hw _ (List.mem_of_getElem? (i := 17) rfl))) (Or.inl (hw _ (List.mem_of_getElem? (i := 43) rfl))) (by decide) (t := (.array .int)) (t' := .int) (by decide) (by decide))), Ft_0.other W (Or.inr (Jvm.RoadKit.slot_ne (Or.inl (hw _ (List.mem_of_getElem? (i := 21) rfl))) (Or.inl (hw _ (List.mem_of_getElem? (i := 43) rfl))) (by decide) (t := (.array (.object "java/lang/String"))) (t' := .int) (by decide) (by decide))), Fb_0.other W (Or.inr (Jvm.RoadKit.slot_ne (Or.inl (hw _ (List.mem_of_getElem? (i := 34) rfl))) (Or.inl (hw _ (List.mem_of_getElem? (i := 43) rfl))) (by decide) (t := (.array .byte)) (t' := .int) (by decide) (by decide)))⟩, ⟨Fr_0.other W (Or.inr (Jvm.RoadKit.slot_ne (Or.inl (hw _ (List.mem_of_getElem? (i := 41) rfl))) (Or.inl (hw _ (List.mem_of_getElem? (i := 43) rfl))) (by decide) (t := .int) (t' := .int) (by decide) (by decide))), Fc_0.same W⟩, ⟨Al_0.other W (by omega : ll ≠ a), Af_0.other W (by omega : ff ≠ a), As_0.other W (by omega : ss ≠ a), Ae_0.other W (by omega : le ≠ a), At_0.other W (by omega : tt ≠ a), Ab_0.other W (by omega : bb ≠ a)⟩⟩
theorem Bat.size {Z : State} {n0 : Nat} {h : Heap} {a : Nat} {ll ff ss le tt bb : Nat} {kl kf ks ke kt kb : ClassId} {n rc fc x f0 f1 s0 l0 : Int32} (B0 : Bat Z n0 h a ll ff ss le tt bb kl kf ks ke kt kb n rc fc x f0 f1 s0 l0) : n0 ≤ h.size := by
  obtain ⟨⟨o00, o10, o20, o30, o40, o50, o60⟩, E_0, ⟨Fl_0, Ff_0, Fs_0, Fe_0, Ft_0, Fb_0⟩, ⟨Fr_0, Fc_0⟩, ⟨Al_0, Af_0, As_0, Ae_0, At_0, Ab_0⟩⟩ := id B0
  exact Nat.le_trans o00 (Nat.le_of_lt E_0.lt)
theorem own_n (p : Int32) : ¬ (p &&& (255 : Int32)) < 0 ∧ (p &&& (255 : Int32)).toNatClampNeg ≤ 255 := by
  have hm : (p &&& (255 : Int32)).toInt = p.toInt % 256 := c_mask p 255 8 (by decide) (by decide)
  have e0 : (0 : Int32).toInt = 0 := rfl
  simp only [Int32.lt_iff_toInt_lt, Int32.toNatClampNeg, e0]
  omega
theorem d3_0 : decode prog_16_method_3_code 0 = .ok (.aload_n 0, 1) := by decide +kernel
theorem d3_1 : decode prog_16_method_3_code 1 = .ok (.getfield 46, 3) := by decide +kernel
theorem d3_4 : decode prog_16_method_3_code 4 = .ok (.iconst 1, 1) := by decide +kernel
theorem d3_5 : decode prog_16_method_3_code 5 = .ok (.iadd, 1) := by decide +kernel
theorem d3_6 : decode prog_16_method_3_code 6 = .ok (.aload_n 0, 1) := by decide +kernel
theorem d3_7 : decode prog_16_method_3_code 7 = .ok (.getfield 7, 3) := by decide +kernel
theorem d3_10 : decode prog_16_method_3_code 10 = .ok (.arraylength, 1) := by decide +kernel
theorem d3_11 : decode prog_16_method_3_code 11 = .ok (.if_icmp .ne 37, 3) := by decide +kernel
theorem d3_48 : decode prog_16_method_3_code 48 = .ok (.aload_n 0, 1) := by decide +kernel
theorem d3_49 : decode prog_16_method_3_code 49 = .ok (.getfield 7, 3) := by decide +kernel
theorem d3_52 : decode prog_16_method_3_code 52 = .ok (.aload_n 0, 1) := by decide +kernel
theorem d3_53 : decode prog_16_method_3_code 53 = .ok (.getfield 46, 3) := by decide +kernel
theorem d3_56 : decode prog_16_method_3_code 56 = .ok (.iload_n 1, 1) := by decide +kernel
theorem d3_57 : decode prog_16_method_3_code 57 = .ok (.iastore, 1) := by decide +kernel
theorem d3_58 : decode prog_16_method_3_code 58 = .ok (.aload_n 0, 1) := by decide +kernel
theorem d3_59 : decode prog_16_method_3_code 59 = .ok (.getfield 13, 3) := by decide +kernel
theorem d3_62 : decode prog_16_method_3_code 62 = .ok (.aload_n 0, 1) := by decide +kernel
theorem d3_63 : decode prog_16_method_3_code 63 = .ok (.getfield 46, 3) := by decide +kernel
theorem d3_66 : decode prog_16_method_3_code 66 = .ok (.aload_n 0, 1) := by decide +kernel
theorem d3_67 : decode prog_16_method_3_code 67 = .ok (.getfield 50, 3) := by decide +kernel
theorem d3_70 : decode prog_16_method_3_code 70 = .ok (.iastore, 1) := by decide +kernel
theorem d3_71 : decode prog_16_method_3_code 71 = .ok (.return_, 1) := by decide +kernel
theorem pn_3 : plainName "com/example/interstice/interstice/CsvScanner$Batch" = true := by first | (simp [plainName, overriddenIn]; done) | decide +kernel
theorem ef_3 (m : MethodId) (x0 : Addr) (x1 : Int32) : entryFrame m #[(.ref x0), (.int x1)] 3 = mkF m 0 #[.val (.ref x0), .val (.int x1), .unset] [] := by first | (simp [entryFrame, mkF, argsToLocals, Value.category]; done) | rfl
def Q3 (Z : State) (a1 : Addr) (p2 : Int32) (ll ff ss le tt bb : Nat) (kl kf ks ke kt kb : ClassId) (n x f0 f1 s0 l0 : Int32) (h0 : Heap) (n0 : Nat) (v : Option Value) (h : Heap) (L : List Loc) : Prop := v = none ∧ Fr n0 L ∧ Bat Z n0 h a1 ll ff ss le tt bb kl kf ks ke kt kb n (0 : Int32) (0 : Int32) p2 (0 : Int32) f1 s0 l0
set_option maxRecDepth 65536 in
set_option maxHeartbeats 40000000 in
theorem rm3 (l : Launch) (Z : State) (a0 : Array Value) (hw : ∀ d ∈ tables_1, d.before a0 Z = true) (ws : List Jvm.Cond) (a1 : Addr) (p2 : Int32) (ll ff ss le tt bb : Nat) (kl kf ks ke kt kb : ClassId) (n x f0 f1 s0 l0 : Int32) (h0 : Heap) (n0 : Nat) (Z0 : n0 ≤ h0.size) (B0 : Bat Z n0 h0 a1 ll ff ss le tt bb kl kf ks ke kt kb n (0 : Int32) (0 : Int32) x f0 f1 s0 l0) :
    MetFree l (⟨"com/example/interstice/interstice/CsvScanner$Batch", "startRecord", "(I)V"⟩ : MethodName) (head1 (Jvm.Cond.code (⟨"com/example/interstice/interstice/CsvScanner$Batch", "startRecord", "(I)V"⟩ : MethodName) prog_16_method_3_code 3 none :: ws) ({ frames := 0, cells := 0, slots := 0, locals := 0 } : Room)) (fun a U => a = #[(.ref a1), (.int p2)] ∧ Z.Warmed39 U.vm ∧ U.heap = h0) (fun _ _ _ _ _ => True) (fun _ U o U' => ∃ v L, o = .returned v ∧ Q3 Z a1 p2 ll ff ss le tt bb kl kf ks ke kt kb n x f0 f1 s0 l0 h0 n0 v U'.heap L ∧ FrameEnd U o U' L ({ frames := 0, cells := 0, slots := 0, locals := 0 } : Room).cells ({ frames := 0, cells := 0, slots := 0, locals := 0 } : Room).slots) := by
  refine MetFree.of_bodySF (plainFor_of_name pn_3) hisR ?_
  intro p e s m args below meth c s₁ Bd hml0 hP hK
  obtain ⟨rfl, hZ, hh⟩ := hP
  have hx := Bd.exec
  have hby := Bd.bytes
  have hml : c.maxLocals = 3 := hml0
  have hown : s.vm.findClass "com/example/interstice/interstice/CsvScanner$Batch" = some m.cls := findClass_of_methodNamed Bd.named
  have hnm := (name_of_methodNamed Bd.named Bd.method).1
  have X0 : Stand p l e ({ frames := 0, cells := 0, slots := 0, locals := 0 } : Room) s m #[(.ref a1), (.int p2)] below meth c s₁ [] 0 0 := Stand.of_body Bd
  have e0 : s₁.heap = h0 := by rw [← hh, Bd.state]; rfl
  have N0 := Fr.nil n0
  have pre0 : ∀ t, Steps p.tables e below (s₁.setTop (mkF m 0 #[.val (.ref a1), .val (.int p2), .unset] [])) t → Steps p.tables e below (s₁.setTop (entryFrame m #[(.ref a1), (.int p2)] 3)) t := fun t k => castTop (ef_3 m a1 p2) k
  -- 3. LAWS
  obtain ⟨⟨o00, o10, o20, o30, o40, o50, o60⟩, E_0, ⟨Fl_0, Ff_0, Fs_0, Fe_0, Ft_0, Fb_0⟩, ⟨Fr_0, Fc_0⟩, ⟨Al_0, Af_0, As_0, Ae_0, At_0, Ab_0⟩⟩ := id B0
  obtain ⟨c_l0, Ar_l0, q_l0, S_l0, N_l0, H_l0, G_l0⟩ := id Al_0
  obtain ⟨T4, X4, e4, st4⟩ := getF X0 hx hZ hown (host := "") (Or.inl (hw _ (List.mem_of_getElem? (i := 40) rfl))) Via.refl e0 Fr_0 (g := (mkF m 1 #[.val (.ref a1), .val (.int p2), .unset] [(.ref a1)])) rfl rfl (hb hby d3_1)
  obtain ⟨T6, X6, e6, st6⟩ := getF X4 hx hZ hown (host := "") (Or.inl (hw _ (List.mem_of_getElem? (i := 10) rfl))) Via.refl e4 Fl_0 (g := (mkF m 7 #[.val (.ref a1), .val (.int p2), .unset] [(.ref a1), (.int ((0 : Int32) + (1 : Int32)))])) rfl rfl (hb hby d3_7)
  obtain ⟨T7, X7, e7, st7⟩ := getF X6 hx hZ hown (host := "") (Or.inl (hw _ (List.mem_of_getElem? (i := 10) rfl))) Via.refl e6 Fl_0 (g := (mkF m 49 #[.val (.ref a1), .val (.int p2), .unset] [(.ref a1)])) rfl rfl (hb hby d3_49)
  obtain ⟨T8, X8, e8, st8⟩ := getF X7 hx hZ hown (host := "") (Or.inl (hw _ (List.mem_of_getElem? (i := 40) rfl))) Via.refl e7 Fr_0 (g := (mkF m 53 #[.val (.ref a1), .val (.int p2), .unset] [(.ref a1), (.ref ll)])) rfl rfl (hb hby d3_53)
  obtain ⟨c_57, Ar_57, q_57, S_57, N_57, H_57, G_57⟩ := id Al_0
  have hin57 := inb_of (j := (0 : Int32)) S_57 ⟨by decide, by decide⟩
  obtain ⟨T9, h9, X9, e9, W9, st9⟩ := stI X8 hx hZ e8 Ar_57 (j := (0 : Int32)) hin57 (g := (mkF m 57 #[.val (.ref a1), .val (.int p2), .unset] [(.int p2), (.int (0 : Int32)), (.ref ll)])) rfl rfl (hb hby d3_57)
  have B9 : Bat Z n0 h9 a1 ll ff ss le tt bb kl kf ks ke kt kb n (0 : Int32) (0 : Int32) p2 f0 f1 s0 l0 := Bat.setL B0 W9
  obtain ⟨⟨o09, o19, o29, o39, o49, o59, o69⟩, E_9, ⟨Fl_9, Ff_9, Fs_9, Fe_9, Ft_9, Fb_9⟩, ⟨Fr_9, Fc_9⟩, ⟨Al_9, Af_9, As_9, Ae_9, At_9, Ab_9⟩⟩ := id B9
  have N9 := Fr.snoc X9 N0 (by omega : n0 ≤ ll)
  obtain ⟨T11, X11, e11, st11⟩ := getF X9 hx hZ hown (host := "") (Or.inl (hw _ (List.mem_of_getElem? (i := 12) rfl))) Via.refl e9 Ff_9 (g := (mkF m 59 #[.val (.ref a1), .val (.int p2), .unset] [(.ref a1)])) rfl rfl (hb hby d3_59)
  obtain ⟨T12, X12, e12, st12⟩ := getF X11 hx hZ hown (host := "") (Or.inl (hw _ (List.mem_of_getElem? (i := 40) rfl))) Via.refl e11 Fr_9 (g := (mkF m 63 #[.val (.ref a1), .val (.int p2), .unset] [(.ref a1), (.ref ff)])) rfl rfl (hb hby d3_63)
  obtain ⟨T14, X14, e14, st14⟩ := getF X12 hx hZ hown (host := "") (Or.inl (hw _ (List.mem_of_getElem? (i := 42) rfl))) Via.refl e12 Fc_9 (g := (mkF m 67 #[.val (.ref a1), .val (.int p2), .unset] [(.ref a1), (.int (0 : Int32)), (.ref ff)])) rfl rfl (hb hby d3_67)
  obtain ⟨c_70, Ar_70, q_70, S_70, N_70, H_70, G_70⟩ := id Af_9
  have hin70 := inb_of (j := (0 : Int32)) S_70 ⟨by decide, by decide⟩
  obtain ⟨T15, h15, X15, e15, W15, st15⟩ := stI X14 hx hZ e14 Ar_70 (j := (0 : Int32)) hin70 (g := (mkF m 70 #[.val (.ref a1), .val (.int p2), .unset] [(.int (0 : Int32)), (.int (0 : Int32)), (.ref ff)])) rfl rfl (hb hby d3_70)
  have B15 : Bat Z n0 h15 a1 ll ff ss le tt bb kl kf ks ke kt kb n (0 : Int32) (0 : Int32) p2 (0 : Int32) f1 s0 l0 := Bat.setF0 B9 W15
  obtain ⟨⟨o015, o115, o215, o315, o415, o515, o615⟩, E_15, ⟨Fl_15, Ff_15, Fs_15, Fe_15, Ft_15, Fb_15⟩, ⟨Fr_15, Fc_15⟩, ⟨Al_15, Af_15, As_15, Ae_15, At_15, Ab_15⟩⟩ := id B15
  have N15 := Fr.snoc X15 N9 (by omega : n0 ≤ ff)
  obtain ⟨fs, hr, hrun, hended, hW, hsame⟩ := X15.leave (v := none) (fun _ => rfl)
  refine ⟨_, _, pre0 _ ?_, hrun, hended, _, _, rfl, ?_, ⟨_, rfl⟩, hW, hsame.mono (by decide) (by decide)⟩
  -- 4. STEPS
  · show Steps p.tables e below (s₁.setTop (mkF m 0 #[.val (.ref a1), .val (.int p2), .unset] [])) _
    refine XS.aloadN X0.here hx rfl (hb hby d3_0) rfl rfl ?_
    show Steps p.tables e below (s₁.setTop (mkF m 1 #[.val (.ref a1), .val (.int p2), .unset] [(.ref a1)])) _
    refine st4 _ ?_
    show Steps p.tables e below (T4.setTop (mkF m 4 #[.val (.ref a1), .val (.int p2), .unset] [(.int (0 : Int32))])) _
    refine XS.iconst X4.here hx rfl (hb hby d3_4) ?_
    show Steps p.tables e below (T4.setTop (mkF m 5 #[.val (.ref a1), .val (.int p2), .unset] [(.int (1 : Int32)), (.int (0 : Int32))])) _
    refine XS.iadd X4.here hx rfl (hb hby d3_5) rfl ?_
    show Steps p.tables e below (T4.setTop (mkF m 6 #[.val (.ref a1), .val (.int p2), .unset] [(.int ((0 : Int32) + (1 : Int32)))])) _
    refine XS.aloadN X4.here hx rfl (hb hby d3_6) rfl rfl ?_
    show Steps p.tables e below (T4.setTop (mkF m 7 #[.val (.ref a1), .val (.int p2), .unset] [(.ref a1), (.int ((0 : Int32) + (1 : Int32)))])) _
    refine st6 _ ?_
    show Steps p.tables e below (T6.setTop (mkF m 10 #[.val (.ref a1), .val (.int p2), .unset] [(.ref ll), (.int ((0 : Int32) + (1 : Int32)))])) _
    refine X6.arraylength hx (by rw [e6]; exact Ar_l0.1) (State.isArrayOf_alike hZ.alike Ar_l0.2.1) (g := (mkF m 10 #[.val (.ref a1), .val (.int p2), .unset] [(.ref ll), (.int ((0 : Int32) + (1 : Int32)))])) rfl rfl (hb hby d3_10) _ ?_
    rw [len_of S_l0 N_l0]
    show Steps p.tables e below (T6.setTop (mkF m 11 #[.val (.ref a1), .val (.int p2), .unset] [(.int (1024 : Int32)), (.int ((0 : Int32) + (1 : Int32)))])) _
    refine XS.icmpYes X6.here hx rfl (pc0 := 11) (pc' := 48) rfl (hb hby d3_11) rfl (feq (by decide)).2 (by decide) (by decide) ?_
    show Steps p.tables e below (T6.setTop (mkF m 48 #[.val (.ref a1), .val (.int p2), .unset] [])) _
    refine XS.aloadN X6.here hx rfl (hb hby d3_48) rfl rfl ?_
    show Steps p.tables e below (T6.setTop (mkF m 49 #[.val (.ref a1), .val (.int p2), .unset] [(.ref a1)])) _
    refine st7 _ ?_
    show Steps p.tables e below (T7.setTop (mkF m 52 #[.val (.ref a1), .val (.int p2), .unset] [(.ref ll)])) _
    refine XS.aloadN X7.here hx rfl (hb hby d3_52) rfl rfl ?_
    show Steps p.tables e below (T7.setTop (mkF m 53 #[.val (.ref a1), .val (.int p2), .unset] [(.ref a1), (.ref ll)])) _
    refine st8 _ ?_
    show Steps p.tables e below (T8.setTop (mkF m 56 #[.val (.ref a1), .val (.int p2), .unset] [(.int (0 : Int32)), (.ref ll)])) _
    refine XS.iloadN X8.here hx rfl (hb hby d3_56) rfl ?_
    show Steps p.tables e below (T8.setTop (mkF m 57 #[.val (.ref a1), .val (.int p2), .unset] [(.int p2), (.int (0 : Int32)), (.ref ll)])) _
    refine st9 _ ?_
    show Steps p.tables e below (T9.setTop (mkF m 58 #[.val (.ref a1), .val (.int p2), .unset] [])) _
    refine XS.aloadN X9.here hx rfl (hb hby d3_58) rfl rfl ?_
    show Steps p.tables e below (T9.setTop (mkF m 59 #[.val (.ref a1), .val (.int p2), .unset] [(.ref a1)])) _
    refine st11 _ ?_
    show Steps p.tables e below (T11.setTop (mkF m 62 #[.val (.ref a1), .val (.int p2), .unset] [(.ref ff)])) _
    refine XS.aloadN X11.here hx rfl (hb hby d3_62) rfl rfl ?_
    show Steps p.tables e below (T11.setTop (mkF m 63 #[.val (.ref a1), .val (.int p2), .unset] [(.ref a1), (.ref ff)])) _
    refine st12 _ ?_
    show Steps p.tables e below (T12.setTop (mkF m 66 #[.val (.ref a1), .val (.int p2), .unset] [(.int (0 : Int32)), (.ref ff)])) _
    refine XS.aloadN X12.here hx rfl (hb hby d3_66) rfl rfl ?_
    show Steps p.tables e below (T12.setTop (mkF m 67 #[.val (.ref a1), .val (.int p2), .unset] [(.ref a1), (.int (0 : Int32)), (.ref ff)])) _
    refine st14 _ ?_
    show Steps p.tables e below (T14.setTop (mkF m 70 #[.val (.ref a1), .val (.int p2), .unset] [(.int (0 : Int32)), (.int (0 : Int32)), (.ref ff)])) _
    refine st15 _ ?_
    show Steps p.tables e below (T15.setTop (mkF m 71 #[.val (.ref a1), .val (.int p2), .unset] [])) _
    exact X15.returnOut hx Bd.returns (hb hby d3_71) hr
  · show Q3 Z a1 p2 ll ff ss le tt bb kl kf ks ke kt kb n x f0 f1 s0 l0 h0 n0 _ T15.heap _
    rw [e15]
    exact ⟨rfl, N15, B15⟩
theorem d4_0 : decode prog_16_method_4_code 0 = .ok (.aload_n 0, 1) := by decide +kernel
theorem d4_1 : decode prog_16_method_4_code 1 = .ok (.getfield 50, 3) := by decide +kernel
theorem d4_4 : decode prog_16_method_4_code 4 = .ok (.aload_n 0, 1) := by decide +kernel
theorem d4_5 : decode prog_16_method_4_code 5 = .ok (.getfield 16, 3) := by decide +kernel
theorem d4_8 : decode prog_16_method_4_code 8 = .ok (.arraylength, 1) := by decide +kernel
theorem d4_9 : decode prog_16_method_4_code 9 = .ok (.if_icmp .ne 57, 3) := by decide +kernel
theorem d4_66 : decode prog_16_method_4_code 66 = .ok (.aload_n 0, 1) := by decide +kernel
theorem d4_67 : decode prog_16_method_4_code 67 = .ok (.getfield 16, 3) := by decide +kernel
theorem d4_70 : decode prog_16_method_4_code 70 = .ok (.aload_n 0, 1) := by decide +kernel
theorem d4_71 : decode prog_16_method_4_code 71 = .ok (.getfield 50, 3) := by decide +kernel
theorem d4_74 : decode prog_16_method_4_code 74 = .ok (.iload_n 1, 1) := by decide +kernel
theorem d4_75 : decode prog_16_method_4_code 75 = .ok (.iastore, 1) := by decide +kernel
theorem d4_76 : decode prog_16_method_4_code 76 = .ok (.aload_n 0, 1) := by decide +kernel
theorem d4_77 : decode prog_16_method_4_code 77 = .ok (.getfield 19, 3) := by decide +kernel
theorem d4_80 : decode prog_16_method_4_code 80 = .ok (.aload_n 0, 1) := by decide +kernel
theorem d4_81 : decode prog_16_method_4_code 81 = .ok (.getfield 50, 3) := by decide +kernel
theorem d4_84 : decode prog_16_method_4_code 84 = .ok (.iload_n 2, 1) := by decide +kernel
theorem d4_85 : decode prog_16_method_4_code 85 = .ok (.iastore, 1) := by decide +kernel
theorem d4_86 : decode prog_16_method_4_code 86 = .ok (.aload_n 0, 1) := by decide +kernel
theorem d4_87 : decode prog_16_method_4_code 87 = .ok (.getfield 24, 3) := by decide +kernel
theorem d4_90 : decode prog_16_method_4_code 90 = .ok (.aload_n 0, 1) := by decide +kernel
theorem d4_91 : decode prog_16_method_4_code 91 = .ok (.getfield 50, 3) := by decide +kernel
theorem d4_94 : decode prog_16_method_4_code 94 = .ok (.aload_n 3, 1) := by decide +kernel
theorem d4_95 : decode prog_16_method_4_code 95 = .ok (.aastore, 1) := by decide +kernel
theorem d4_96 : decode prog_16_method_4_code 96 = .ok (.aload_n 0, 1) := by decide +kernel
theorem d4_97 : decode prog_16_method_4_code 97 = .ok (.dup, 1) := by decide +kernel
theorem d4_98 : decode prog_16_method_4_code 98 = .ok (.getfield 50, 3) := by decide +kernel
theorem d4_101 : decode prog_16_method_4_code 101 = .ok (.iconst 1, 1) := by decide +kernel
theorem d4_102 : decode prog_16_method_4_code 102 = .ok (.iadd, 1) := by decide +kernel
theorem d4_103 : decode prog_16_method_4_code 103 = .ok (.putfield 50, 3) := by decide +kernel
theorem d4_106 : decode prog_16_method_4_code 106 = .ok (.aload_n 0, 1) := by decide +kernel
theorem d4_107 : decode prog_16_method_4_code 107 = .ok (.getfield 13, 3) := by decide +kernel
theorem d4_110 : decode prog_16_method_4_code 110 = .ok (.aload_n 0, 1) := by decide +kernel
theorem d4_111 : decode prog_16_method_4_code 111 = .ok (.getfield 46, 3) := by decide +kernel
theorem d4_114 : decode prog_16_method_4_code 114 = .ok (.iconst 1, 1) := by decide +kernel
theorem d4_115 : decode prog_16_method_4_code 115 = .ok (.iadd, 1) := by decide +kernel
theorem d4_116 : decode prog_16_method_4_code 116 = .ok (.aload_n 0, 1) := by decide +kernel
theorem d4_117 : decode prog_16_method_4_code 117 = .ok (.getfield 50, 3) := by decide +kernel
theorem d4_120 : decode prog_16_method_4_code 120 = .ok (.iastore, 1) := by decide +kernel
theorem d4_121 : decode prog_16_method_4_code 121 = .ok (.return_, 1) := by decide +kernel
theorem pn_4 : plainName "com/example/interstice/interstice/CsvScanner$Batch" = true := by first | (simp [plainName, overriddenIn]; done) | decide +kernel
theorem ef_4 (m : MethodId) (x0 : Addr) (x1 : Int32) (x2 : Int32) : entryFrame m #[(.ref x0), (.int x1), (.int x2), .null] 4 = mkF m 0 #[.val (.ref x0), .val (.int x1), .val (.int x2), .val .null] [] := by first | (simp [entryFrame, mkF, argsToLocals, Value.category]; done) | rfl
def Q4 (Z : State) (a1 : Addr) (p2 p3 : Int32) (ll ff ss le tt bb : Nat) (kl kf ks ke kt kb : ClassId) (n x f0 f1 s0 l0 : Int32) (h0 : Heap) (n0 : Nat) (v : Option Value) (h : Heap) (L : List Loc) : Prop := v = none ∧ Fr n0 L ∧ Bat Z n0 h a1 ll ff ss le tt bb kl kf ks ke kt kb n (0 : Int32) (1 : Int32) x f0 (1 : Int32) p2 p3
set_option maxRecDepth 65536 in
set_option maxHeartbeats 40000000 in
theorem rm4 (l : Launch) (Z : State) (a0 : Array Value) (hw : ∀ d ∈ tables_1, d.before a0 Z = true) (ws : List Jvm.Cond) (a1 : Addr) (p2 p3 : Int32) (ll ff ss le tt bb : Nat) (kl kf ks ke kt kb : ClassId) (n x f0 f1 s0 l0 : Int32) (h0 : Heap) (n0 : Nat) (Z0 : n0 ≤ h0.size) (B0 : Bat Z n0 h0 a1 ll ff ss le tt bb kl kf ks ke kt kb n (0 : Int32) (0 : Int32) x f0 f1 s0 l0) :
    MetFree l (⟨"com/example/interstice/interstice/CsvScanner$Batch", "addField", "(IILjava/lang/String;)V"⟩ : MethodName) (head1 (Jvm.Cond.code (⟨"com/example/interstice/interstice/CsvScanner$Batch", "addField", "(IILjava/lang/String;)V"⟩ : MethodName) prog_16_method_4_code 4 none :: ws) ({ frames := 0, cells := 0, slots := 0, locals := 0 } : Room)) (fun a U => a = #[(.ref a1), (.int p2), (.int p3), .null] ∧ Z.Warmed39 U.vm ∧ U.heap = h0) (fun _ _ _ _ _ => True) (fun _ U o U' => ∃ v L, o = .returned v ∧ Q4 Z a1 p2 p3 ll ff ss le tt bb kl kf ks ke kt kb n x f0 f1 s0 l0 h0 n0 v U'.heap L ∧ FrameEnd U o U' L ({ frames := 0, cells := 0, slots := 0, locals := 0 } : Room).cells ({ frames := 0, cells := 0, slots := 0, locals := 0 } : Room).slots) := by
  refine MetFree.of_bodySF (plainFor_of_name pn_4) hisR ?_
  intro p e s m args below meth c s₁ Bd hml0 hP hK
  obtain ⟨rfl, hZ, hh⟩ := hP
  have hx := Bd.exec
  have hby := Bd.bytes
  have hml : c.maxLocals = 4 := hml0
  have hown : s.vm.findClass "com/example/interstice/interstice/CsvScanner$Batch" = some m.cls := findClass_of_methodNamed Bd.named
  have hnm := (name_of_methodNamed Bd.named Bd.method).1
  have X0 : Stand p l e ({ frames := 0, cells := 0, slots := 0, locals := 0 } : Room) s m #[(.ref a1), (.int p2), (.int p3), .null] below meth c s₁ [] 0 0 := Stand.of_body Bd
  have e0 : s₁.heap = h0 := by rw [← hh, Bd.state]; rfl
  have N0 := Fr.nil n0
  have pre0 : ∀ t, Steps p.tables e below (s₁.setTop (mkF m 0 #[.val (.ref a1), .val (.int p2), .val (.int p3), .val .null] [])) t → Steps p.tables e below (s₁.setTop (entryFrame m #[(.ref a1), (.int p2), (.int p3), .null] 4)) t := fun t k => castTop (ef_4 m a1 p2 p3) k
  -- 3. LAWS
  obtain ⟨⟨o00, o10, o20, o30, o40, o50, o60⟩, E_0, ⟨Fl_0, Ff_0, Fs_0, Fe_0, Ft_0, Fb_0⟩, ⟨Fr_0, Fc_0⟩, ⟨Al_0, Af_0, As_0, Ae_0, At_0, Ab_0⟩⟩ := id B0
  obtain ⟨c_s0, Ar_s0, q_s0, S_s0, N_s0, H_s0, G_s0⟩ := id As_0
  obtain ⟨T5, X5, e5, st5⟩ := getF X0 hx hZ hown (host := "") (Or.inl (hw _ (List.mem_of_getElem? (i := 42) rfl))) Via.refl e0 Fc_0 (g := (mkF m 1 #[.val (.ref a1), .val (.int p2), .val (.int p3), .val .null] [(.ref a1)])) rfl rfl (hb hby d4_1)
  obtain ⟨T7, X7, e7, st7⟩ := getF X5 hx hZ hown (host := "") (Or.inl (hw _ (List.mem_of_getElem? (i := 14) rfl))) Via.refl e5 Fs_0 (g := (mkF m 5 #[.val (.ref a1), .val (.int p2), .val (.int p3), .val .null] [(.ref a1), (.int (0 : Int32))])) rfl rfl (hb hby d4_5)
  obtain ⟨T8, X8, e8, st8⟩ := getF X7 hx hZ hown (host := "") (Or.inl (hw _ (List.mem_of_getElem? (i := 14) rfl))) Via.refl e7 Fs_0 (g := (mkF m 67 #[.val (.ref a1), .val (.int p2), .val (.int p3), .val .null] [(.ref a1)])) rfl rfl (hb hby d4_67)
  obtain ⟨T9, X9, e9, st9⟩ := getF X8 hx hZ hown (host := "") (Or.inl (hw _ (List.mem_of_getElem? (i := 42) rfl))) Via.refl e8 Fc_0 (g := (mkF m 71 #[.val (.ref a1), .val (.int p2), .val (.int p3), .val .null] [(.ref a1), (.ref ss)])) rfl rfl (hb hby d4_71)
  obtain ⟨c_75, Ar_75, q_75, S_75, N_75, H_75, G_75⟩ := id As_0
  have hin75 := inb_of (j := (0 : Int32)) S_75 ⟨by decide, by decide⟩
  obtain ⟨T10, h10, X10, e10, W10, st10⟩ := stI X9 hx hZ e9 Ar_75 (j := (0 : Int32)) hin75 (g := (mkF m 75 #[.val (.ref a1), .val (.int p2), .val (.int p3), .val .null] [(.int p2), (.int (0 : Int32)), (.ref ss)])) rfl rfl (hb hby d4_75)
  have B10 : Bat Z n0 h10 a1 ll ff ss le tt bb kl kf ks ke kt kb n (0 : Int32) (0 : Int32) x f0 f1 p2 l0 := Bat.setS B0 W10
  obtain ⟨⟨o010, o110, o210, o310, o410, o510, o610⟩, E_10, ⟨Fl_10, Ff_10, Fs_10, Fe_10, Ft_10, Fb_10⟩, ⟨Fr_10, Fc_10⟩, ⟨Al_10, Af_10, As_10, Ae_10, At_10, Ab_10⟩⟩ := id B10
  have N10 := Fr.snoc X10 N0 (by omega : n0 ≤ ss)
  obtain ⟨T12, X12, e12, st12⟩ := getF X10 hx hZ hown (host := "") (Or.inl (hw _ (List.mem_of_getElem? (i := 16) rfl))) Via.refl e10 Fe_10 (g := (mkF m 77 #[.val (.ref a1), .val (.int p2), .val (.int p3), .val .null] [(.ref a1)])) rfl rfl (hb hby d4_77)
  obtain ⟨T13, X13, e13, st13⟩ := getF X12 hx hZ hown (host := "") (Or.inl (hw _ (List.mem_of_getElem? (i := 42) rfl))) Via.refl e12 Fc_10 (g := (mkF m 81 #[.val (.ref a1), .val (.int p2), .val (.int p3), .val .null] [(.ref a1), (.ref le)])) rfl rfl (hb hby d4_81)
  obtain ⟨c_85, Ar_85, q_85, S_85, N_85, H_85, G_85⟩ := id Ae_10
  have hin85 := inb_of (j := (0 : Int32)) S_85 ⟨by decide, by decide⟩
  obtain ⟨T14, h14, X14, e14, W14, st14⟩ := stI X13 hx hZ e13 Ar_85 (j := (0 : Int32)) hin85 (g := (mkF m 85 #[.val (.ref a1), .val (.int p2), .val (.int p3), .val .null] [(.int p3), (.int (0 : Int32)), (.ref le)])) rfl rfl (hb hby d4_85)
  have B14 : Bat Z n0 h14 a1 ll ff ss le tt bb kl kf ks ke kt kb n (0 : Int32) (0 : Int32) x f0 f1 p2 p3 := Bat.setE B10 W14
  obtain ⟨⟨o014, o114, o214, o314, o414, o514, o614⟩, E_14, ⟨Fl_14, Ff_14, Fs_14, Fe_14, Ft_14, Fb_14⟩, ⟨Fr_14, Fc_14⟩, ⟨Al_14, Af_14, As_14, Ae_14, At_14, Ab_14⟩⟩ := id B14
  have N14 := Fr.snoc X14 N10 (by omega : n0 ≤ le)
  obtain ⟨T16, X16, e16, st16⟩ := getF X14 hx hZ hown (host := "") (Or.inl (hw _ (List.mem_of_getElem? (i := 20) rfl))) Via.refl e14 Ft_14 (g := (mkF m 87 #[.val (.ref a1), .val (.int p2), .val (.int p3), .val .null] [(.ref a1)])) rfl rfl (hb hby d4_87)
  obtain ⟨T17, X17, e17, st17⟩ := getF X16 hx hZ hown (host := "") (Or.inl (hw _ (List.mem_of_getElem? (i := 42) rfl))) Via.refl e16 Fc_14 (g := (mkF m 91 #[.val (.ref a1), .val (.int p2), .val (.int p3), .val .null] [(.ref a1), (.ref tt)])) rfl rfl (hb hby d4_91)
  obtain ⟨c_95, Ar_95, q_95, S_95, N_95, H_95, G_95⟩ := id At_14
  have hin95 := inb_of (j := (0 : Int32)) S_95 ⟨by decide, by decide⟩
  obtain ⟨T18, h18, X18, e18, W18, st18⟩ := stR X17 hx hZ e17 Ar_95 (j := (0 : Int32)) hin95 rfl (Or.inl rfl) (g := (mkF m 95 #[.val (.ref a1), .val (.int p2), .val (.int p3), .val .null] [.null, (.int (0 : Int32)), (.ref tt)])) rfl rfl (hb hby d4_95)
  have B18 : Bat Z n0 h18 a1 ll ff ss le tt bb kl kf ks ke kt kb n (0 : Int32) (0 : Int32) x f0 f1 p2 p3 := Bat.setT B14 W18
  obtain ⟨⟨o018, o118, o218, o318, o418, o518, o618⟩, E_18, ⟨Fl_18, Ff_18, Fs_18, Fe_18, Ft_18, Fb_18⟩, ⟨Fr_18, Fc_18⟩, ⟨Al_18, Af_18, As_18, Ae_18, At_18, Ab_18⟩⟩ := id B18
  have N18 := Fr.snoc X18 N14 (by omega : n0 ≤ tt)
  obtain ⟨T19, X19, e19, st19⟩ := getF X18 hx hZ hown (host := "") (Or.inl (hw _ (List.mem_of_getElem? (i := 42) rfl))) Via.refl e18 Fc_18 (g := (mkF m 98 #[.val (.ref a1), .val (.int p2), .val (.int p3), .val .null] [(.ref a1), (.ref a1)])) rfl rfl (hb hby d4_98)
  obtain ⟨T20, h20, X20, e20, W20, st20⟩ := putF X19 hx hZ hown (host := "") (Or.inl (hw _ (List.mem_of_getElem? (i := 42) rfl))) Via.refl e19 Fc_18 E_18 (Or.inl (hw _ (List.mem_of_getElem? (i := 43) rfl))) (hw _ (List.mem_of_getElem? (i := 1) rfl)) (ty := .int) (by decide) rfl rfl (g := (mkF m 103 #[.val (.ref a1), .val (.int p2), .val (.int p3), .val .null] [(.int ((0 : Int32) + (1 : Int32))), (.ref a1)])) rfl rfl (hb hby d4_103)
  have B20 : Bat Z n0 h20 a1 ll ff ss le tt bb kl kf ks ke kt kb n (0 : Int32) ((0 : Int32) + (1 : Int32)) x f0 f1 p2 p3 := Bat.setC hw B18 W20
  obtain ⟨⟨o020, o120, o220, o320, o420, o520, o620⟩, E_20, ⟨Fl_20, Ff_20, Fs_20, Fe_20, Ft_20, Fb_20⟩, ⟨Fr_20, Fc_20⟩, ⟨Al_20, Af_20, As_20, Ae_20, At_20, Ab_20⟩⟩ := id B20
  have N20 := Fr.snoc X20 N18 (by omega : n0 ≤ a1)
  obtain ⟨T22, X22, e22, st22⟩ := getF X20 hx hZ hown (host := "") (Or.inl (hw _ (List.mem_of_getElem? (i := 12) rfl))) Via.refl e20 Ff_20 (g := (mkF m 107 #[.val (.ref a1), .val (.int p2), .val (.int p3), .val .null] [(.ref a1)])) rfl rfl (hb hby d4_107)
  obtain ⟨T24, X24, e24, st24⟩ := getF X22 hx hZ hown (host := "") (Or.inl (hw _ (List.mem_of_getElem? (i := 40) rfl))) Via.refl e22 Fr_20 (g := (mkF m 111 #[.val (.ref a1), .val (.int p2), .val (.int p3), .val .null] [(.ref a1), (.ref ff)])) rfl rfl (hb hby d4_111)
  obtain ⟨T25, X25, e25, st25⟩ := getF X24 hx hZ hown (host := "") (Or.inl (hw _ (List.mem_of_getElem? (i := 42) rfl))) Via.refl e24 Fc_20 (g := (mkF m 117 #[.val (.ref a1), .val (.int p2), .val (.int p3), .val .null] [(.ref a1), (.int ((0 : Int32) + (1 : Int32))), (.ref ff)])) rfl rfl (hb hby d4_117)
  obtain ⟨c_120, Ar_120, q_120, S_120, N_120, H_120, G_120⟩ := id Af_20
  have hin120 := inb_of (j := ((0 : Int32) + (1 : Int32))) S_120 ⟨by decide, by decide⟩
  obtain ⟨T26, h26, X26, e26, W26, st26⟩ := stI X25 hx hZ e25 Ar_120 (j := ((0 : Int32) + (1 : Int32))) hin120 (g := (mkF m 120 #[.val (.ref a1), .val (.int p2), .val (.int p3), .val .null] [(.int ((0 : Int32) + (1 : Int32))), (.int ((0 : Int32) + (1 : Int32))), (.ref ff)])) rfl rfl (hb hby d4_120)
  have B26 : Bat Z n0 h26 a1 ll ff ss le tt bb kl kf ks ke kt kb n (0 : Int32) ((0 : Int32) + (1 : Int32)) x f0 ((0 : Int32) + (1 : Int32)) p2 p3 := Bat.setF1 B20 W26
  obtain ⟨⟨o026, o126, o226, o326, o426, o526, o626⟩, E_26, ⟨Fl_26, Ff_26, Fs_26, Fe_26, Ft_26, Fb_26⟩, ⟨Fr_26, Fc_26⟩, ⟨Al_26, Af_26, As_26, Ae_26, At_26, Ab_26⟩⟩ := id B26
  have N26 := Fr.snoc X26 N20 (by omega : n0 ≤ ff)
  have e01 : ((0 : Int32) + (1 : Int32)) = (1 : Int32) := by decide
  rw [e01] at B26
  obtain ⟨fs, hr, hrun, hended, hW, hsame⟩ := X26.leave (v := none) (fun _ => rfl)
  refine ⟨_, _, pre0 _ ?_, hrun, hended, _, _, rfl, ?_, ⟨_, rfl⟩, hW, hsame.mono (by decide) (by decide)⟩
  -- 4. STEPS
  · show Steps p.tables e below (s₁.setTop (mkF m 0 #[.val (.ref a1), .val (.int p2), .val (.int p3), .val .null] [])) _
    refine XS.aloadN X0.here hx rfl (hb hby d4_0) rfl rfl ?_
    show Steps p.tables e below (s₁.setTop (mkF m 1 #[.val (.ref a1), .val (.int p2), .val (.int p3), .val .null] [(.ref a1)])) _
    refine st5 _ ?_
    show Steps p.tables e below (T5.setTop (mkF m 4 #[.val (.ref a1), .val (.int p2), .val (.int p3), .val .null] [(.int (0 : Int32))])) _
    refine XS.aloadN X5.here hx rfl (hb hby d4_4) rfl rfl ?_
    show Steps p.tables e below (T5.setTop (mkF m 5 #[.val (.ref a1), .val (.int p2), .val (.int p3), .val .null] [(.ref a1), (.int (0 : Int32))])) _
    refine st7 _ ?_
    show Steps p.tables e below (T7.setTop (mkF m 8 #[.val (.ref a1), .val (.int p2), .val (.int p3), .val .null] [(.ref ss), (.int (0 : Int32))])) _
    refine X7.arraylength hx (by rw [e7]; exact Ar_s0.1) (State.isArrayOf_alike hZ.alike Ar_s0.2.1) (g := (mkF m 8 #[.val (.ref a1), .val (.int p2), .val (.int p3), .val .null] [(.ref ss), (.int (0 : Int32))])) rfl rfl (hb hby d4_8) _ ?_
    rw [len_of S_s0 N_s0]
    show Steps p.tables e below (T7.setTop (mkF m 9 #[.val (.ref a1), .val (.int p2), .val (.int p3), .val .null] [(.int (4096 : Int32)), (.int (0 : Int32))])) _
    refine XS.icmpYes X7.here hx rfl (pc0 := 9) (pc' := 66) rfl (hb hby d4_9) rfl (feq (by decide)).2 (by decide) (by decide) ?_
    show Steps p.tables e below (T7.setTop (mkF m 66 #[.val (.ref a1), .val (.int p2), .val (.int p3), .val .null] [])) _
    refine XS.aloadN X7.here hx rfl (hb hby d4_66) rfl rfl ?_
    show Steps p.tables e below (T7.setTop (mkF m 67 #[.val (.ref a1), .val (.int p2), .val (.int p3), .val .null] [(.ref a1)])) _
    refine st8 _ ?_
    show Steps p.tables e below (T8.setTop (mkF m 70 #[.val (.ref a1), .val (.int p2), .val (.int p3), .val .null] [(.ref ss)])) _
    refine XS.aloadN X8.here hx rfl (hb hby d4_70) rfl rfl ?_
    show Steps p.tables e below (T8.setTop (mkF m 71 #[.val (.ref a1), .val (.int p2), .val (.int p3), .val .null] [(.ref a1), (.ref ss)])) _
    refine st9 _ ?_
    show Steps p.tables e below (T9.setTop (mkF m 74 #[.val (.ref a1), .val (.int p2), .val (.int p3), .val .null] [(.int (0 : Int32)), (.ref ss)])) _
    refine XS.iloadN X9.here hx rfl (hb hby d4_74) rfl ?_
    show Steps p.tables e below (T9.setTop (mkF m 75 #[.val (.ref a1), .val (.int p2), .val (.int p3), .val .null] [(.int p2), (.int (0 : Int32)), (.ref ss)])) _
    refine st10 _ ?_
    show Steps p.tables e below (T10.setTop (mkF m 76 #[.val (.ref a1), .val (.int p2), .val (.int p3), .val .null] [])) _
    refine XS.aloadN X10.here hx rfl (hb hby d4_76) rfl rfl ?_
    show Steps p.tables e below (T10.setTop (mkF m 77 #[.val (.ref a1), .val (.int p2), .val (.int p3), .val .null] [(.ref a1)])) _
    refine st12 _ ?_
    show Steps p.tables e below (T12.setTop (mkF m 80 #[.val (.ref a1), .val (.int p2), .val (.int p3), .val .null] [(.ref le)])) _
    refine XS.aloadN X12.here hx rfl (hb hby d4_80) rfl rfl ?_
    show Steps p.tables e below (T12.setTop (mkF m 81 #[.val (.ref a1), .val (.int p2), .val (.int p3), .val .null] [(.ref a1), (.ref le)])) _
    refine st13 _ ?_
    show Steps p.tables e below (T13.setTop (mkF m 84 #[.val (.ref a1), .val (.int p2), .val (.int p3), .val .null] [(.int (0 : Int32)), (.ref le)])) _
    refine XS.iloadN X13.here hx rfl (hb hby d4_84) rfl ?_
    show Steps p.tables e below (T13.setTop (mkF m 85 #[.val (.ref a1), .val (.int p2), .val (.int p3), .val .null] [(.int p3), (.int (0 : Int32)), (.ref le)])) _
    refine st14 _ ?_
    show Steps p.tables e below (T14.setTop (mkF m 86 #[.val (.ref a1), .val (.int p2), .val (.int p3), .val .null] [])) _
    refine XS.aloadN X14.here hx rfl (hb hby d4_86) rfl rfl ?_
    show Steps p.tables e below (T14.setTop (mkF m 87 #[.val (.ref a1), .val (.int p2), .val (.int p3), .val .null] [(.ref a1)])) _
    refine st16 _ ?_
    show Steps p.tables e below (T16.setTop (mkF m 90 #[.val (.ref a1), .val (.int p2), .val (.int p3), .val .null] [(.ref tt)])) _
    refine XS.aloadN X16.here hx rfl (hb hby d4_90) rfl rfl ?_
    show Steps p.tables e below (T16.setTop (mkF m 91 #[.val (.ref a1), .val (.int p2), .val (.int p3), .val .null] [(.ref a1), (.ref tt)])) _
    refine st17 _ ?_
    show Steps p.tables e below (T17.setTop (mkF m 94 #[.val (.ref a1), .val (.int p2), .val (.int p3), .val .null] [(.int (0 : Int32)), (.ref tt)])) _
    refine XS.aloadN X17.here hx rfl (hb hby d4_94) rfl rfl ?_
    show Steps p.tables e below (T17.setTop (mkF m 95 #[.val (.ref a1), .val (.int p2), .val (.int p3), .val .null] [.null, (.int (0 : Int32)), (.ref tt)])) _
    refine st18 _ ?_
    show Steps p.tables e below (T18.setTop (mkF m 96 #[.val (.ref a1), .val (.int p2), .val (.int p3), .val .null] [])) _
    refine XS.aloadN X18.here hx rfl (hb hby d4_96) rfl rfl ?_
    show Steps p.tables e below (T18.setTop (mkF m 97 #[.val (.ref a1), .val (.int p2), .val (.int p3), .val .null] [(.ref a1)])) _
    refine XS.dup X18.here hx rfl (hb hby d4_97) rfl rfl ?_
    show Steps p.tables e below (T18.setTop (mkF m 98 #[.val (.ref a1), .val (.int p2), .val (.int p3), .val .null] [(.ref a1), (.ref a1)])) _
    refine st19 _ ?_
    show Steps p.tables e below (T19.setTop (mkF m 101 #[.val (.ref a1), .val (.int p2), .val (.int p3), .val .null] [(.int (0 : Int32)), (.ref a1)])) _
    refine XS.iconst X19.here hx rfl (hb hby d4_101) ?_
    show Steps p.tables e below (T19.setTop (mkF m 102 #[.val (.ref a1), .val (.int p2), .val (.int p3), .val .null] [(.int (1 : Int32)), (.int (0 : Int32)), (.ref a1)])) _
    refine XS.iadd X19.here hx rfl (hb hby d4_102) rfl ?_
    show Steps p.tables e below (T19.setTop (mkF m 103 #[.val (.ref a1), .val (.int p2), .val (.int p3), .val .null] [(.int ((0 : Int32) + (1 : Int32))), (.ref a1)])) _
    refine st20 _ ?_
    show Steps p.tables e below (T20.setTop (mkF m 106 #[.val (.ref a1), .val (.int p2), .val (.int p3), .val .null] [])) _
    refine XS.aloadN X20.here hx rfl (hb hby d4_106) rfl rfl ?_
    show Steps p.tables e below (T20.setTop (mkF m 107 #[.val (.ref a1), .val (.int p2), .val (.int p3), .val .null] [(.ref a1)])) _
    refine st22 _ ?_
    show Steps p.tables e below (T22.setTop (mkF m 110 #[.val (.ref a1), .val (.int p2), .val (.int p3), .val .null] [(.ref ff)])) _
    refine XS.aloadN X22.here hx rfl (hb hby d4_110) rfl rfl ?_
    show Steps p.tables e below (T22.setTop (mkF m 111 #[.val (.ref a1), .val (.int p2), .val (.int p3), .val .null] [(.ref a1), (.ref ff)])) _
    refine st24 _ ?_
    show Steps p.tables e below (T24.setTop (mkF m 114 #[.val (.ref a1), .val (.int p2), .val (.int p3), .val .null] [(.int (0 : Int32)), (.ref ff)])) _
    refine XS.iconst X24.here hx rfl (hb hby d4_114) ?_
    show Steps p.tables e below (T24.setTop (mkF m 115 #[.val (.ref a1), .val (.int p2), .val (.int p3), .val .null] [(.int (1 : Int32)), (.int (0 : Int32)), (.ref ff)])) _
    refine XS.iadd X24.here hx rfl (hb hby d4_115) rfl ?_
    show Steps p.tables e below (T24.setTop (mkF m 116 #[.val (.ref a1), .val (.int p2), .val (.int p3), .val .null] [(.int ((0 : Int32) + (1 : Int32))), (.ref ff)])) _
    refine XS.aloadN X24.here hx rfl (hb hby d4_116) rfl rfl ?_
    show Steps p.tables e below (T24.setTop (mkF m 117 #[.val (.ref a1), .val (.int p2), .val (.int p3), .val .null] [(.ref a1), (.int ((0 : Int32) + (1 : Int32))), (.ref ff)])) _
    refine st25 _ ?_
    show Steps p.tables e below (T25.setTop (mkF m 120 #[.val (.ref a1), .val (.int p2), .val (.int p3), .val .null] [(.int ((0 : Int32) + (1 : Int32))), (.int ((0 : Int32) + (1 : Int32))), (.ref ff)])) _
    refine st26 _ ?_
    show Steps p.tables e below (T26.setTop (mkF m 121 #[.val (.ref a1), .val (.int p2), .val (.int p3), .val .null] [])) _
    exact X26.returnOut hx Bd.returns (hb hby d4_121) hr
  · show Q4 Z a1 p2 p3 ll ff ss le tt bb kl kf ks ke kt kb n x f0 f1 s0 l0 h0 n0 _ T26.heap _
    rw [e26]
    exact ⟨rfl, N26, B26⟩
theorem d5_0 : decode prog_16_method_2_code 0 = .ok (.aload_n 0, 1) := by decide +kernel
theorem d5_1 : decode prog_16_method_2_code 1 = .ok (.iconst 0, 1) := by decide +kernel
theorem d5_2 : decode prog_16_method_2_code 2 = .ok (.putfield 46, 3) := by decide +kernel
theorem d5_5 : decode prog_16_method_2_code 5 = .ok (.aload_n 0, 1) := by decide +kernel
theorem d5_6 : decode prog_16_method_2_code 6 = .ok (.iconst 0, 1) := by decide +kernel
theorem d5_7 : decode prog_16_method_2_code 7 = .ok (.putfield 50, 3) := by decide +kernel
theorem d5_10 : decode prog_16_method_2_code 10 = .ok (.aload_n 0, 1) := by decide +kernel
theorem d5_11 : decode prog_16_method_2_code 11 = .ok (.areturn, 1) := by decide +kernel
theorem pn_5 : plainName "com/example/interstice/interstice/CsvScanner$Batch" = true := by first | (simp [plainName, overriddenIn]; done) | decide +kernel
theorem ef_5 (m : MethodId) (x0 : Addr) : entryFrame m #[(.ref x0)] 1 = mkF m 0 #[.val (.ref x0)] [] := by first | (simp [entryFrame, mkF, argsToLocals, Value.category]; done) | rfl
def Q5 (Z : State) (a1 : Addr) (rc fc : Int32) (ll ff ss le tt bb : Nat) (kl kf ks ke kt kb : ClassId) (n x f0 f1 s0 l0 : Int32) (h0 : Heap) (n0 : Nat) (v : Option Value) (h : Heap) (L : List Loc) : Prop := v = some (.ref a1) ∧ Fr n0 L ∧ Bat Z n0 h a1 ll ff ss le tt bb kl kf ks ke kt kb n (0 : Int32) (0 : Int32) x f0 f1 s0 l0
set_option maxRecDepth 65536 in
set_option maxHeartbeats 40000000 in
theorem rm5 (l : Launch) (Z : State) (a0 : Array Value) (hw : ∀ d ∈ tables_1, d.before a0 Z = true) (ws : List Jvm.Cond) (a1 : Addr) (rc fc : Int32) (ll ff ss le tt bb : Nat) (kl kf ks ke kt kb : ClassId) (n x f0 f1 s0 l0 : Int32) (h0 : Heap) (n0 : Nat) (Z0 : n0 ≤ h0.size) (B0 : Bat Z n0 h0 a1 ll ff ss le tt bb kl kf ks ke kt kb n rc fc x f0 f1 s0 l0) :
    MetFree l (⟨"com/example/interstice/interstice/CsvScanner$Batch", "clear", "()Lcom/example/interstice/interstice/CsvScanner$Batch;"⟩ : MethodName) (head1 (Jvm.Cond.code (⟨"com/example/interstice/interstice/CsvScanner$Batch", "clear", "()Lcom/example/interstice/interstice/CsvScanner$Batch;"⟩ : MethodName) prog_16_method_2_code 1 (some (.object "com/example/interstice/interstice/CsvScanner$Batch")) :: ws) ({ frames := 0, cells := 0, slots := 0, locals := 0 } : Room)) (fun a U => a = #[(.ref a1)] ∧ Z.Warmed39 U.vm ∧ U.heap = h0) (fun _ _ _ _ _ => True) (fun _ U o U' => ∃ v L, o = .returned v ∧ Q5 Z a1 rc fc ll ff ss le tt bb kl kf ks ke kt kb n x f0 f1 s0 l0 h0 n0 v U'.heap L ∧ FrameEnd U o U' L ({ frames := 0, cells := 0, slots := 0, locals := 0 } : Room).cells ({ frames := 0, cells := 0, slots := 0, locals := 0 } : Room).slots) := by
  refine MetFree.of_bodySF (plainFor_of_name pn_5) hisR ?_
  intro p e s m args below meth c s₁ Bd hml0 hP hK
  obtain ⟨rfl, hZ, hh⟩ := hP
  have hx := Bd.exec
  have hby := Bd.bytes
  have hml : c.maxLocals = 1 := hml0
  have hown : s.vm.findClass "com/example/interstice/interstice/CsvScanner$Batch" = some m.cls := findClass_of_methodNamed Bd.named
  have hnm := (name_of_methodNamed Bd.named Bd.method).1
  have X0 : Stand p l e ({ frames := 0, cells := 0, slots := 0, locals := 0 } : Room) s m #[(.ref a1)] below meth c s₁ [] 0 0 := Stand.of_body Bd
  have e0 : s₁.heap = h0 := by rw [← hh, Bd.state]; rfl
  have N0 := Fr.nil n0
  have pre0 : ∀ t, Steps p.tables e below (s₁.setTop (mkF m 0 #[.val (.ref a1)] [])) t → Steps p.tables e below (s₁.setTop (entryFrame m #[(.ref a1)] 1)) t := fun t k => castTop (ef_5 m a1) k
  -- 3. LAWS
  obtain ⟨⟨o00, o10, o20, o30, o40, o50, o60⟩, E_0, ⟨Fl_0, Ff_0, Fs_0, Fe_0, Ft_0, Fb_0⟩, ⟨Fr_0, Fc_0⟩, ⟨Al_0, Af_0, As_0, Ae_0, At_0, Ab_0⟩⟩ := id B0
  obtain ⟨T2, h2, X2, e2, W2, st2⟩ := putF X0 hx hZ hown (host := "") (Or.inl (hw _ (List.mem_of_getElem? (i := 40) rfl))) Via.refl e0 Fr_0 E_0 (Or.inl (hw _ (List.mem_of_getElem? (i := 41) rfl))) (hw _ (List.mem_of_getElem? (i := 1) rfl)) (ty := .int) (by decide) rfl rfl (g := (mkF m 2 #[.val (.ref a1)] [(.int (0 : Int32)), (.ref a1)])) rfl rfl (hb hby d5_2)
  have B2 : Bat Z n0 h2 a1 ll ff ss le tt bb kl kf ks ke kt kb n (0 : Int32) fc x f0 f1 s0 l0 := Bat.setR hw B0 W2
  obtain ⟨⟨o02, o12, o22, o32, o42, o52, o62⟩, E_2, ⟨Fl_2, Ff_2, Fs_2, Fe_2, Ft_2, Fb_2⟩, ⟨Fr_2, Fc_2⟩, ⟨Al_2, Af_2, As_2, Ae_2, At_2, Ab_2⟩⟩ := id B2
  have N2 := Fr.snoc X2 N0 (by omega : n0 ≤ a1)
  obtain ⟨T3, h3, X3, e3, W3, st3⟩ := putF X2 hx hZ hown (host := "") (Or.inl (hw _ (List.mem_of_getElem? (i := 42) rfl))) Via.refl e2 Fc_2 E_2 (Or.inl (hw _ (List.mem_of_getElem? (i := 43) rfl))) (hw _ (List.mem_of_getElem? (i := 1) rfl)) (ty := .int) (by decide) rfl rfl (g := (mkF m 7 #[.val (.ref a1)] [(.int (0 : Int32)), (.ref a1)])) rfl rfl (hb hby d5_7)
  have B3 : Bat Z n0 h3 a1 ll ff ss le tt bb kl kf ks ke kt kb n (0 : Int32) (0 : Int32) x f0 f1 s0 l0 := Bat.setC hw B2 W3
  obtain ⟨⟨o03, o13, o23, o33, o43, o53, o63⟩, E_3, ⟨Fl_3, Ff_3, Fs_3, Fe_3, Ft_3, Fb_3⟩, ⟨Fr_3, Fc_3⟩, ⟨Al_3, Af_3, As_3, Ae_3, At_3, Ab_3⟩⟩ := id B3
  have N3 := Fr.snoc X3 N2 (by omega : n0 ≤ a1)
  obtain ⟨fs, hr, hrun, hended, hW, hsame⟩ := X3.leave (v := some (.ref a1)) (fun h => by rw [Bd.returns] at h; cases h)
  refine ⟨_, _, pre0 _ ?_, hrun, hended, _, _, rfl, ?_, ⟨_, rfl⟩, hW, hsame.mono (by decide) (by decide)⟩
  -- 4. STEPS
  · show Steps p.tables e below (s₁.setTop (mkF m 0 #[.val (.ref a1)] [])) _
    refine XS.aloadN X0.here hx rfl (hb hby d5_0) rfl rfl ?_
    show Steps p.tables e below (s₁.setTop (mkF m 1 #[.val (.ref a1)] [(.ref a1)])) _
    refine XS.iconst X0.here hx rfl (hb hby d5_1) ?_
    show Steps p.tables e below (s₁.setTop (mkF m 2 #[.val (.ref a1)] [(.int (0 : Int32)), (.ref a1)])) _
    refine st2 _ ?_
    show Steps p.tables e below (T2.setTop (mkF m 5 #[.val (.ref a1)] [])) _
    refine XS.aloadN X2.here hx rfl (hb hby d5_5) rfl rfl ?_
    show Steps p.tables e below (T2.setTop (mkF m 6 #[.val (.ref a1)] [(.ref a1)])) _
    refine XS.iconst X2.here hx rfl (hb hby d5_6) ?_
    show Steps p.tables e below (T2.setTop (mkF m 7 #[.val (.ref a1)] [(.int (0 : Int32)), (.ref a1)])) _
    refine st3 _ ?_
    show Steps p.tables e below (T3.setTop (mkF m 10 #[.val (.ref a1)] [])) _
    refine XS.aloadN X3.here hx rfl (hb hby d5_10) rfl rfl ?_
    show Steps p.tables e below (T3.setTop (mkF m 11 #[.val (.ref a1)] [(.ref a1)])) _
    jvm_step X3.here [X3.here.top, hx, (hb hby d5_11), X3.method', Bd.returns, Value.isRef, FieldType.isReference]
    first | (intro acts; rw [hr _ acts rfl rfl rfl]) | rw [hr _ _ rfl rfl rfl]
    exact Steps.refl _
  · show Q5 Z a1 rc fc ll ff ss le tt bb kl kf ks ke kt kb n x f0 f1 s0 l0 h0 n0 _ T3.heap _
    rw [e3]
    exact ⟨rfl, N3, B3⟩
theorem d1_0 : decode prog_16_method_1_code 0 = .ok (.aload_n 0, 1) := by decide +kernel
theorem d1_1 : decode prog_16_method_1_code 1 = .ok (.invokespecial 1, 3) := by decide +kernel
theorem d1_4 : decode prog_16_method_1_code 4 = .ok (.aload_n 0, 1) := by decide +kernel
theorem d1_5 : decode prog_16_method_1_code 5 = .ok (.sipush 1024, 3) := by decide +kernel
theorem d1_8 : decode prog_16_method_1_code 8 = .ok (.newarray .int, 2) := by decide +kernel
theorem d1_10 : decode prog_16_method_1_code 10 = .ok (.putfield 7, 3) := by decide +kernel
theorem d1_13 : decode prog_16_method_1_code 13 = .ok (.aload_n 0, 1) := by decide +kernel
theorem d1_14 : decode prog_16_method_1_code 14 = .ok (.sipush 1025, 3) := by decide +kernel
theorem d1_17 : decode prog_16_method_1_code 17 = .ok (.newarray .int, 2) := by decide +kernel
theorem d1_19 : decode prog_16_method_1_code 19 = .ok (.putfield 13, 3) := by decide +kernel
theorem d1_22 : decode prog_16_method_1_code 22 = .ok (.aload_n 0, 1) := by decide +kernel
theorem d1_23 : decode prog_16_method_1_code 23 = .ok (.sipush 4096, 3) := by decide +kernel
theorem d1_26 : decode prog_16_method_1_code 26 = .ok (.newarray .int, 2) := by decide +kernel
theorem d1_28 : decode prog_16_method_1_code 28 = .ok (.putfield 16, 3) := by decide +kernel
theorem d1_31 : decode prog_16_method_1_code 31 = .ok (.aload_n 0, 1) := by decide +kernel
theorem d1_32 : decode prog_16_method_1_code 32 = .ok (.sipush 4096, 3) := by decide +kernel
theorem d1_35 : decode prog_16_method_1_code 35 = .ok (.newarray .int, 2) := by decide +kernel
theorem d1_37 : decode prog_16_method_1_code 37 = .ok (.putfield 19, 3) := by decide +kernel
theorem d1_40 : decode prog_16_method_1_code 40 = .ok (.aload_n 0, 1) := by decide +kernel
theorem d1_41 : decode prog_16_method_1_code 41 = .ok (.sipush 4096, 3) := by decide +kernel
theorem d1_44 : decode prog_16_method_1_code 44 = .ok (.anewarray 22, 3) := by decide +kernel
theorem d1_47 : decode prog_16_method_1_code 47 = .ok (.putfield 24, 3) := by decide +kernel
theorem d1_50 : decode prog_16_method_1_code 50 = .ok (.aload_n 0, 1) := by decide +kernel
theorem d1_51 : decode prog_16_method_1_code 51 = .ok (.iconst 0, 1) := by decide +kernel
theorem d1_52 : decode prog_16_method_1_code 52 = .ok (.anewarray 28, 3) := by decide +kernel
theorem d1_55 : decode prog_16_method_1_code 55 = .ok (.putfield 30, 3) := by decide +kernel
theorem d1_58 : decode prog_16_method_1_code 58 = .ok (.aload_n 0, 1) := by decide +kernel
theorem d1_59 : decode prog_16_method_1_code 59 = .ok (.iconst 0, 1) := by decide +kernel
theorem d1_60 : decode prog_16_method_1_code 60 = .ok (.newarray .double, 2) := by decide +kernel
theorem d1_62 : decode prog_16_method_1_code 62 = .ok (.putfield 34, 3) := by decide +kernel
theorem d1_65 : decode prog_16_method_1_code 65 = .ok (.aload_n 0, 1) := by decide +kernel
theorem d1_66 : decode prog_16_method_1_code 66 = .ok (.iconst 0, 1) := by decide +kernel
theorem d1_67 : decode prog_16_method_1_code 67 = .ok (.newarray .boolean, 2) := by decide +kernel
theorem d1_69 : decode prog_16_method_1_code 69 = .ok (.putfield 38, 3) := by decide +kernel
theorem d1_72 : decode prog_16_method_1_code 72 = .ok (.aload_n 0, 1) := by decide +kernel
theorem d1_73 : decode prog_16_method_1_code 73 = .ok (.iload_n 1, 1) := by decide +kernel
theorem d1_74 : decode prog_16_method_1_code 74 = .ok (.newarray .byte, 2) := by decide +kernel
theorem d1_76 : decode prog_16_method_1_code 76 = .ok (.putfield 42, 3) := by decide +kernel
theorem d1_79 : decode prog_16_method_1_code 79 = .ok (.return_, 1) := by decide +kernel
theorem pn_1 : plainName "com/example/interstice/interstice/CsvScanner$Batch" = true := by first | (simp [plainName, overriddenIn]; done) | decide +kernel
theorem ef_1 (m : MethodId) (x0 : Addr) (x1 : Int32) : entryFrame m #[(.ref x0), (.int x1)] 2 = mkF m 0 #[.val (.ref x0), .val (.int x1)] [] := by first | (simp [entryFrame, mkF, argsToLocals, Value.category]; done) | rfl
def Q1 (Z : State) (a1 : Addr) (n : Int32) (h0 : Heap) (n0 : Nat) (v : Option Value) (h : Heap) (L : List Loc) : Prop := v = none ∧ Fr n0 L ∧ ∃ (ll ff ss le tt bb : Nat) (kl kf ks ke kt kb : ClassId), Bat Z n0 h a1 ll ff ss le tt bb kl kf ks ke kt kb n (0 : Int32) (0 : Int32) (0 : Int32) (0 : Int32) (0 : Int32) (0 : Int32) (0 : Int32)
set_option maxRecDepth 65536 in
set_option maxHeartbeats 40000000 in
theorem rm1 (l : Launch) (Z : State) (a0 : Array Value) (hw : ∀ d ∈ tables_1, d.before a0 Z = true) (ws : List Jvm.Cond) (a1 : Addr) (p2 : Int32) (u_lines_a1 : Value) (u_firstFields_a1 : Value) (u_starts_a1 : Value) (u_lengths_a1 : Value) (u_texts_a1 : Value) (u_instants_a1 : Value) (u_decimals_a1 : Value) (u_sameSeries_a1 : Value) (u_bytes_a1 : Value) (h0 : Heap) (n0 : Nat) (Z0 : n0 ≤ h0.size) (E_a1 : Exa Z h0 a1 "com/example/interstice/interstice/CsvScanner$Batch") (F_lines_a1 : Fld Z h0 a1 "com/example/interstice/interstice/CsvScanner$Batch" "lines" "[I" u_lines_a1) (g_a1 : n0 ≤ a1) (F_firstFields_a1 : Fld Z h0 a1 "com/example/interstice/interstice/CsvScanner$Batch" "firstFields" "[I" u_firstFields_a1) (F_starts_a1 : Fld Z h0 a1 "com/example/interstice/interstice/CsvScanner$Batch" "starts" "[I" u_starts_a1) (F_lengths_a1 : Fld Z h0 a1 "com/example/interstice/interstice/CsvScanner$Batch" "lengths" "[I" u_lengths_a1) (F_texts_a1 : Fld Z h0 a1 "com/example/interstice/interstice/CsvScanner$Batch" "texts" "[Ljava/lang/String;" u_texts_a1) (F_instants_a1 : Fld Z h0 a1 "com/example/interstice/interstice/CsvScanner$Batch" "instants" "[Ljava/time/Instant;" u_instants_a1) (F_decimals_a1 : Fld Z h0 a1 "com/example/interstice/interstice/CsvScanner$Batch" "decimals" "[D" u_decimals_a1) (F_sameSeries_a1 : Fld Z h0 a1 "com/example/interstice/interstice/CsvScanner$Batch" "sameSeries" "[Z" u_sameSeries_a1) (F_bytes_a1 : Fld Z h0 a1 "com/example/interstice/interstice/CsvScanner$Batch" "bytes" "[B" u_bytes_a1) (F_records_a1 : Fld Z h0 a1 "com/example/interstice/interstice/CsvScanner$Batch" "records" "I" (.int (0 : Int32))) (F_fields_a1 : Fld Z h0 a1 "com/example/interstice/interstice/CsvScanner$Batch" "fields" "I" (.int (0 : Int32))) (hp : ¬ p2 < 0) (hq : p2.toNatClampNeg ≤ 255) :
    MetFree l (⟨"com/example/interstice/interstice/CsvScanner$Batch", "<init>", "(I)V"⟩ : MethodName) (head1 (Jvm.Cond.code (⟨"com/example/interstice/interstice/CsvScanner$Batch", "<init>", "(I)V"⟩ : MethodName) prog_16_method_1_code 2 none :: ws) ({ frames := 1, cells := 9, slots := 14592, locals := 12 } : Room)) (fun a U => a = #[(.ref a1), (.int p2)] ∧ Z.Warmed39 U.vm ∧ U.heap = h0) (fun _ _ _ _ _ => True) (fun _ U o U' => ∃ v L, o = .returned v ∧ Q1 Z a1 p2 h0 n0 v U'.heap L ∧ FrameEnd U o U' L ({ frames := 1, cells := 9, slots := 14592, locals := 12 } : Room).cells ({ frames := 1, cells := 9, slots := 14592, locals := 12 } : Room).slots) := by
  refine MetFree.of_bodySF (plainFor_of_name pn_1) hisR ?_
  intro p e s m args below meth c s₁ Bd hml0 hP hK
  obtain ⟨rfl, hZ, hh⟩ := hP
  have hx := Bd.exec
  have hby := Bd.bytes
  have hml : c.maxLocals = 2 := hml0
  have hown : s.vm.findClass "com/example/interstice/interstice/CsvScanner$Batch" = some m.cls := findClass_of_methodNamed Bd.named
  have hnm := (name_of_methodNamed Bd.named Bd.method).1
  have X0 : Stand p l e ({ frames := 1, cells := 9, slots := 14592, locals := 12 } : Room) s m #[(.ref a1), (.int p2)] below meth c s₁ [] 0 0 := Stand.of_body Bd
  have e0 : s₁.heap = h0 := by rw [← hh, Bd.state]; rfl
  have N0 := Fr.nil n0
  have pre0 : ∀ t, Steps p.tables e below (s₁.setTop (mkF m 0 #[.val (.ref a1), .val (.int p2)] [])) t → Steps p.tables e below (s₁.setTop (entryFrame m #[(.ref a1), (.int p2)] 2)) t := fun t k => castTop (ef_1 m a1 p2) k
  -- 3. LAWS
  obtain ⟨T3, X3, e3, st3⟩ := initO X0 hx hZ hown (hw _ (List.mem_of_getElem? (i := 6) rfl)) (hw _ (List.mem_of_getElem? (i := 7) rfl)) (hw _ (List.mem_of_getElem? (i := 8) rfl)) e0 (g := (mkF m 1 #[.val (.ref a1), .val (.int p2)] [(.ref a1)])) rfl (by rw [hml]; rfl) rfl (hb hby d1_1) (by decide) (W := 0) (by show 2 * 0 + _ ≤ _; exact Nat.le_of_eq rfl) (by decide)
  obtain ⟨T4, h4, k4, X4, e4, E4, A4, st4⟩ := newP X3 hx hZ (hw _ (List.mem_of_getElem? (i := 9) rfl)) e3 (g := (mkF m 8 #[.val (.ref a1), .val (.int p2)] [(.int (1024 : Int32)), (.ref a1)])) rfl (hb hby d1_8) rfl (by decide) (cap := 1024) (by decide) (by decide) (by decide) (by decide)
  obtain ⟨b4, g4⟩ : ∃ z, z = h0.size := ⟨_, rfl⟩      -- the fresh array's address
  rw [← g4] at A4 st4
  have V_b4 := Arv.new A4 (by decide)      -- Arv Z h4 b4 k4 .int (1024 : Int32) [] (its first value); a place must be in the list before it's written: Arv.pad with pad_rep
  have g_b4 : n0 ≤ b4 := Nat.le_trans Z0 (Nat.le_of_eq g4.symm)
  have sz_b4 : h0.size ≤ b4 := (Nat.le_trans (Keep.refl h0 [a1]).1 (Nat.le_of_eq g4.symm))
  have K4 : Keep h0 h4 [a1] := (Keep.refl h0 [a1]).ext E4
  obtain ⟨T5, h5, X5, e5, W5, st5⟩ := putF X4 hx hZ hown (host := "") (Or.inl (hw _ (List.mem_of_getElem? (i := 10) rfl))) Via.refl e4 (F_lines_a1.ext E4) (E_a1.ext E4) (Or.inl (hw _ (List.mem_of_getElem? (i := 11) rfl))) (hw _ (List.mem_of_getElem? (i := 1) rfl)) (ty := (.array .int)) (by decide) rfl rfl (g := (mkF m 10 #[.val (.ref a1), .val (.int p2)] [(.ref b4), (.ref a1)])) rfl rfl (hb hby d1_10)
  have Fw5 := (F_lines_a1.ext E4).same W5      -- the field now holds (.ref b4)
  have K5 : Keep h0 h5 [a1] := K4.wr W5 (Or.inl (List.mem_of_getElem? (i := 0) rfl))
  have N5 := Fr.snoc X5 N0 g_a1
  obtain ⟨T6, h6, k6, X6, e6, E6, A6, st6⟩ := newP X5 hx hZ (hw _ (List.mem_of_getElem? (i := 9) rfl)) e5 (g := (mkF m 17 #[.val (.ref a1), .val (.int p2)] [(.int (1025 : Int32)), (.ref a1)])) rfl (hb hby d1_17) rfl (by decide) (cap := 1025) (by decide) (by decide) (by decide) (by decide)
  obtain ⟨b6, g6⟩ : ∃ z, z = h5.size := ⟨_, rfl⟩      -- the fresh array's address
  rw [← g6] at A6 st6
  have V_b6 := Arv.new A6 (by decide)      -- Arv Z h6 b6 k6 .int (1025 : Int32) [] (its first value); a place must be in the list before it's written: Arv.pad with pad_rep
  have g_b6 : n0 ≤ b6 := Nat.le_trans (Nat.le_trans (Nat.le_trans Z0 E4.1) (Keep.of_wr W5).1) (Nat.le_of_eq g6.symm)
  have sz_b6 : h0.size ≤ b6 := (Nat.le_trans K5.1 (Nat.le_of_eq g6.symm))
  have K6 : Keep h0 h6 [a1] := K5.ext E6
  obtain ⟨T7, h7, X7, e7, W7, st7⟩ := putF X6 hx hZ hown (host := "") (Or.inl (hw _ (List.mem_of_getElem? (i := 12) rfl))) Via.refl e6 (((F_firstFields_a1.ext E4).other W5 (Or.inr (slot_ne (Or.inl (hw _ (List.mem_of_getElem? (i := 13) rfl))) (Or.inl (hw _ (List.mem_of_getElem? (i := 11) rfl))) (by decide) (t := (.array .int)) (t' := (.array .int)) (by decide) (by decide)))).ext E6) (((E_a1.ext E4).wr W5).ext E6) (Or.inl (hw _ (List.mem_of_getElem? (i := 13) rfl))) (hw _ (List.mem_of_getElem? (i := 1) rfl)) (ty := (.array .int)) (by decide) rfl rfl (g := (mkF m 19 #[.val (.ref a1), .val (.int p2)] [(.ref b6), (.ref a1)])) rfl rfl (hb hby d1_19)
  have Fw7 := (((F_firstFields_a1.ext E4).other W5 (Or.inr (slot_ne (Or.inl (hw _ (List.mem_of_getElem? (i := 13) rfl))) (Or.inl (hw _ (List.mem_of_getElem? (i := 11) rfl))) (by decide) (t := (.array .int)) (t' := (.array .int)) (by decide) (by decide)))).ext E6).same W7      -- the field now holds (.ref b6)
  have K7 : Keep h0 h7 [a1] := K6.wr W7 (Or.inl (List.mem_of_getElem? (i := 0) rfl))
  have N7 := Fr.snoc X7 N5 g_a1
  obtain ⟨T8, h8, k8, X8, e8, E8, A8, st8⟩ := newP X7 hx hZ (hw _ (List.mem_of_getElem? (i := 9) rfl)) e7 (g := (mkF m 26 #[.val (.ref a1), .val (.int p2)] [(.int (4096 : Int32)), (.ref a1)])) rfl (hb hby d1_26) rfl (by decide) (cap := 4096) (by decide) (by decide) (by decide) (by decide)
  obtain ⟨b8, g8⟩ : ∃ z, z = h7.size := ⟨_, rfl⟩      -- the fresh array's address
  rw [← g8] at A8 st8
  have V_b8 := Arv.new A8 (by decide)      -- Arv Z h8 b8 k8 .int (4096 : Int32) [] (its first value); a place must be in the list before it's written: Arv.pad with pad_rep
  have g_b8 : n0 ≤ b8 := Nat.le_trans (Nat.le_trans (Nat.le_trans (Nat.le_trans (Nat.le_trans Z0 E4.1) (Keep.of_wr W5).1) E6.1) (Keep.of_wr W7).1) (Nat.le_of_eq g8.symm)
  have sz_b8 : h0.size ≤ b8 := (Nat.le_trans K7.1 (Nat.le_of_eq g8.symm))
  have K8 : Keep h0 h8 [a1] := K7.ext E8
  obtain ⟨T9, h9, X9, e9, W9, st9⟩ := putF X8 hx hZ hown (host := "") (Or.inl (hw _ (List.mem_of_getElem? (i := 14) rfl))) Via.refl e8 (((((F_starts_a1.ext E4).other W5 (Or.inr (slot_ne (Or.inl (hw _ (List.mem_of_getElem? (i := 15) rfl))) (Or.inl (hw _ (List.mem_of_getElem? (i := 11) rfl))) (by decide) (t := (.array .int)) (t' := (.array .int)) (by decide) (by decide)))).ext E6).other W7 (Or.inr (slot_ne (Or.inl (hw _ (List.mem_of_getElem? (i := 15) rfl))) (Or.inl (hw _ (List.mem_of_getElem? (i := 13) rfl))) (by decide) (t := (.array .int)) (t' := (.array .int)) (by decide) (by decide)))).ext E8) (((((E_a1.ext E4).wr W5).ext E6).wr W7).ext E8) (Or.inl (hw _ (List.mem_of_getElem? (i := 15) rfl))) (hw _ (List.mem_of_getElem? (i := 1) rfl)) (ty := (.array .int)) (by decide) rfl rfl (g := (mkF m 28 #[.val (.ref a1), .val (.int p2)] [(.ref b8), (.ref a1)])) rfl rfl (hb hby d1_28)
  have Fw9 := (((((F_starts_a1.ext E4).other W5 (Or.inr (slot_ne (Or.inl (hw _ (List.mem_of_getElem? (i := 15) rfl))) (Or.inl (hw _ (List.mem_of_getElem? (i := 11) rfl))) (by decide) (t := (.array .int)) (t' := (.array .int)) (by decide) (by decide)))).ext E6).other W7 (Or.inr (slot_ne (Or.inl (hw _ (List.mem_of_getElem? (i := 15) rfl))) (Or.inl (hw _ (List.mem_of_getElem? (i := 13) rfl))) (by decide) (t := (.array .int)) (t' := (.array .int)) (by decide) (by decide)))).ext E8).same W9      -- the field now holds (.ref b8)
  have K9 : Keep h0 h9 [a1] := K8.wr W9 (Or.inl (List.mem_of_getElem? (i := 0) rfl))
  have N9 := Fr.snoc X9 N7 g_a1
  obtain ⟨T10, h10, k10, X10, e10, E10, A10, st10⟩ := newP X9 hx hZ (hw _ (List.mem_of_getElem? (i := 9) rfl)) e9 (g := (mkF m 35 #[.val (.ref a1), .val (.int p2)] [(.int (4096 : Int32)), (.ref a1)])) rfl (hb hby d1_35) rfl (by decide) (cap := 4096) (by decide) (by decide) (by decide) (by decide)
  obtain ⟨b10, g10⟩ : ∃ z, z = h9.size := ⟨_, rfl⟩      -- the fresh array's address
  rw [← g10] at A10 st10
  have V_b10 := Arv.new A10 (by decide)      -- Arv Z h10 b10 k10 .int (4096 : Int32) [] (its first value); a place must be in the list before it's written: Arv.pad with pad_rep
  have g_b10 : n0 ≤ b10 := Nat.le_trans (Nat.le_trans (Nat.le_trans (Nat.le_trans (Nat.le_trans (Nat.le_trans (Nat.le_trans Z0 E4.1) (Keep.of_wr W5).1) E6.1) (Keep.of_wr W7).1) E8.1) (Keep.of_wr W9).1) (Nat.le_of_eq g10.symm)
  have sz_b10 : h0.size ≤ b10 := (Nat.le_trans K9.1 (Nat.le_of_eq g10.symm))
  have K10 : Keep h0 h10 [a1] := K9.ext E10
  obtain ⟨T11, h11, X11, e11, W11, st11⟩ := putF X10 hx hZ hown (host := "") (Or.inl (hw _ (List.mem_of_getElem? (i := 16) rfl))) Via.refl e10 (((((((F_lengths_a1.ext E4).other W5 (Or.inr (slot_ne (Or.inl (hw _ (List.mem_of_getElem? (i := 17) rfl))) (Or.inl (hw _ (List.mem_of_getElem? (i := 11) rfl))) (by decide) (t := (.array .int)) (t' := (.array .int)) (by decide) (by decide)))).ext E6).other W7 (Or.inr (slot_ne (Or.inl (hw _ (List.mem_of_getElem? (i := 17) rfl))) (Or.inl (hw _ (List.mem_of_getElem? (i := 13) rfl))) (by decide) (t := (.array .int)) (t' := (.array .int)) (by decide) (by decide)))).ext E8).other W9 (Or.inr (slot_ne (Or.inl (hw _ (List.mem_of_getElem? (i := 17) rfl))) (Or.inl (hw _ (List.mem_of_getElem? (i := 15) rfl))) (by decide) (t := (.array .int)) (t' := (.array .int)) (by decide) (by decide)))).ext E10) (((((((E_a1.ext E4).wr W5).ext E6).wr W7).ext E8).wr W9).ext E10) (Or.inl (hw _ (List.mem_of_getElem? (i := 17) rfl))) (hw _ (List.mem_of_getElem? (i := 1) rfl)) (ty := (.array .int)) (by decide) rfl rfl (g := (mkF m 37 #[.val (.ref a1), .val (.int p2)] [(.ref b10), (.ref a1)])) rfl rfl (hb hby d1_37)
  have Fw11 := (((((((F_lengths_a1.ext E4).other W5 (Or.inr (slot_ne (Or.inl (hw _ (List.mem_of_getElem? (i := 17) rfl))) (Or.inl (hw _ (List.mem_of_getElem? (i := 11) rfl))) (by decide) (t := (.array .int)) (t' := (.array .int)) (by decide) (by decide)))).ext E6).other W7 (Or.inr (slot_ne (Or.inl (hw _ (List.mem_of_getElem? (i := 17) rfl))) (Or.inl (hw _ (List.mem_of_getElem? (i := 13) rfl))) (by decide) (t := (.array .int)) (t' := (.array .int)) (by decide) (by decide)))).ext E8).other W9 (Or.inr (slot_ne (Or.inl (hw _ (List.mem_of_getElem? (i := 17) rfl))) (Or.inl (hw _ (List.mem_of_getElem? (i := 15) rfl))) (by decide) (t := (.array .int)) (t' := (.array .int)) (by decide) (by decide)))).ext E10).same W11      -- the field now holds (.ref b10)
  have K11 : Keep h0 h11 [a1] := K10.wr W11 (Or.inl (List.mem_of_getElem? (i := 0) rfl))
  have N11 := Fr.snoc X11 N9 g_a1
  obtain ⟨T12, h12, k12, X12, e12, E12, A12, O12, st12⟩ := newR X11 hx hZ hown (hw _ (List.mem_of_getElem? (i := 18) rfl)) (hw _ (List.mem_of_getElem? (i := 19) rfl)) e11 (g := (mkF m 44 #[.val (.ref a1), .val (.int p2)] [(.int (4096 : Int32)), (.ref a1)])) rfl (hb hby d1_44) rfl (by decide) (cap := 4096) (by decide) (by decide) (by decide) (by decide)
  obtain ⟨b12, g12⟩ : ∃ z, z = h11.size := ⟨_, rfl⟩      -- the fresh array's address
  rw [← g12] at A12 st12
  have V_b12 := Arv.new A12 (by decide)      -- Arv Z h12 b12 k12 (.object "java/lang/String") (4096 : Int32) [] .null; O12: what may lie in it (Sto.ofV)
  have g_b12 : n0 ≤ b12 := Nat.le_trans (Nat.le_trans (Nat.le_trans (Nat.le_trans (Nat.le_trans (Nat.le_trans (Nat.le_trans (Nat.le_trans (Nat.le_trans Z0 E4.1) (Keep.of_wr W5).1) E6.1) (Keep.of_wr W7).1) E8.1) (Keep.of_wr W9).1) E10.1) (Keep.of_wr W11).1) (Nat.le_of_eq g12.symm)
  have sz_b12 : h0.size ≤ b12 := (Nat.le_trans K11.1 (Nat.le_of_eq g12.symm))
  have K12 : Keep h0 h12 [a1] := K11.ext E12
  obtain ⟨T13, h13, X13, e13, W13, st13⟩ := putF X12 hx hZ hown (host := "") (Or.inl (hw _ (List.mem_of_getElem? (i := 20) rfl))) Via.refl e12 (((((((((F_texts_a1.ext E4).other W5 (Or.inr (slot_ne (Or.inl (hw _ (List.mem_of_getElem? (i := 21) rfl))) (Or.inl (hw _ (List.mem_of_getElem? (i := 11) rfl))) (by decide) (t := (.array (.object "java/lang/String"))) (t' := (.array .int)) (by decide) (by decide)))).ext E6).other W7 (Or.inr (slot_ne (Or.inl (hw _ (List.mem_of_getElem? (i := 21) rfl))) (Or.inl (hw _ (List.mem_of_getElem? (i := 13) rfl))) (by decide) (t := (.array (.object "java/lang/String"))) (t' := (.array .int)) (by decide) (by decide)))).ext E8).other W9 (Or.inr (slot_ne (Or.inl (hw _ (List.mem_of_getElem? (i := 21) rfl))) (Or.inl (hw _ (List.mem_of_getElem? (i := 15) rfl))) (by decide) (t := (.array (.object "java/lang/String"))) (t' := (.array .int)) (by decide) (by decide)))).ext E10).other W11 (Or.inr (slot_ne (Or.inl (hw _ (List.mem_of_getElem? (i := 21) rfl))) (Or.inl (hw _ (List.mem_of_getElem? (i := 17) rfl))) (by decide) (t := (.array (.object "java/lang/String"))) (t' := (.array .int)) (by decide) (by decide)))).ext E12) (((((((((E_a1.ext E4).wr W5).ext E6).wr W7).ext E8).wr W9).ext E10).wr W11).ext E12) (Or.inl (hw _ (List.mem_of_getElem? (i := 21) rfl))) (hw _ (List.mem_of_getElem? (i := 1) rfl)) (ty := (.array (.object "java/lang/String"))) (by decide) rfl rfl (g := (mkF m 47 #[.val (.ref a1), .val (.int p2)] [(.ref b12), (.ref a1)])) rfl rfl (hb hby d1_47)
  have Fw13 := (((((((((F_texts_a1.ext E4).other W5 (Or.inr (slot_ne (Or.inl (hw _ (List.mem_of_getElem? (i := 21) rfl))) (Or.inl (hw _ (List.mem_of_getElem? (i := 11) rfl))) (by decide) (t := (.array (.object "java/lang/String"))) (t' := (.array .int)) (by decide) (by decide)))).ext E6).other W7 (Or.inr (slot_ne (Or.inl (hw _ (List.mem_of_getElem? (i := 21) rfl))) (Or.inl (hw _ (List.mem_of_getElem? (i := 13) rfl))) (by decide) (t := (.array (.object "java/lang/String"))) (t' := (.array .int)) (by decide) (by decide)))).ext E8).other W9 (Or.inr (slot_ne (Or.inl (hw _ (List.mem_of_getElem? (i := 21) rfl))) (Or.inl (hw _ (List.mem_of_getElem? (i := 15) rfl))) (by decide) (t := (.array (.object "java/lang/String"))) (t' := (.array .int)) (by decide) (by decide)))).ext E10).other W11 (Or.inr (slot_ne (Or.inl (hw _ (List.mem_of_getElem? (i := 21) rfl))) (Or.inl (hw _ (List.mem_of_getElem? (i := 17) rfl))) (by decide) (t := (.array (.object "java/lang/String"))) (t' := (.array .int)) (by decide) (by decide)))).ext E12).same W13      -- the field now holds (.ref b12)
  have K13 : Keep h0 h13 [a1] := K12.wr W13 (Or.inl (List.mem_of_getElem? (i := 0) rfl))
  have N13 := Fr.snoc X13 N11 g_a1
  obtain ⟨T14, h14, k14, X14, e14, E14, A14, O14, st14⟩ := newR X13 hx hZ hown (hw _ (List.mem_of_getElem? (i := 22) rfl)) (hw _ (List.mem_of_getElem? (i := 23) rfl)) e13 (g := (mkF m 52 #[.val (.ref a1), .val (.int p2)] [(.int (0 : Int32)), (.ref a1)])) rfl (hb hby d1_52) rfl (by decide) (cap := 0) (by decide) (by decide) (by decide) (by decide)
  obtain ⟨b14, g14⟩ : ∃ z, z = h13.size := ⟨_, rfl⟩      -- the fresh array's address
  rw [← g14] at A14 st14
  have V_b14 := Arv.new A14 (by decide)      -- Arv Z h14 b14 k14 (.object "java/time/Instant") (0 : Int32) [] .null; O14: what may lie in it (Sto.ofV)
  have g_b14 : n0 ≤ b14 := Nat.le_trans (Nat.le_trans (Nat.le_trans (Nat.le_trans (Nat.le_trans (Nat.le_trans (Nat.le_trans (Nat.le_trans (Nat.le_trans (Nat.le_trans (Nat.le_trans Z0 E4.1) (Keep.of_wr W5).1) E6.1) (Keep.of_wr W7).1) E8.1) (Keep.of_wr W9).1) E10.1) (Keep.of_wr W11).1) E12.1) (Keep.of_wr W13).1) (Nat.le_of_eq g14.symm)
  have sz_b14 : h0.size ≤ b14 := (Nat.le_trans K13.1 (Nat.le_of_eq g14.symm))
  have K14 : Keep h0 h14 [a1] := K13.ext E14
  obtain ⟨T15, h15, X15, e15, W15, st15⟩ := putF X14 hx hZ hown (host := "") (Or.inl (hw _ (List.mem_of_getElem? (i := 24) rfl))) Via.refl e14 (((((((((((F_instants_a1.ext E4).other W5 (Or.inr (slot_ne (Or.inl (hw _ (List.mem_of_getElem? (i := 25) rfl))) (Or.inl (hw _ (List.mem_of_getElem? (i := 11) rfl))) (by decide) (t := (.array (.object "java/time/Instant"))) (t' := (.array .int)) (by decide) (by decide)))).ext E6).other W7 (Or.inr (slot_ne (Or.inl (hw _ (List.mem_of_getElem? (i := 25) rfl))) (Or.inl (hw _ (List.mem_of_getElem? (i := 13) rfl))) (by decide) (t := (.array (.object "java/time/Instant"))) (t' := (.array .int)) (by decide) (by decide)))).ext E8).other W9 (Or.inr (slot_ne (Or.inl (hw _ (List.mem_of_getElem? (i := 25) rfl))) (Or.inl (hw _ (List.mem_of_getElem? (i := 15) rfl))) (by decide) (t := (.array (.object "java/time/Instant"))) (t' := (.array .int)) (by decide) (by decide)))).ext E10).other W11 (Or.inr (slot_ne (Or.inl (hw _ (List.mem_of_getElem? (i := 25) rfl))) (Or.inl (hw _ (List.mem_of_getElem? (i := 17) rfl))) (by decide) (t := (.array (.object "java/time/Instant"))) (t' := (.array .int)) (by decide) (by decide)))).ext E12).other W13 (Or.inr (slot_ne (Or.inl (hw _ (List.mem_of_getElem? (i := 25) rfl))) (Or.inl (hw _ (List.mem_of_getElem? (i := 21) rfl))) (by decide) (t := (.array (.object "java/time/Instant"))) (t' := (.array (.object "java/lang/String"))) (by decide) (by decide)))).ext E14) (((((((((((E_a1.ext E4).wr W5).ext E6).wr W7).ext E8).wr W9).ext E10).wr W11).ext E12).wr W13).ext E14) (Or.inl (hw _ (List.mem_of_getElem? (i := 25) rfl))) (hw _ (List.mem_of_getElem? (i := 1) rfl)) (ty := (.array (.object "java/time/Instant"))) (by decide) rfl rfl (g := (mkF m 55 #[.val (.ref a1), .val (.int p2)] [(.ref b14), (.ref a1)])) rfl rfl (hb hby d1_55)
  have Fw15 := (((((((((((F_instants_a1.ext E4).other W5 (Or.inr (slot_ne (Or.inl (hw _ (List.mem_of_getElem? (i := 25) rfl))) (Or.inl (hw _ (List.mem_of_getElem? (i := 11) rfl))) (by decide) (t := (.array (.object "java/time/Instant"))) (t' := (.array .int)) (by decide) (by decide)))).ext E6).other W7 (Or.inr (slot_ne (Or.inl (hw _ (List.mem_of_getElem? (i := 25) rfl))) (Or.inl (hw _ (List.mem_of_getElem? (i := 13) rfl))) (by decide) (t := (.array (.object "java/time/Instant"))) (t' := (.array .int)) (by decide) (by decide)))).ext E8).other W9 (Or.inr (slot_ne (Or.inl (hw _ (List.mem_of_getElem? (i := 25) rfl))) (Or.inl (hw _ (List.mem_of_getElem? (i := 15) rfl))) (by decide) (t := (.array (.object "java/time/Instant"))) (t' := (.array .int)) (by decide) (by decide)))).ext E10).other W11 (Or.inr (slot_ne (Or.inl (hw _ (List.mem_of_getElem? (i := 25) rfl))) (Or.inl (hw _ (List.mem_of_getElem? (i := 17) rfl))) (by decide) (t := (.array (.object "java/time/Instant"))) (t' := (.array .int)) (by decide) (by decide)))).ext E12).other W13 (Or.inr (slot_ne (Or.inl (hw _ (List.mem_of_getElem? (i := 25) rfl))) (Or.inl (hw _ (List.mem_of_getElem? (i := 21) rfl))) (by decide) (t := (.array (.object "java/time/Instant"))) (t' := (.array (.object "java/lang/String"))) (by decide) (by decide)))).ext E14).same W15      -- the field now holds (.ref b14)
  have K15 : Keep h0 h15 [a1] := K14.wr W15 (Or.inl (List.mem_of_getElem? (i := 0) rfl))
  have N15 := Fr.snoc X15 N13 g_a1
  obtain ⟨T16, h16, k16, X16, e16, E16, A16, st16⟩ := newP X15 hx hZ (hw _ (List.mem_of_getElem? (i := 26) rfl)) e15 (g := (mkF m 60 #[.val (.ref a1), .val (.int p2)] [(.int (0 : Int32)), (.ref a1)])) rfl (hb hby d1_60) rfl (by decide) (cap := 0) (by decide) (by decide) (by decide) (by decide)
  obtain ⟨b16, g16⟩ : ∃ z, z = h15.size := ⟨_, rfl⟩      -- the fresh array's address
  rw [← g16] at A16 st16
  have V_b16 := Arv.new A16 (by decide)      -- Arv Z h16 b16 k16 .double (0 : Int32) [] (its first value); a place must be in the list before it's written: Arv.pad with pad_rep
  have g_b16 : n0 ≤ b16 := Nat.le_trans (Nat.le_trans (Nat.le_trans (Nat.le_trans (Nat.le_trans (Nat.le_trans (Nat.le_trans (Nat.le_trans (Nat.le_trans (Nat.le_trans (Nat.le_trans (Nat.le_trans (Nat.le_trans Z0 E4.1) (Keep.of_wr W5).1) E6.1) (Keep.of_wr W7).1) E8.1) (Keep.of_wr W9).1) E10.1) (Keep.of_wr W11).1) E12.1) (Keep.of_wr W13).1) E14.1) (Keep.of_wr W15).1) (Nat.le_of_eq g16.symm)
  have sz_b16 : h0.size ≤ b16 := (Nat.le_trans K15.1 (Nat.le_of_eq g16.symm))
  have K16 : Keep h0 h16 [a1] := K15.ext E16
  obtain ⟨T17, h17, X17, e17, W17, st17⟩ := putF X16 hx hZ hown (host := "") (Or.inl (hw _ (List.mem_of_getElem? (i := 27) rfl))) Via.refl e16 (((((((((((((F_decimals_a1.ext E4).other W5 (Or.inr (slot_ne (Or.inl (hw _ (List.mem_of_getElem? (i := 28) rfl))) (Or.inl (hw _ (List.mem_of_getElem? (i := 11) rfl))) (by decide) (t := (.array .double)) (t' := (.array .int)) (by decide) (by decide)))).ext E6).other W7 (Or.inr (slot_ne (Or.inl (hw _ (List.mem_of_getElem? (i := 28) rfl))) (Or.inl (hw _ (List.mem_of_getElem? (i := 13) rfl))) (by decide) (t := (.array .double)) (t' := (.array .int)) (by decide) (by decide)))).ext E8).other W9 (Or.inr (slot_ne (Or.inl (hw _ (List.mem_of_getElem? (i := 28) rfl))) (Or.inl (hw _ (List.mem_of_getElem? (i := 15) rfl))) (by decide) (t := (.array .double)) (t' := (.array .int)) (by decide) (by decide)))).ext E10).other W11 (Or.inr (slot_ne (Or.inl (hw _ (List.mem_of_getElem? (i := 28) rfl))) (Or.inl (hw _ (List.mem_of_getElem? (i := 17) rfl))) (by decide) (t := (.array .double)) (t' := (.array .int)) (by decide) (by decide)))).ext E12).other W13 (Or.inr (slot_ne (Or.inl (hw _ (List.mem_of_getElem? (i := 28) rfl))) (Or.inl (hw _ (List.mem_of_getElem? (i := 21) rfl))) (by decide) (t := (.array .double)) (t' := (.array (.object "java/lang/String"))) (by decide) (by decide)))).ext E14).other W15 (Or.inr (slot_ne (Or.inl (hw _ (List.mem_of_getElem? (i := 28) rfl))) (Or.inl (hw _ (List.mem_of_getElem? (i := 25) rfl))) (by decide) (t := (.array .double)) (t' := (.array (.object "java/time/Instant"))) (by decide) (by decide)))).ext E16) (((((((((((((E_a1.ext E4).wr W5).ext E6).wr W7).ext E8).wr W9).ext E10).wr W11).ext E12).wr W13).ext E14).wr W15).ext E16) (Or.inl (hw _ (List.mem_of_getElem? (i := 28) rfl))) (hw _ (List.mem_of_getElem? (i := 1) rfl)) (ty := (.array .double)) (by decide) rfl rfl (g := (mkF m 62 #[.val (.ref a1), .val (.int p2)] [(.ref b16), (.ref a1)])) rfl rfl (hb hby d1_62)
  have Fw17 := (((((((((((((F_decimals_a1.ext E4).other W5 (Or.inr (slot_ne (Or.inl (hw _ (List.mem_of_getElem? (i := 28) rfl))) (Or.inl (hw _ (List.mem_of_getElem? (i := 11) rfl))) (by decide) (t := (.array .double)) (t' := (.array .int)) (by decide) (by decide)))).ext E6).other W7 (Or.inr (slot_ne (Or.inl (hw _ (List.mem_of_getElem? (i := 28) rfl))) (Or.inl (hw _ (List.mem_of_getElem? (i := 13) rfl))) (by decide) (t := (.array .double)) (t' := (.array .int)) (by decide) (by decide)))).ext E8).other W9 (Or.inr (slot_ne (Or.inl (hw _ (List.mem_of_getElem? (i := 28) rfl))) (Or.inl (hw _ (List.mem_of_getElem? (i := 15) rfl))) (by decide) (t := (.array .double)) (t' := (.array .int)) (by decide) (by decide)))).ext E10).other W11 (Or.inr (slot_ne (Or.inl (hw _ (List.mem_of_getElem? (i := 28) rfl))) (Or.inl (hw _ (List.mem_of_getElem? (i := 17) rfl))) (by decide) (t := (.array .double)) (t' := (.array .int)) (by decide) (by decide)))).ext E12).other W13 (Or.inr (slot_ne (Or.inl (hw _ (List.mem_of_getElem? (i := 28) rfl))) (Or.inl (hw _ (List.mem_of_getElem? (i := 21) rfl))) (by decide) (t := (.array .double)) (t' := (.array (.object "java/lang/String"))) (by decide) (by decide)))).ext E14).other W15 (Or.inr (slot_ne (Or.inl (hw _ (List.mem_of_getElem? (i := 28) rfl))) (Or.inl (hw _ (List.mem_of_getElem? (i := 25) rfl))) (by decide) (t := (.array .double)) (t' := (.array (.object "java/time/Instant"))) (by decide) (by decide)))).ext E16).same W17      -- the field now holds (.ref b16)
  have K17 : Keep h0 h17 [a1] := K16.wr W17 (Or.inl (List.mem_of_getElem? (i := 0) rfl))
  have N17 := Fr.snoc X17 N15 g_a1
  obtain ⟨T18, h18, k18, X18, e18, E18, A18, st18⟩ := newP X17 hx hZ (hw _ (List.mem_of_getElem? (i := 29) rfl)) e17 (g := (mkF m 67 #[.val (.ref a1), .val (.int p2)] [(.int (0 : Int32)), (.ref a1)])) rfl (hb hby d1_67) rfl (by decide) (cap := 0) (by decide) (by decide) (by decide) (by decide)
  obtain ⟨b18, g18⟩ : ∃ z, z = h17.size := ⟨_, rfl⟩      -- the fresh array's address
  rw [← g18] at A18 st18
  have V_b18 := Arv.new A18 (by decide)      -- Arv Z h18 b18 k18 .boolean (0 : Int32) [] (its first value); a place must be in the list before it's written: Arv.pad with pad_rep
  have g_b18 : n0 ≤ b18 := Nat.le_trans (Nat.le_trans (Nat.le_trans (Nat.le_trans (Nat.le_trans (Nat.le_trans (Nat.le_trans (Nat.le_trans (Nat.le_trans (Nat.le_trans (Nat.le_trans (Nat.le_trans (Nat.le_trans (Nat.le_trans (Nat.le_trans Z0 E4.1) (Keep.of_wr W5).1) E6.1) (Keep.of_wr W7).1) E8.1) (Keep.of_wr W9).1) E10.1) (Keep.of_wr W11).1) E12.1) (Keep.of_wr W13).1) E14.1) (Keep.of_wr W15).1) E16.1) (Keep.of_wr W17).1) (Nat.le_of_eq g18.symm)
  have sz_b18 : h0.size ≤ b18 := (Nat.le_trans K17.1 (Nat.le_of_eq g18.symm))
  have K18 : Keep h0 h18 [a1] := K17.ext E18
  obtain ⟨T19, h19, X19, e19, W19, st19⟩ := putF X18 hx hZ hown (host := "") (Or.inl (hw _ (List.mem_of_getElem? (i := 30) rfl))) Via.refl e18 (((((((((((((((F_sameSeries_a1.ext E4).other W5 (Or.inr (slot_ne (Or.inl (hw _ (List.mem_of_getElem? (i := 31) rfl))) (Or.inl (hw _ (List.mem_of_getElem? (i := 11) rfl))) (by decide) (t := (.array .boolean)) (t' := (.array .int)) (by decide) (by decide)))).ext E6).other W7 (Or.inr (slot_ne (Or.inl (hw _ (List.mem_of_getElem? (i := 31) rfl))) (Or.inl (hw _ (List.mem_of_getElem? (i := 13) rfl))) (by decide) (t := (.array .boolean)) (t' := (.array .int)) (by decide) (by decide)))).ext E8).other W9 (Or.inr (slot_ne (Or.inl (hw _ (List.mem_of_getElem? (i := 31) rfl))) (Or.inl (hw _ (List.mem_of_getElem? (i := 15) rfl))) (by decide) (t := (.array .boolean)) (t' := (.array .int)) (by decide) (by decide)))).ext E10).other W11 (Or.inr (slot_ne (Or.inl (hw _ (List.mem_of_getElem? (i := 31) rfl))) (Or.inl (hw _ (List.mem_of_getElem? (i := 17) rfl))) (by decide) (t := (.array .boolean)) (t' := (.array .int)) (by decide) (by decide)))).ext E12).other W13 (Or.inr (slot_ne (Or.inl (hw _ (List.mem_of_getElem? (i := 31) rfl))) (Or.inl (hw _ (List.mem_of_getElem? (i := 21) rfl))) (by decide) (t := (.array .boolean)) (t' := (.array (.object "java/lang/String"))) (by decide) (by decide)))).ext E14).other W15 (Or.inr (slot_ne (Or.inl (hw _ (List.mem_of_getElem? (i := 31) rfl))) (Or.inl (hw _ (List.mem_of_getElem? (i := 25) rfl))) (by decide) (t := (.array .boolean)) (t' := (.array (.object "java/time/Instant"))) (by decide) (by decide)))).ext E16).other W17 (Or.inr (slot_ne (Or.inl (hw _ (List.mem_of_getElem? (i := 31) rfl))) (Or.inl (hw _ (List.mem_of_getElem? (i := 28) rfl))) (by decide) (t := (.array .boolean)) (t' := (.array .double)) (by decide) (by decide)))).ext E18) (((((((((((((((E_a1.ext E4).wr W5).ext E6).wr W7).ext E8).wr W9).ext E10).wr W11).ext E12).wr W13).ext E14).wr W15).ext E16).wr W17).ext E18) (Or.inl (hw _ (List.mem_of_getElem? (i := 31) rfl))) (hw _ (List.mem_of_getElem? (i := 1) rfl)) (ty := (.array .boolean)) (by decide) rfl rfl (g := (mkF m 69 #[.val (.ref a1), .val (.int p2)] [(.ref b18), (.ref a1)])) rfl rfl (hb hby d1_69)
  have Fw19 := (((((((((((((((F_sameSeries_a1.ext E4).other W5 (Or.inr (slot_ne (Or.inl (hw _ (List.mem_of_getElem? (i := 31) rfl))) (Or.inl (hw _ (List.mem_of_getElem? (i := 11) rfl))) (by decide) (t := (.array .boolean)) (t' := (.array .int)) (by decide) (by decide)))).ext E6).other W7 (Or.inr (slot_ne (Or.inl (hw _ (List.mem_of_getElem? (i := 31) rfl))) (Or.inl (hw _ (List.mem_of_getElem? (i := 13) rfl))) (by decide) (t := (.array .boolean)) (t' := (.array .int)) (by decide) (by decide)))).ext E8).other W9 (Or.inr (slot_ne (Or.inl (hw _ (List.mem_of_getElem? (i := 31) rfl))) (Or.inl (hw _ (List.mem_of_getElem? (i := 15) rfl))) (by decide) (t := (.array .boolean)) (t' := (.array .int)) (by decide) (by decide)))).ext E10).other W11 (Or.inr (slot_ne (Or.inl (hw _ (List.mem_of_getElem? (i := 31) rfl))) (Or.inl (hw _ (List.mem_of_getElem? (i := 17) rfl))) (by decide) (t := (.array .boolean)) (t' := (.array .int)) (by decide) (by decide)))).ext E12).other W13 (Or.inr (slot_ne (Or.inl (hw _ (List.mem_of_getElem? (i := 31) rfl))) (Or.inl (hw _ (List.mem_of_getElem? (i := 21) rfl))) (by decide) (t := (.array .boolean)) (t' := (.array (.object "java/lang/String"))) (by decide) (by decide)))).ext E14).other W15 (Or.inr (slot_ne (Or.inl (hw _ (List.mem_of_getElem? (i := 31) rfl))) (Or.inl (hw _ (List.mem_of_getElem? (i := 25) rfl))) (by decide) (t := (.array .boolean)) (t' := (.array (.object "java/time/Instant"))) (by decide) (by decide)))).ext E16).other W17 (Or.inr (slot_ne (Or.inl (hw _ (List.mem_of_getElem? (i := 31) rfl))) (Or.inl (hw _ (List.mem_of_getElem? (i := 28) rfl))) (by decide) (t := (.array .boolean)) (t' := (.array .double)) (by decide) (by decide)))).ext E18).same W19      -- the field now holds (.ref b18)
  have K19 : Keep h0 h19 [a1] := K18.wr W19 (Or.inl (List.mem_of_getElem? (i := 0) rfl))
  have N19 := Fr.snoc X19 N17 g_a1
  obtain ⟨T20, h20, k20, X20, e20, E20, A20, st20⟩ := newP X19 hx hZ (hw _ (List.mem_of_getElem? (i := 32) rfl)) e19 (g := (mkF m 74 #[.val (.ref a1), .val (.int p2)] [(.int p2), (.ref a1)])) rfl (hb hby d1_74) rfl hp (cap := 255) hq (by decide) (by decide) (by decide)
  obtain ⟨b20, g20⟩ : ∃ z, z = h19.size := ⟨_, rfl⟩      -- the fresh array's address
  rw [← g20] at A20 st20
  have V_b20 := Arv.new A20 hp      -- Arv Z h20 b20 k20 .byte p2 [] (its first value); a place must be in the list before it's written: Arv.pad with pad_rep
  have g_b20 : n0 ≤ b20 := Nat.le_trans (Nat.le_trans (Nat.le_trans (Nat.le_trans (Nat.le_trans (Nat.le_trans (Nat.le_trans (Nat.le_trans (Nat.le_trans (Nat.le_trans (Nat.le_trans (Nat.le_trans (Nat.le_trans (Nat.le_trans (Nat.le_trans (Nat.le_trans (Nat.le_trans Z0 E4.1) (Keep.of_wr W5).1) E6.1) (Keep.of_wr W7).1) E8.1) (Keep.of_wr W9).1) E10.1) (Keep.of_wr W11).1) E12.1) (Keep.of_wr W13).1) E14.1) (Keep.of_wr W15).1) E16.1) (Keep.of_wr W17).1) E18.1) (Keep.of_wr W19).1) (Nat.le_of_eq g20.symm)
  have sz_b20 : h0.size ≤ b20 := (Nat.le_trans K19.1 (Nat.le_of_eq g20.symm))
  have K20 : Keep h0 h20 [a1] := K19.ext E20
  -- newarray of at most cap (TODO_cap: the greatest length): this body's room: slots + cap; its caller's figures: cells + 1, slots + cap
  obtain ⟨T21, h21, X21, e21, W21, st21⟩ := putF X20 hx hZ hown (host := "") (Or.inl (hw _ (List.mem_of_getElem? (i := 33) rfl))) Via.refl e20 (((((((((((((((((F_bytes_a1.ext E4).other W5 (Or.inr (slot_ne (Or.inl (hw _ (List.mem_of_getElem? (i := 34) rfl))) (Or.inl (hw _ (List.mem_of_getElem? (i := 11) rfl))) (by decide) (t := (.array .byte)) (t' := (.array .int)) (by decide) (by decide)))).ext E6).other W7 (Or.inr (slot_ne (Or.inl (hw _ (List.mem_of_getElem? (i := 34) rfl))) (Or.inl (hw _ (List.mem_of_getElem? (i := 13) rfl))) (by decide) (t := (.array .byte)) (t' := (.array .int)) (by decide) (by decide)))).ext E8).other W9 (Or.inr (slot_ne (Or.inl (hw _ (List.mem_of_getElem? (i := 34) rfl))) (Or.inl (hw _ (List.mem_of_getElem? (i := 15) rfl))) (by decide) (t := (.array .byte)) (t' := (.array .int)) (by decide) (by decide)))).ext E10).other W11 (Or.inr (slot_ne (Or.inl (hw _ (List.mem_of_getElem? (i := 34) rfl))) (Or.inl (hw _ (List.mem_of_getElem? (i := 17) rfl))) (by decide) (t := (.array .byte)) (t' := (.array .int)) (by decide) (by decide)))).ext E12).other W13 (Or.inr (slot_ne (Or.inl (hw _ (List.mem_of_getElem? (i := 34) rfl))) (Or.inl (hw _ (List.mem_of_getElem? (i := 21) rfl))) (by decide) (t := (.array .byte)) (t' := (.array (.object "java/lang/String"))) (by decide) (by decide)))).ext E14).other W15 (Or.inr (slot_ne (Or.inl (hw _ (List.mem_of_getElem? (i := 34) rfl))) (Or.inl (hw _ (List.mem_of_getElem? (i := 25) rfl))) (by decide) (t := (.array .byte)) (t' := (.array (.object "java/time/Instant"))) (by decide) (by decide)))).ext E16).other W17 (Or.inr (slot_ne (Or.inl (hw _ (List.mem_of_getElem? (i := 34) rfl))) (Or.inl (hw _ (List.mem_of_getElem? (i := 28) rfl))) (by decide) (t := (.array .byte)) (t' := (.array .double)) (by decide) (by decide)))).ext E18).other W19 (Or.inr (slot_ne (Or.inl (hw _ (List.mem_of_getElem? (i := 34) rfl))) (Or.inl (hw _ (List.mem_of_getElem? (i := 31) rfl))) (by decide) (t := (.array .byte)) (t' := (.array .boolean)) (by decide) (by decide)))).ext E20) (((((((((((((((((E_a1.ext E4).wr W5).ext E6).wr W7).ext E8).wr W9).ext E10).wr W11).ext E12).wr W13).ext E14).wr W15).ext E16).wr W17).ext E18).wr W19).ext E20) (Or.inl (hw _ (List.mem_of_getElem? (i := 34) rfl))) (hw _ (List.mem_of_getElem? (i := 1) rfl)) (ty := (.array .byte)) (by decide) rfl rfl (g := (mkF m 76 #[.val (.ref a1), .val (.int p2)] [(.ref b20), (.ref a1)])) rfl rfl (hb hby d1_76)
  have Fw21 := (((((((((((((((((F_bytes_a1.ext E4).other W5 (Or.inr (slot_ne (Or.inl (hw _ (List.mem_of_getElem? (i := 34) rfl))) (Or.inl (hw _ (List.mem_of_getElem? (i := 11) rfl))) (by decide) (t := (.array .byte)) (t' := (.array .int)) (by decide) (by decide)))).ext E6).other W7 (Or.inr (slot_ne (Or.inl (hw _ (List.mem_of_getElem? (i := 34) rfl))) (Or.inl (hw _ (List.mem_of_getElem? (i := 13) rfl))) (by decide) (t := (.array .byte)) (t' := (.array .int)) (by decide) (by decide)))).ext E8).other W9 (Or.inr (slot_ne (Or.inl (hw _ (List.mem_of_getElem? (i := 34) rfl))) (Or.inl (hw _ (List.mem_of_getElem? (i := 15) rfl))) (by decide) (t := (.array .byte)) (t' := (.array .int)) (by decide) (by decide)))).ext E10).other W11 (Or.inr (slot_ne (Or.inl (hw _ (List.mem_of_getElem? (i := 34) rfl))) (Or.inl (hw _ (List.mem_of_getElem? (i := 17) rfl))) (by decide) (t := (.array .byte)) (t' := (.array .int)) (by decide) (by decide)))).ext E12).other W13 (Or.inr (slot_ne (Or.inl (hw _ (List.mem_of_getElem? (i := 34) rfl))) (Or.inl (hw _ (List.mem_of_getElem? (i := 21) rfl))) (by decide) (t := (.array .byte)) (t' := (.array (.object "java/lang/String"))) (by decide) (by decide)))).ext E14).other W15 (Or.inr (slot_ne (Or.inl (hw _ (List.mem_of_getElem? (i := 34) rfl))) (Or.inl (hw _ (List.mem_of_getElem? (i := 25) rfl))) (by decide) (t := (.array .byte)) (t' := (.array (.object "java/time/Instant"))) (by decide) (by decide)))).ext E16).other W17 (Or.inr (slot_ne (Or.inl (hw _ (List.mem_of_getElem? (i := 34) rfl))) (Or.inl (hw _ (List.mem_of_getElem? (i := 28) rfl))) (by decide) (t := (.array .byte)) (t' := (.array .double)) (by decide) (by decide)))).ext E18).other W19 (Or.inr (slot_ne (Or.inl (hw _ (List.mem_of_getElem? (i := 34) rfl))) (Or.inl (hw _ (List.mem_of_getElem? (i := 31) rfl))) (by decide) (t := (.array .byte)) (t' := (.array .boolean)) (by decide) (by decide)))).ext E20).same W21      -- the field now holds (.ref b20)
  have K21 : Keep h0 h21 [a1] := K20.wr W21 (Or.inl (List.mem_of_getElem? (i := 0) rfl))
  have N21 := Fr.snoc X21 N19 g_a1
  have ha1 := E_a1.lt
  have ne_b4 : b4 ≠ a1 := Nat.ne_of_gt (Nat.lt_of_lt_of_le ha1 sz_b4)
  have FF_lines := ((((((((((((((((Fw5.ext E6).other W7 (Or.inr (slot_ne (Or.inl (hw _ (List.mem_of_getElem? (i := 11) rfl))) (Or.inl (hw _ (List.mem_of_getElem? (i := 13) rfl))) (by decide) (t := (.array .int)) (t' := (.array .int)) (by decide) (by decide)))).ext E8).other W9 (Or.inr (slot_ne (Or.inl (hw _ (List.mem_of_getElem? (i := 11) rfl))) (Or.inl (hw _ (List.mem_of_getElem? (i := 15) rfl))) (by decide) (t := (.array .int)) (t' := (.array .int)) (by decide) (by decide)))).ext E10).other W11 (Or.inr (slot_ne (Or.inl (hw _ (List.mem_of_getElem? (i := 11) rfl))) (Or.inl (hw _ (List.mem_of_getElem? (i := 17) rfl))) (by decide) (t := (.array .int)) (t' := (.array .int)) (by decide) (by decide)))).ext E12).other W13 (Or.inr (slot_ne (Or.inl (hw _ (List.mem_of_getElem? (i := 11) rfl))) (Or.inl (hw _ (List.mem_of_getElem? (i := 21) rfl))) (by decide) (t := (.array .int)) (t' := (.array (.object "java/lang/String"))) (by decide) (by decide)))).ext E14).other W15 (Or.inr (slot_ne (Or.inl (hw _ (List.mem_of_getElem? (i := 11) rfl))) (Or.inl (hw _ (List.mem_of_getElem? (i := 25) rfl))) (by decide) (t := (.array .int)) (t' := (.array (.object "java/time/Instant"))) (by decide) (by decide)))).ext E16).other W17 (Or.inr (slot_ne (Or.inl (hw _ (List.mem_of_getElem? (i := 11) rfl))) (Or.inl (hw _ (List.mem_of_getElem? (i := 28) rfl))) (by decide) (t := (.array .int)) (t' := (.array .double)) (by decide) (by decide)))).ext E18).other W19 (Or.inr (slot_ne (Or.inl (hw _ (List.mem_of_getElem? (i := 11) rfl))) (Or.inl (hw _ (List.mem_of_getElem? (i := 31) rfl))) (by decide) (t := (.array .int)) (t' := (.array .boolean)) (by decide) (by decide)))).ext E20).other W21 (Or.inr (slot_ne (Or.inl (hw _ (List.mem_of_getElem? (i := 11) rfl))) (Or.inl (hw _ (List.mem_of_getElem? (i := 34) rfl))) (by decide) (t := (.array .int)) (t' := (.array .byte)) (by decide) (by decide))))
  have ne_b6 : b6 ≠ a1 := Nat.ne_of_gt (Nat.lt_of_lt_of_le ha1 sz_b6)
  have FF_firstFields := ((((((((((((((Fw7.ext E8).other W9 (Or.inr (slot_ne (Or.inl (hw _ (List.mem_of_getElem? (i := 13) rfl))) (Or.inl (hw _ (List.mem_of_getElem? (i := 15) rfl))) (by decide) (t := (.array .int)) (t' := (.array .int)) (by decide) (by decide)))).ext E10).other W11 (Or.inr (slot_ne (Or.inl (hw _ (List.mem_of_getElem? (i := 13) rfl))) (Or.inl (hw _ (List.mem_of_getElem? (i := 17) rfl))) (by decide) (t := (.array .int)) (t' := (.array .int)) (by decide) (by decide)))).ext E12).other W13 (Or.inr (slot_ne (Or.inl (hw _ (List.mem_of_getElem? (i := 13) rfl))) (Or.inl (hw _ (List.mem_of_getElem? (i := 21) rfl))) (by decide) (t := (.array .int)) (t' := (.array (.object "java/lang/String"))) (by decide) (by decide)))).ext E14).other W15 (Or.inr (slot_ne (Or.inl (hw _ (List.mem_of_getElem? (i := 13) rfl))) (Or.inl (hw _ (List.mem_of_getElem? (i := 25) rfl))) (by decide) (t := (.array .int)) (t' := (.array (.object "java/time/Instant"))) (by decide) (by decide)))).ext E16).other W17 (Or.inr (slot_ne (Or.inl (hw _ (List.mem_of_getElem? (i := 13) rfl))) (Or.inl (hw _ (List.mem_of_getElem? (i := 28) rfl))) (by decide) (t := (.array .int)) (t' := (.array .double)) (by decide) (by decide)))).ext E18).other W19 (Or.inr (slot_ne (Or.inl (hw _ (List.mem_of_getElem? (i := 13) rfl))) (Or.inl (hw _ (List.mem_of_getElem? (i := 31) rfl))) (by decide) (t := (.array .int)) (t' := (.array .boolean)) (by decide) (by decide)))).ext E20).other W21 (Or.inr (slot_ne (Or.inl (hw _ (List.mem_of_getElem? (i := 13) rfl))) (Or.inl (hw _ (List.mem_of_getElem? (i := 34) rfl))) (by decide) (t := (.array .int)) (t' := (.array .byte)) (by decide) (by decide))))
  have ne_b8 : b8 ≠ a1 := Nat.ne_of_gt (Nat.lt_of_lt_of_le ha1 sz_b8)
  have FF_starts := ((((((((((((Fw9.ext E10).other W11 (Or.inr (slot_ne (Or.inl (hw _ (List.mem_of_getElem? (i := 15) rfl))) (Or.inl (hw _ (List.mem_of_getElem? (i := 17) rfl))) (by decide) (t := (.array .int)) (t' := (.array .int)) (by decide) (by decide)))).ext E12).other W13 (Or.inr (slot_ne (Or.inl (hw _ (List.mem_of_getElem? (i := 15) rfl))) (Or.inl (hw _ (List.mem_of_getElem? (i := 21) rfl))) (by decide) (t := (.array .int)) (t' := (.array (.object "java/lang/String"))) (by decide) (by decide)))).ext E14).other W15 (Or.inr (slot_ne (Or.inl (hw _ (List.mem_of_getElem? (i := 15) rfl))) (Or.inl (hw _ (List.mem_of_getElem? (i := 25) rfl))) (by decide) (t := (.array .int)) (t' := (.array (.object "java/time/Instant"))) (by decide) (by decide)))).ext E16).other W17 (Or.inr (slot_ne (Or.inl (hw _ (List.mem_of_getElem? (i := 15) rfl))) (Or.inl (hw _ (List.mem_of_getElem? (i := 28) rfl))) (by decide) (t := (.array .int)) (t' := (.array .double)) (by decide) (by decide)))).ext E18).other W19 (Or.inr (slot_ne (Or.inl (hw _ (List.mem_of_getElem? (i := 15) rfl))) (Or.inl (hw _ (List.mem_of_getElem? (i := 31) rfl))) (by decide) (t := (.array .int)) (t' := (.array .boolean)) (by decide) (by decide)))).ext E20).other W21 (Or.inr (slot_ne (Or.inl (hw _ (List.mem_of_getElem? (i := 15) rfl))) (Or.inl (hw _ (List.mem_of_getElem? (i := 34) rfl))) (by decide) (t := (.array .int)) (t' := (.array .byte)) (by decide) (by decide))))
  have ne_b10 : b10 ≠ a1 := Nat.ne_of_gt (Nat.lt_of_lt_of_le ha1 sz_b10)
  have FF_lengths := ((((((((((Fw11.ext E12).other W13 (Or.inr (slot_ne (Or.inl (hw _ (List.mem_of_getElem? (i := 17) rfl))) (Or.inl (hw _ (List.mem_of_getElem? (i := 21) rfl))) (by decide) (t := (.array .int)) (t' := (.array (.object "java/lang/String"))) (by decide) (by decide)))).ext E14).other W15 (Or.inr (slot_ne (Or.inl (hw _ (List.mem_of_getElem? (i := 17) rfl))) (Or.inl (hw _ (List.mem_of_getElem? (i := 25) rfl))) (by decide) (t := (.array .int)) (t' := (.array (.object "java/time/Instant"))) (by decide) (by decide)))).ext E16).other W17 (Or.inr (slot_ne (Or.inl (hw _ (List.mem_of_getElem? (i := 17) rfl))) (Or.inl (hw _ (List.mem_of_getElem? (i := 28) rfl))) (by decide) (t := (.array .int)) (t' := (.array .double)) (by decide) (by decide)))).ext E18).other W19 (Or.inr (slot_ne (Or.inl (hw _ (List.mem_of_getElem? (i := 17) rfl))) (Or.inl (hw _ (List.mem_of_getElem? (i := 31) rfl))) (by decide) (t := (.array .int)) (t' := (.array .boolean)) (by decide) (by decide)))).ext E20).other W21 (Or.inr (slot_ne (Or.inl (hw _ (List.mem_of_getElem? (i := 17) rfl))) (Or.inl (hw _ (List.mem_of_getElem? (i := 34) rfl))) (by decide) (t := (.array .int)) (t' := (.array .byte)) (by decide) (by decide))))
  have ne_b12 : b12 ≠ a1 := Nat.ne_of_gt (Nat.lt_of_lt_of_le ha1 sz_b12)
  have FF_texts := ((((((((Fw13.ext E14).other W15 (Or.inr (slot_ne (Or.inl (hw _ (List.mem_of_getElem? (i := 21) rfl))) (Or.inl (hw _ (List.mem_of_getElem? (i := 25) rfl))) (by decide) (t := (.array (.object "java/lang/String"))) (t' := (.array (.object "java/time/Instant"))) (by decide) (by decide)))).ext E16).other W17 (Or.inr (slot_ne (Or.inl (hw _ (List.mem_of_getElem? (i := 21) rfl))) (Or.inl (hw _ (List.mem_of_getElem? (i := 28) rfl))) (by decide) (t := (.array (.object "java/lang/String"))) (t' := (.array .double)) (by decide) (by decide)))).ext E18).other W19 (Or.inr (slot_ne (Or.inl (hw _ (List.mem_of_getElem? (i := 21) rfl))) (Or.inl (hw _ (List.mem_of_getElem? (i := 31) rfl))) (by decide) (t := (.array (.object "java/lang/String"))) (t' := (.array .boolean)) (by decide) (by decide)))).ext E20).other W21 (Or.inr (slot_ne (Or.inl (hw _ (List.mem_of_getElem? (i := 21) rfl))) (Or.inl (hw _ (List.mem_of_getElem? (i := 34) rfl))) (by decide) (t := (.array (.object "java/lang/String"))) (t' := (.array .byte)) (by decide) (by decide))))
  have ne_b20 : b20 ≠ a1 := Nat.ne_of_gt (Nat.lt_of_lt_of_le ha1 sz_b20)
  have FF_bytes := Fw21
  have VV_lines : Arv Z h21 b4 k4 .int (1024 : Int32) [.int (0 : Int32)] (.int (0 : Int32)) := ((((((((((((((((((V_b4.other W5 ne_b4).ext E6).other W7 ne_b4).ext E8).other W9 ne_b4).ext E10).other W11 ne_b4).ext E12).other W13 ne_b4).ext E14).other W15 ne_b4).ext E16).other W17 ne_b4).ext E18).other W19 ne_b4).ext E20).other W21 ne_b4)).pad (pad_rep [] (.int (0 : Int32)) 1)
  have VV_firstFields : Arv Z h21 b6 k6 .int (1025 : Int32) [.int (0 : Int32), .int (0 : Int32)] (.int (0 : Int32)) := ((((((((((((((((V_b6.other W7 ne_b6).ext E8).other W9 ne_b6).ext E10).other W11 ne_b6).ext E12).other W13 ne_b6).ext E14).other W15 ne_b6).ext E16).other W17 ne_b6).ext E18).other W19 ne_b6).ext E20).other W21 ne_b6)).pad (pad_rep [] (.int (0 : Int32)) 2)
  have VV_starts : Arv Z h21 b8 k8 .int (4096 : Int32) [.int (0 : Int32)] (.int (0 : Int32)) := ((((((((((((((V_b8.other W9 ne_b8).ext E10).other W11 ne_b8).ext E12).other W13 ne_b8).ext E14).other W15 ne_b8).ext E16).other W17 ne_b8).ext E18).other W19 ne_b8).ext E20).other W21 ne_b8)).pad (pad_rep [] (.int (0 : Int32)) 1)
  have VV_lengths : Arv Z h21 b10 k10 .int (4096 : Int32) [.int (0 : Int32)] (.int (0 : Int32)) := ((((((((((((V_b10.other W11 ne_b10).ext E12).other W13 ne_b10).ext E14).other W15 ne_b10).ext E16).other W17 ne_b10).ext E18).other W19 ne_b10).ext E20).other W21 ne_b10)).pad (pad_rep [] (.int (0 : Int32)) 1)
  have VV_texts : Arv Z h21 b12 k12 (.object "java/lang/String") (4096 : Int32) [.null] .null := ((((((((((V_b12.other W13 ne_b12).ext E14).other W15 ne_b12).ext E16).other W17 ne_b12).ext E18).other W19 ne_b12).ext E20).other W21 ne_b12)).pad (pad_rep [] .null 1)
  have VV_bytes : Arv Z h21 b20 k20 .byte p2 [] (.int (0 : Int32)) := (V_b20.other W21 ne_b20)
  have lt_b4 : a1 < b4 := Nat.lt_of_lt_of_le ha1 sz_b4
  have lt_b6 : b4 < b6 := Nat.lt_of_lt_of_le V_b4.lt (Nat.le_trans (Keep.of_wr W5).1 (Nat.le_of_eq g6.symm))
  have lt_b8 : b6 < b8 := Nat.lt_of_lt_of_le V_b6.lt (Nat.le_trans (Keep.of_wr W7).1 (Nat.le_of_eq g8.symm))
  have lt_b10 : b8 < b10 := Nat.lt_of_lt_of_le V_b8.lt (Nat.le_trans (Keep.of_wr W9).1 (Nat.le_of_eq g10.symm))
  have lt_b12 : b10 < b12 := Nat.lt_of_lt_of_le V_b10.lt (Nat.le_trans (Keep.of_wr W11).1 (Nat.le_of_eq g12.symm))
  have lt_b20 : b12 < b20 := Nat.lt_of_lt_of_le V_b12.lt (Nat.le_trans (Keep.of_wr W13).1 (Nat.le_trans E14.1 (Nat.le_trans (Keep.of_wr W15).1 (Nat.le_trans E16.1 (Nat.le_trans (Keep.of_wr W17).1 (Nat.le_trans E18.1 (Nat.le_trans (Keep.of_wr W19).1 (Nat.le_of_eq g20.symm))))))))
  have BB : Bat Z n0 h21 a1 b4 b6 b8 b10 b12 b20 k4 k6 k8 k10 k12 k20 p2 (0 : Int32) (0 : Int32) (0 : Int32) (0 : Int32) (0 : Int32) (0 : Int32) (0 : Int32) := ⟨⟨g_a1, lt_b4, lt_b6, lt_b8, lt_b10, lt_b12, lt_b20⟩, ((((((((((((((((((E_a1.ext E4).wr W5).ext E6).wr W7).ext E8).wr W9).ext E10).wr W11).ext E12).wr W13).ext E14).wr W15).ext E16).wr W17).ext E18).wr W19).ext E20).wr W21), ⟨FF_lines, FF_firstFields, FF_starts, FF_lengths, FF_texts, FF_bytes⟩, ⟨((((((((((((((((((F_records_a1.ext E4).other W5 (Or.inr (Jvm.RoadKit.slot_ne (Or.inl (hw _ (List.mem_of_getElem? (i := 41) rfl))) (Or.inl (hw _ (List.mem_of_getElem? (i := 11) rfl))) (by decide) (t := .int) (t' := (.array .int)) (by decide) (by decide)))).ext E6).other W7 (Or.inr (Jvm.RoadKit.slot_ne (Or.inl (hw _ (List.mem_of_getElem? (i := 41) rfl))) (Or.inl (hw _ (List.mem_of_getElem? (i := 13) rfl))) (by decide) (t := .int) (t' := (.array .int)) (by decide) (by decide)))).ext E8).other W9 (Or.inr (Jvm.RoadKit.slot_ne (Or.inl (hw _ (List.mem_of_getElem? (i := 41) rfl))) (Or.inl (hw _ (List.mem_of_getElem? (i := 15) rfl))) (by decide) (t := .int) (t' := (.array .int)) (by decide) (by decide)))).ext E10).other W11 (Or.inr (Jvm.RoadKit.slot_ne (Or.inl (hw _ (List.mem_of_getElem? (i := 41) rfl))) (Or.inl (hw _ (List.mem_of_getElem? (i := 17) rfl))) (by decide) (t := .int) (t' := (.array .int)) (by decide) (by decide)))).ext E12).other W13 (Or.inr (Jvm.RoadKit.slot_ne (Or.inl (hw _ (List.mem_of_getElem? (i := 41) rfl))) (Or.inl (hw _ (List.mem_of_getElem? (i := 21) rfl))) (by decide) (t := .int) (t' := (.array (.object "java/lang/String"))) (by decide) (by decide)))).ext E14).other W15 (Or.inr (Jvm.RoadKit.slot_ne (Or.inl (hw _ (List.mem_of_getElem? (i := 41) rfl))) (Or.inl (hw _ (List.mem_of_getElem? (i := 25) rfl))) (by decide) (t := .int) (t' := (.array (.object "java/time/Instant"))) (by decide) (by decide)))).ext E16).other W17 (Or.inr (Jvm.RoadKit.slot_ne (Or.inl (hw _ (List.mem_of_getElem? (i := 41) rfl))) (Or.inl (hw _ (List.mem_of_getElem? (i := 28) rfl))) (by decide) (t := .int) (t' := (.array .double)) (by decide) (by decide)))).ext E18).other W19 (Or.inr (Jvm.RoadKit.slot_ne (Or.inl (hw _ (List.mem_of_getElem? (i := 41) rfl))) (Or.inl (hw _ (List.mem_of_getElem? (i := 31) rfl))) (by decide) (t := .int) (t' := (.array .boolean)) (by decide) (by decide)))).ext E20).other W21 (Or.inr (Jvm.RoadKit.slot_ne (Or.inl (hw _ (List.mem_of_getElem? (i := 41) rfl))) (Or.inl (hw _ (List.mem_of_getElem? (i := 34) rfl))) (by decide) (t := .int) (t' := (.array .byte)) (by decide) (by decide)))), ((((((((((((((((((F_fields_a1.ext E4).other W5 (Or.inr (Jvm.RoadKit.slot_ne (Or.inl (hw _ (List.mem_of_getElem? (i := 43) rfl))) (Or.inl (hw _ (List.mem_of_getElem? (i := 11) rfl))) (by decide) (t := .int) (t' := (.array .int)) (by decide) (by decide)))).ext E6).other W7 (Or.inr (Jvm.RoadKit.slot_ne (Or.inl (hw _ (List.mem_of_getElem? (i := 43) rfl))) (Or.inl (hw _ (List.mem_of_getElem? (i := 13) rfl))) (by decide) (t := .int) (t' := (.array .int)) (by decide) (by decide)))).ext E8).other W9 (Or.inr (Jvm.RoadKit.slot_ne (Or.inl (hw _ (List.mem_of_getElem? (i := 43) rfl))) (Or.inl (hw _ (List.mem_of_getElem? (i := 15) rfl))) (by decide) (t := .int) (t' := (.array .int)) (by decide) (by decide)))).ext E10).other W11 (Or.inr (Jvm.RoadKit.slot_ne (Or.inl (hw _ (List.mem_of_getElem? (i := 43) rfl))) (Or.inl (hw _ (List.mem_of_getElem? (i := 17) rfl))) (by decide) (t := .int) (t' := (.array .int)) (by decide) (by decide)))).ext E12).other W13 (Or.inr (Jvm.RoadKit.slot_ne (Or.inl (hw _ (List.mem_of_getElem? (i := 43) rfl))) (Or.inl (hw _ (List.mem_of_getElem? (i := 21) rfl))) (by decide) (t := .int) (t' := (.array (.object "java/lang/String"))) (by decide) (by decide)))).ext E14).other W15 (Or.inr (Jvm.RoadKit.slot_ne (Or.inl (hw _ (List.mem_of_getElem? (i := 43) rfl))) (Or.inl (hw _ (List.mem_of_getElem? (i := 25) rfl))) (by decide) (t := .int) (t' := (.array (.object "java/time/Instant"))) (by decide) (by decide)))).ext E16).other W17 (Or.inr (Jvm.RoadKit.slot_ne (Or.inl (hw _ (List.mem_of_getElem? (i := 43) rfl))) (Or.inl (hw _ (List.mem_of_getElem? (i := 28) rfl))) (by decide) (t := .int) (t' := (.array .double)) (by decide) (by decide)))).ext E18).other W19 (Or.inr (Jvm.RoadKit.slot_ne (Or.inl (hw _ (List.mem_of_getElem? (i := 43) rfl))) (Or.inl (hw _ (List.mem_of_getElem? (i := 31) rfl))) (by decide) (t := .int) (t' := (.array .boolean)) (by decide) (by decide)))).ext E20).other W21 (Or.inr (Jvm.RoadKit.slot_ne (Or.inl (hw _ (List.mem_of_getElem? (i := 43) rfl))) (Or.inl (hw _ (List.mem_of_getElem? (i := 34) rfl))) (by decide) (t := .int) (t' := (.array .byte)) (by decide) (by decide))))⟩, ⟨VV_lines, VV_firstFields, VV_starts, VV_lengths, VV_texts, VV_bytes⟩⟩
  obtain ⟨fs, hr, hrun, hended, hW, hsame⟩ := X21.leave (v := none) (fun _ => rfl)
  refine ⟨_, _, pre0 _ ?_, hrun, hended, _, _, rfl, ?_, ⟨_, rfl⟩, hW, hsame.mono (by decide) (by decide)⟩
  -- 4. STEPS
  · show Steps p.tables e below (s₁.setTop (mkF m 0 #[.val (.ref a1), .val (.int p2)] [])) _
    refine XS.aloadN X0.here hx rfl (hb hby d1_0) rfl rfl ?_
    show Steps p.tables e below (s₁.setTop (mkF m 1 #[.val (.ref a1), .val (.int p2)] [(.ref a1)])) _
    refine st3 _ ?_
    show Steps p.tables e below (T3.setTop (mkF m 4 #[.val (.ref a1), .val (.int p2)] [])) _
    refine XS.aloadN X3.here hx rfl (hb hby d1_4) rfl rfl ?_
    show Steps p.tables e below (T3.setTop (mkF m 5 #[.val (.ref a1), .val (.int p2)] [(.ref a1)])) _
    refine XS.sipush X3.here hx rfl (hb hby d1_5) ?_
    show Steps p.tables e below (T3.setTop (mkF m 8 #[.val (.ref a1), .val (.int p2)] [(.int (1024 : Int32)), (.ref a1)])) _
    refine st4 _ ?_
    show Steps p.tables e below (T4.setTop (mkF m 10 #[.val (.ref a1), .val (.int p2)] [(.ref b4), (.ref a1)])) _
    refine st5 _ ?_
    show Steps p.tables e below (T5.setTop (mkF m 13 #[.val (.ref a1), .val (.int p2)] [])) _
    refine XS.aloadN X5.here hx rfl (hb hby d1_13) rfl rfl ?_
    show Steps p.tables e below (T5.setTop (mkF m 14 #[.val (.ref a1), .val (.int p2)] [(.ref a1)])) _
    refine XS.sipush X5.here hx rfl (hb hby d1_14) ?_
    show Steps p.tables e below (T5.setTop (mkF m 17 #[.val (.ref a1), .val (.int p2)] [(.int (1025 : Int32)), (.ref a1)])) _
    refine st6 _ ?_
    show Steps p.tables e below (T6.setTop (mkF m 19 #[.val (.ref a1), .val (.int p2)] [(.ref b6), (.ref a1)])) _
    refine st7 _ ?_
    show Steps p.tables e below (T7.setTop (mkF m 22 #[.val (.ref a1), .val (.int p2)] [])) _
    refine XS.aloadN X7.here hx rfl (hb hby d1_22) rfl rfl ?_
    show Steps p.tables e below (T7.setTop (mkF m 23 #[.val (.ref a1), .val (.int p2)] [(.ref a1)])) _
    refine XS.sipush X7.here hx rfl (hb hby d1_23) ?_
    show Steps p.tables e below (T7.setTop (mkF m 26 #[.val (.ref a1), .val (.int p2)] [(.int (4096 : Int32)), (.ref a1)])) _
    refine st8 _ ?_
    show Steps p.tables e below (T8.setTop (mkF m 28 #[.val (.ref a1), .val (.int p2)] [(.ref b8), (.ref a1)])) _
    refine st9 _ ?_
    show Steps p.tables e below (T9.setTop (mkF m 31 #[.val (.ref a1), .val (.int p2)] [])) _
    refine XS.aloadN X9.here hx rfl (hb hby d1_31) rfl rfl ?_
    show Steps p.tables e below (T9.setTop (mkF m 32 #[.val (.ref a1), .val (.int p2)] [(.ref a1)])) _
    refine XS.sipush X9.here hx rfl (hb hby d1_32) ?_
    show Steps p.tables e below (T9.setTop (mkF m 35 #[.val (.ref a1), .val (.int p2)] [(.int (4096 : Int32)), (.ref a1)])) _
    refine st10 _ ?_
    show Steps p.tables e below (T10.setTop (mkF m 37 #[.val (.ref a1), .val (.int p2)] [(.ref b10), (.ref a1)])) _
    refine st11 _ ?_
    show Steps p.tables e below (T11.setTop (mkF m 40 #[.val (.ref a1), .val (.int p2)] [])) _
    refine XS.aloadN X11.here hx rfl (hb hby d1_40) rfl rfl ?_
    show Steps p.tables e below (T11.setTop (mkF m 41 #[.val (.ref a1), .val (.int p2)] [(.ref a1)])) _
    refine XS.sipush X11.here hx rfl (hb hby d1_41) ?_
    show Steps p.tables e below (T11.setTop (mkF m 44 #[.val (.ref a1), .val (.int p2)] [(.int (4096 : Int32)), (.ref a1)])) _
    refine st12 _ ?_
    show Steps p.tables e below (T12.setTop (mkF m 47 #[.val (.ref a1), .val (.int p2)] [(.ref b12), (.ref a1)])) _
    refine st13 _ ?_
    show Steps p.tables e below (T13.setTop (mkF m 50 #[.val (.ref a1), .val (.int p2)] [])) _
    refine XS.aloadN X13.here hx rfl (hb hby d1_50) rfl rfl ?_
    show Steps p.tables e below (T13.setTop (mkF m 51 #[.val (.ref a1), .val (.int p2)] [(.ref a1)])) _
    refine XS.iconst X13.here hx rfl (hb hby d1_51) ?_
    show Steps p.tables e below (T13.setTop (mkF m 52 #[.val (.ref a1), .val (.int p2)] [(.int (0 : Int32)), (.ref a1)])) _
    refine st14 _ ?_
    show Steps p.tables e below (T14.setTop (mkF m 55 #[.val (.ref a1), .val (.int p2)] [(.ref b14), (.ref a1)])) _
    refine st15 _ ?_
    show Steps p.tables e below (T15.setTop (mkF m 58 #[.val (.ref a1), .val (.int p2)] [])) _
    refine XS.aloadN X15.here hx rfl (hb hby d1_58) rfl rfl ?_
    show Steps p.tables e below (T15.setTop (mkF m 59 #[.val (.ref a1), .val (.int p2)] [(.ref a1)])) _
    refine XS.iconst X15.here hx rfl (hb hby d1_59) ?_
    show Steps p.tables e below (T15.setTop (mkF m 60 #[.val (.ref a1), .val (.int p2)] [(.int (0 : Int32)), (.ref a1)])) _
    refine st16 _ ?_
    show Steps p.tables e below (T16.setTop (mkF m 62 #[.val (.ref a1), .val (.int p2)] [(.ref b16), (.ref a1)])) _
    refine st17 _ ?_
    show Steps p.tables e below (T17.setTop (mkF m 65 #[.val (.ref a1), .val (.int p2)] [])) _
    refine XS.aloadN X17.here hx rfl (hb hby d1_65) rfl rfl ?_
    show Steps p.tables e below (T17.setTop (mkF m 66 #[.val (.ref a1), .val (.int p2)] [(.ref a1)])) _
    refine XS.iconst X17.here hx rfl (hb hby d1_66) ?_
    show Steps p.tables e below (T17.setTop (mkF m 67 #[.val (.ref a1), .val (.int p2)] [(.int (0 : Int32)), (.ref a1)])) _
    refine st18 _ ?_
    show Steps p.tables e below (T18.setTop (mkF m 69 #[.val (.ref a1), .val (.int p2)] [(.ref b18), (.ref a1)])) _
    refine st19 _ ?_
    show Steps p.tables e below (T19.setTop (mkF m 72 #[.val (.ref a1), .val (.int p2)] [])) _
    refine XS.aloadN X19.here hx rfl (hb hby d1_72) rfl rfl ?_
    show Steps p.tables e below (T19.setTop (mkF m 73 #[.val (.ref a1), .val (.int p2)] [(.ref a1)])) _
    refine XS.iloadN X19.here hx rfl (hb hby d1_73) rfl ?_
    show Steps p.tables e below (T19.setTop (mkF m 74 #[.val (.ref a1), .val (.int p2)] [(.int p2), (.ref a1)])) _
    refine st20 _ ?_
    show Steps p.tables e below (T20.setTop (mkF m 76 #[.val (.ref a1), .val (.int p2)] [(.ref b20), (.ref a1)])) _
    refine st21 _ ?_
    show Steps p.tables e below (T21.setTop (mkF m 79 #[.val (.ref a1), .val (.int p2)] [])) _
    exact X21.returnOut hx Bd.returns (hb hby d1_79) hr
  · show Q1 Z a1 p2 h0 n0 _ T21.heap _
    rw [e21]
    exact ⟨rfl, N21, b4, b6, b8, b10, b12, b20, k4, k6, k8, k10, k12, k20, BB⟩
theorem pn_0 : plainName "com/example/interstice/interstice/BatchClearPinLaw" = true := by first | (simp [plainName, overriddenIn]; done) | decide +kernel
theorem pd_0_0 : parseMethodDescriptor "(I)V" = some ⟨[.int], none⟩ := by decide +kernel
theorem pd_0_2 : parseMethodDescriptor "(IILjava/lang/String;)V" = some ⟨[.int, .int, (.object "java/lang/String")], none⟩ := by decide +kernel
theorem pd_0_3 : parseMethodDescriptor "()Lcom/example/interstice/interstice/CsvScanner$Batch;" = some ⟨[], some (.object "com/example/interstice/interstice/CsvScanner$Batch")⟩ := by decide +kernel
theorem ef_0 (m : MethodId) (x0 : Int32) (x1 : Int32) (x2 : Int32) (x3 : Int32) (x4 : Int32) (x5 : Int32) : entryFrame m #[(.int x0), (.int x1), (.int x2), (.int x3), (.int x4), (.int x5)] maxLocals = mkF m 0 #[.val (.int x0), .val (.int x1), .val (.int x2), .val (.int x3), .val (.int x4), .val (.int x5), .unset, .unset, .unset, .unset, .unset, .unset, .unset, .unset, .unset] [] := by first | (simp [entryFrame, mkF, argsToLocals, Value.category, maxLocals]; done) | rfl
def Q0 (Z : State) (p1 p2 p3 p4 p5 p6 : Int32) (h0 : Heap) (n0 : Nat) (v : Option Value) (h : Heap) (L : List Loc) : Prop := v = some (.int (1 : Int32)) ∧ Fr n0 L
set_option maxRecDepth 65536 in
set_option maxHeartbeats 40000000 in
theorem rm0_odd (l : Launch) (Z : State) (a0 : Array Value) (hw : ∀ d ∈ tables_1, d.before a0 Z = true) (ws : List Jvm.Cond) (p1 p2 p3 p4 p5 p6 : Int32) (h0 : Heap) (n0 : Nat) (Z0 : n0 ≤ h0.size) (hc22 : ¬ ((p6 &&& (1 : Int32)) = (0 : Int32))) :
    MetFree l x (head1 (Jvm.Cond.code x code maxLocals ret :: ws) room_1) (fun a U => a = #[(.int p1), (.int p2), (.int p3), (.int p4), (.int p5), (.int p6)] ∧ Z.Warmed39 U.vm ∧ U.heap = h0) (fun _ _ _ _ _ => True) (fun _ U o U' => ∃ v L, o = .returned v ∧ Q0 Z p1 p2 p3 p4 p5 p6 h0 n0 v U'.heap L ∧ FrameEnd U o U' L room_1.cells room_1.slots) := by
  refine MetFree.of_bodySF (plainFor_of_name pn_0) hisR ?_
  intro p e s m args below meth c s₁ Bd hml0 hP hK
  obtain ⟨rfl, hZ, hh⟩ := hP
  have hx := Bd.exec
  have hby := Bd.bytes
  have hml : c.maxLocals = 15 := hml0
  have hown : s.vm.findClass "com/example/interstice/interstice/BatchClearPinLaw" = some m.cls := findClass_of_methodNamed Bd.named
  have hnm := (name_of_methodNamed Bd.named Bd.method).1
  have X0 : Stand p l e room_1 s m #[(.int p1), (.int p2), (.int p3), (.int p4), (.int p5), (.int p6)] below meth c s₁ [] 0 0 := Stand.of_body Bd
  have e0 : s₁.heap = h0 := by rw [← hh, Bd.state]; rfl
  have N0 := Fr.nil n0
  have pre0 : ∀ t, Steps p.tables e below (s₁.setTop (mkF m 0 #[.val (.int p1), .val (.int p2), .val (.int p3), .val (.int p4), .val (.int p5), .val (.int p6), .unset, .unset, .unset, .unset, .unset, .unset, .unset, .unset, .unset] [])) t → Steps p.tables e below (s₁.setTop (entryFrame m #[(.int p1), (.int p2), (.int p3), (.int p4), (.int p5), (.int p6)] maxLocals)) t := fun t k => castTop (ef_0 m p1 p2 p3 p4 p5 p6) k
  -- 3. LAWS
  obtain ⟨T7, h7, X7, e7, E7, A7, D7, -, st7⟩ := newO X0 hx hZ hown (hw _ (List.mem_of_getElem? (i := 0) rfl)) (hw _ (List.mem_of_getElem? (i := 1) rfl)) (hw _ (List.mem_of_getElem? (i := 2) rfl)) e0 (g := (mkF m 7 #[.val (.int p1), .val (.int p2), .val (.int p3), .val (.int p4), .val (.int p5), .val (.int p6), .val (.int (p1 &&& (255 : Int32))), .unset, .unset, .unset, .unset, .unset, .unset, .unset, .unset] [])) rfl (hb hby at_7) (by decide) (by decide)
  obtain ⟨b7, g7⟩ : ∃ z, z = h0.size := ⟨_, rfl⟩
  rw [← g7] at A7 D7 st7
  have F_lines_b7 : Fld Z h7 b7 "com/example/interstice/interstice/CsvScanner$Batch" "lines" "[I" .null := D7 (Or.inl (hw _ (List.mem_of_getElem? (i := 11) rfl))) (ty := (.array .int)) (by decide)
  have F_firstFields_b7 : Fld Z h7 b7 "com/example/interstice/interstice/CsvScanner$Batch" "firstFields" "[I" .null := D7 (Or.inl (hw _ (List.mem_of_getElem? (i := 13) rfl))) (ty := (.array .int)) (by decide)
  have F_starts_b7 : Fld Z h7 b7 "com/example/interstice/interstice/CsvScanner$Batch" "starts" "[I" .null := D7 (Or.inl (hw _ (List.mem_of_getElem? (i := 15) rfl))) (ty := (.array .int)) (by decide)
  have F_lengths_b7 : Fld Z h7 b7 "com/example/interstice/interstice/CsvScanner$Batch" "lengths" "[I" .null := D7 (Or.inl (hw _ (List.mem_of_getElem? (i := 17) rfl))) (ty := (.array .int)) (by decide)
  have F_texts_b7 : Fld Z h7 b7 "com/example/interstice/interstice/CsvScanner$Batch" "texts" "[Ljava/lang/String;" .null := D7 (Or.inl (hw _ (List.mem_of_getElem? (i := 21) rfl))) (ty := (.array (.object "java/lang/String"))) (by decide)
  have F_instants_b7 : Fld Z h7 b7 "com/example/interstice/interstice/CsvScanner$Batch" "instants" "[Ljava/time/Instant;" .null := D7 (Or.inl (hw _ (List.mem_of_getElem? (i := 25) rfl))) (ty := (.array (.object "java/time/Instant"))) (by decide)
  have F_decimals_b7 : Fld Z h7 b7 "com/example/interstice/interstice/CsvScanner$Batch" "decimals" "[D" .null := D7 (Or.inl (hw _ (List.mem_of_getElem? (i := 28) rfl))) (ty := (.array .double)) (by decide)
  have F_sameSeries_b7 : Fld Z h7 b7 "com/example/interstice/interstice/CsvScanner$Batch" "sameSeries" "[Z" .null := D7 (Or.inl (hw _ (List.mem_of_getElem? (i := 31) rfl))) (ty := (.array .boolean)) (by decide)
  have F_bytes_b7 : Fld Z h7 b7 "com/example/interstice/interstice/CsvScanner$Batch" "bytes" "[B" .null := D7 (Or.inl (hw _ (List.mem_of_getElem? (i := 34) rfl))) (ty := (.array .byte)) (by decide)
  have F_records_b7 : Fld Z h7 b7 "com/example/interstice/interstice/CsvScanner$Batch" "records" "I" (.int (0 : Int32)) := D7 (Or.inl (hw _ (List.mem_of_getElem? (i := 41) rfl))) (ty := .int) (by decide)
  have F_fields_b7 : Fld Z h7 b7 "com/example/interstice/interstice/CsvScanner$Batch" "fields" "I" (.int (0 : Int32)) := D7 (Or.inl (hw _ (List.mem_of_getElem? (i := 43) rfl))) (ty := .int) (by decide)
  have E_b7 := A7
  have g_b7 : n0 ≤ b7 := Nat.le_trans Z0 (Nat.le_of_eq g7.symm)
  have sz_b7 : h0.size ≤ b7 := (Nat.le_trans (Keep.refl h0 []).1 (Nat.le_of_eq g7.symm))
  have K7 : Keep h0 h7 [] := (Keep.refl h0 []).ext E7
  have Z7 : n0 ≤ h7.size := Nat.le_trans Z0 K7.1
  obtain ⟨_, _, ⟨T8, L8, k8, n8⟩, -, X8, ⟨Lc8, hQ8, l8, y8, z8⟩, st8⟩ := X7.specialBack hx (y := (⟨"com/example/interstice/interstice/CsvScanner$Batch", "<init>", "(I)V"⟩ : MethodName)) rfl hown (mvT hZ (hw _ (List.mem_of_getElem? (i := 3) rfl))) (mvT hZ (hw _ (List.mem_of_getElem? (i := 4) rfl))) (mvT hZ (hw _ (List.mem_of_getElem? (i := 5) rfl))) (by decide) (backOf (W := 1) (rm1 l Z a0 hw [] b7 (p1 &&& (255 : Int32)) _ _ _ _ _ _ _ _ _ h7 n0 Z7 E_b7 F_lines_b7 g_b7 F_firstFields_b7 F_starts_b7 F_lengths_b7 F_texts_b7 F_instants_b7 F_decimals_b7 F_sameSeries_b7 F_bytes_b7 F_records_b7 F_fields_b7 (own_n p1).1 (own_n p1).2) hZ (hw _ (List.mem_of_getElem? (i := 5) rfl)) (hw _ (List.mem_of_getElem? (i := 2) rfl)) (by decide) (by decide)) (g := (mkF m 13 #[.val (.int p1), .val (.int p2), .val (.int p3), .val (.int p4), .val (.int p5), .val (.int p6), .val (.int (p1 &&& (255 : Int32))), .unset, .unset, .unset, .unset, .unset, .unset, .unset, .unset] [(.int (p1 &&& (255 : Int32))), (.ref b7), (.ref b7)])) rfl (by rw [hml]; rfl) (Steps.refl _) (a := b7) (argsL := [(.int (p1 &&& (255 : Int32)))]) (rest := [(.ref b7)]) (lenOf pd_0_0 rfl) rfl (by show 2 * 0 + _ ≤ _; exact Nat.le_of_eq rfl) (hb hby at_13) (fun _ _ => ⟨rfl, e7, (by decide : 1 + 9 ≤ _), (by decide : 15 + 14592 ≤ _)⟩)
  dsimp only [Pt.U, Pt.locs, Pt.cells, Pt.slots] at X8 l8 y8 z8 st8 hQ8
  subst l8 y8 z8
  obtain ⟨rfl, N8q, ll, ff, ss, le, tt, bb, kl, kf, ks, ke, kt, kb, B8⟩ := hQ8
  obtain ⟨⟨o08, o18, o28, o38, o48, o58, o68⟩, E_8, ⟨Fl_8, Ff_8, Fs_8, Fe_8, Ft_8, Fb_8⟩, ⟨Fr_8, Fc_8⟩, ⟨Al_8, Af_8, As_8, Ae_8, At_8, Ab_8⟩⟩ := id B8
  have N8 := Fr.app N0 N8q
  obtain ⟨cq9, kq9, q9a, q9b, q9c⟩ := isOf hZ rfl E_8
  obtain ⟨_, _, ⟨T9, L9, k9, n9⟩, -, X9, ⟨Lc9, hQ9, l9, y9, z9⟩, st9⟩ := X8.virtualBack hx (y := (⟨"com/example/interstice/interstice/CsvScanner$Batch", "startRecord", "(I)V"⟩ : MethodName)) (z := (⟨"com/example/interstice/interstice/CsvScanner$Batch", "startRecord", "(I)V"⟩ : MethodName)) hown (mvT hZ (hw _ (List.mem_of_getElem? (i := 35) rfl))) (mvT hZ (hw _ (List.mem_of_getElem? (i := 36) rfl))) (notFace_of_selects (args := #[]) (mvT hZ (hw _ (List.mem_of_getElem? (i := 38) rfl)))) (mvT hZ (hw _ (List.mem_of_getElem? (i := 38) rfl))) (mvT hZ (hw _ (List.mem_of_getElem? (i := 37) rfl))) (by decide) (backOf (W := 0) (rm3 l Z a0 hw [] b7 p4 ll ff ss le tt bb kl kf ks ke kt kb (p1 &&& (255 : Int32)) (0 : Int32) (0 : Int32) (0 : Int32) (0 : Int32) (0 : Int32) T8.heap n0 (Bat.size B8) B8) hZ (hw _ (List.mem_of_getElem? (i := 39) rfl)) (hw _ (List.mem_of_getElem? (i := 2) rfl)) (by decide) (by decide)) q9a q9c (g := (mkF m 28 #[.val (.int p1), .val (.int p2), .val (.int p3), .val (.int p4), .val (.int p5), .val (.int p6), .val (.int (p1 &&& (255 : Int32))), .val (.ref b7), .unset, .unset, .unset, .unset, .unset, .unset, .unset] [(.int p4), (.ref b7)])) rfl (by rw [hml]; rfl) (Steps.refl _) (argsL := [(.int p4)]) (rest := []) (lenOf pd_0_0 rfl) rfl (by show 2 * 0 + _ ≤ _; exact Nat.le_of_eq rfl) (hb hby at_28) (fun _ _ => ⟨rfl, rfl, (by decide : 10 + 0 ≤ _), (by decide : 14607 + 0 ≤ _)⟩)
  dsimp only [Pt.U, Pt.locs, Pt.cells, Pt.slots] at X9 l9 y9 z9 st9 hQ9
  subst l9 y9 z9
  obtain ⟨rfl, N9q, B9⟩ := hQ9
  obtain ⟨⟨o09, o19, o29, o39, o49, o59, o69⟩, E_9, ⟨Fl_9, Ff_9, Fs_9, Fe_9, Ft_9, Fb_9⟩, ⟨Fr_9, Fc_9⟩, ⟨Al_9, Af_9, As_9, Ae_9, At_9, Ab_9⟩⟩ := id B9
  have N9 := Fr.app N8 N9q
  obtain ⟨cq10, kq10, q10a, q10b, q10c⟩ := isOf hZ rfl E_9
  obtain ⟨_, _, ⟨T10, L10, k10, n10⟩, -, X10, ⟨Lc10, hQ10, l10, y10, z10⟩, st10⟩ := X9.virtualBack hx (y := (⟨"com/example/interstice/interstice/CsvScanner$Batch", "addField", "(IILjava/lang/String;)V"⟩ : MethodName)) (z := (⟨"com/example/interstice/interstice/CsvScanner$Batch", "addField", "(IILjava/lang/String;)V"⟩ : MethodName)) hown (mvT hZ (hw _ (List.mem_of_getElem? (i := 44) rfl))) (mvT hZ (hw _ (List.mem_of_getElem? (i := 45) rfl))) (notFace_of_selects (args := #[]) (mvT hZ (hw _ (List.mem_of_getElem? (i := 47) rfl)))) (mvT hZ (hw _ (List.mem_of_getElem? (i := 47) rfl))) (mvT hZ (hw _ (List.mem_of_getElem? (i := 46) rfl))) (by decide) (backOf (W := 0) (rm4 l Z a0 hw [] b7 p5 (((p6.toUInt32 >>> ((1 : Int32) &&& 31).toUInt32).toInt32) &&& (255 : Int32)) ll ff ss le tt bb kl kf ks ke kt kb (p1 &&& (255 : Int32)) p4 (0 : Int32) (0 : Int32) (0 : Int32) (0 : Int32) T9.heap n0 (Bat.size B9) B9) hZ (hw _ (List.mem_of_getElem? (i := 48) rfl)) (hw _ (List.mem_of_getElem? (i := 2) rfl)) (by decide) (by decide)) q10a q10c (g := (mkF m 44 #[.val (.int p1), .val (.int p2), .val (.int p3), .val (.int p4), .val (.int p5), .val (.int p6), .val (.int (p1 &&& (255 : Int32))), .val (.ref b7), .unset, .unset, .unset, .unset, .unset, .unset, .unset] [.null, (.int (((p6.toUInt32 >>> ((1 : Int32) &&& 31).toUInt32).toInt32) &&& (255 : Int32))), (.int p5), (.ref b7)])) rfl (by rw [hml]; rfl) (Steps.refl _) (argsL := [(.int p5), (.int (((p6.toUInt32 >>> ((1 : Int32) &&& 31).toUInt32).toInt32) &&& (255 : Int32))), .null]) (rest := []) (lenOf pd_0_2 rfl) rfl (by show 2 * 0 + _ ≤ _; exact Nat.le_of_eq rfl) (hb hby at_44) (fun _ _ => ⟨rfl, rfl, (by decide : 10 + 0 ≤ _), (by decide : 14607 + 0 ≤ _)⟩)
  dsimp only [Pt.U, Pt.locs, Pt.cells, Pt.slots] at X10 l10 y10 z10 st10 hQ10
  subst l10 y10 z10
  obtain ⟨rfl, N10q, B10⟩ := hQ10
  obtain ⟨⟨o010, o110, o210, o310, o410, o510, o610⟩, E_10, ⟨Fl_10, Ff_10, Fs_10, Fe_10, Ft_10, Fb_10⟩, ⟨Fr_10, Fc_10⟩, ⟨Al_10, Af_10, As_10, Ae_10, At_10, Ab_10⟩⟩ := id B10
  have N10 := Fr.app N9 N10q
  obtain ⟨T11, X11, e11, st11⟩ := getF X10 hx hZ hown (host := "") (Or.inl (hw _ (List.mem_of_getElem? (i := 49) rfl))) Via.refl rfl Fr_10 (g := (mkF m 50 #[.val (.int p1), .val (.int p2), .val (.int p3), .val (.int p4), .val (.int p5), .val (.int p6), .val (.int (p1 &&& (255 : Int32))), .val (.ref b7), .unset, .unset, .unset, .unset, .unset, .unset, .unset] [(.ref b7), (.ref b7)])) rfl rfl (hb hby at_50)
  obtain ⟨T12, h12, X12, e12, W12, st12⟩ := putF X11 hx hZ hown (host := "") (Or.inl (hw _ (List.mem_of_getElem? (i := 49) rfl))) Via.refl e11 Fr_10 E_10 (Or.inl (hw _ (List.mem_of_getElem? (i := 41) rfl))) (hw _ (List.mem_of_getElem? (i := 1) rfl)) (ty := .int) (by decide) rfl rfl (g := (mkF m 55 #[.val (.int p1), .val (.int p2), .val (.int p3), .val (.int p4), .val (.int p5), .val (.int p6), .val (.int (p1 &&& (255 : Int32))), .val (.ref b7), .unset, .unset, .unset, .unset, .unset, .unset, .unset] [(.int ((0 : Int32) + (1 : Int32))), (.ref b7)])) rfl rfl (hb hby at_55)
  have B12 : Bat Z n0 h12 b7 ll ff ss le tt bb kl kf ks ke kt kb (p1 &&& (255 : Int32)) ((0 : Int32) + (1 : Int32)) (1 : Int32) p4 (0 : Int32) (1 : Int32) p5 (((p6.toUInt32 >>> ((1 : Int32) &&& 31).toUInt32).toInt32) &&& (255 : Int32)) := Bat.setR hw B10 W12
  obtain ⟨⟨o012, o112, o212, o312, o412, o512, o612⟩, E_12, ⟨Fl_12, Ff_12, Fs_12, Fe_12, Ft_12, Fb_12⟩, ⟨Fr_12, Fc_12⟩, ⟨Al_12, Af_12, As_12, Ae_12, At_12, Ab_12⟩⟩ := id B12
  have N12 := Fr.snoc X12 N10 (by omega : n0 ≤ b7)
  obtain ⟨T13, X13, e13, st13⟩ := getF X12 hx hZ hown (host := "") (Or.inl (hw _ (List.mem_of_getElem? (i := 50) rfl))) Via.refl e12 Fb_12 (g := (mkF m 75 #[.val (.int p1), .val (.int p2), .val (.int p3), .val (.int p4), .val (.int p5), .val (.int p6), .val (.int (p1 &&& (255 : Int32))), .val (.ref b7), .unset, .unset, .unset, .unset, .unset, .unset, .unset] [(.ref b7)])) rfl rfl (hb hby at_75)
  obtain ⟨T14, X14, e14, st14⟩ := getF X13 hx hZ hown (host := "") (Or.inl (hw _ (List.mem_of_getElem? (i := 51) rfl))) Via.refl e13 Fl_12 (g := (mkF m 82 #[.val (.int p1), .val (.int p2), .val (.int p3), .val (.int p4), .val (.int p5), .val (.int p6), .val (.int (p1 &&& (255 : Int32))), .val (.ref b7), .val (.ref bb), .unset, .unset, .unset, .unset, .unset, .unset] [(.ref b7)])) rfl rfl (hb hby at_82)
  obtain ⟨T15, X15, e15, st15⟩ := getF X14 hx hZ hown (host := "") (Or.inl (hw _ (List.mem_of_getElem? (i := 52) rfl))) Via.refl e14 Ff_12 (g := (mkF m 89 #[.val (.int p1), .val (.int p2), .val (.int p3), .val (.int p4), .val (.int p5), .val (.int p6), .val (.int (p1 &&& (255 : Int32))), .val (.ref b7), .val (.ref bb), .val (.ref ll), .unset, .unset, .unset, .unset, .unset] [(.ref b7)])) rfl rfl (hb hby at_89)
  obtain ⟨T16, X16, e16, st16⟩ := getF X15 hx hZ hown (host := "") (Or.inl (hw _ (List.mem_of_getElem? (i := 53) rfl))) Via.refl e15 Fs_12 (g := (mkF m 96 #[.val (.int p1), .val (.int p2), .val (.int p3), .val (.int p4), .val (.int p5), .val (.int p6), .val (.int (p1 &&& (255 : Int32))), .val (.ref b7), .val (.ref bb), .val (.ref ll), .val (.ref ff), .unset, .unset, .unset, .unset] [(.ref b7)])) rfl rfl (hb hby at_96)
  obtain ⟨T17, X17, e17, st17⟩ := getF X16 hx hZ hown (host := "") (Or.inl (hw _ (List.mem_of_getElem? (i := 54) rfl))) Via.refl e16 Fe_12 (g := (mkF m 103 #[.val (.int p1), .val (.int p2), .val (.int p3), .val (.int p4), .val (.int p5), .val (.int p6), .val (.int (p1 &&& (255 : Int32))), .val (.ref b7), .val (.ref bb), .val (.ref ll), .val (.ref ff), .val (.ref ss), .unset, .unset, .unset] [(.ref b7)])) rfl rfl (hb hby at_103)
  obtain ⟨T18, X18, e18, st18⟩ := getF X17 hx hZ hown (host := "") (Or.inl (hw _ (List.mem_of_getElem? (i := 55) rfl))) Via.refl e17 Ft_12 (g := (mkF m 110 #[.val (.int p1), .val (.int p2), .val (.int p3), .val (.int p4), .val (.int p5), .val (.int p6), .val (.int (p1 &&& (255 : Int32))), .val (.ref b7), .val (.ref bb), .val (.ref ll), .val (.ref ff), .val (.ref ss), .val (.ref le), .unset, .unset] [(.ref b7)])) rfl rfl (hb hby at_110)
  obtain ⟨cq19, kq19, q19a, q19b, q19c⟩ := isOf hZ e18 E_12
  obtain ⟨_, _, ⟨T19, L19, k19, n19⟩, -, X19, ⟨Lc19, hQ19, l19, y19, z19⟩, st19⟩ := X18.virtualBack hx (y := (⟨"com/example/interstice/interstice/CsvScanner$Batch", "clear", "()Lcom/example/interstice/interstice/CsvScanner$Batch;"⟩ : MethodName)) (z := (⟨"com/example/interstice/interstice/CsvScanner$Batch", "clear", "()Lcom/example/interstice/interstice/CsvScanner$Batch;"⟩ : MethodName)) hown (mvT hZ (hw _ (List.mem_of_getElem? (i := 56) rfl))) (mvT hZ (hw _ (List.mem_of_getElem? (i := 57) rfl))) (notFace_of_selects (args := #[]) (mvT hZ (hw _ (List.mem_of_getElem? (i := 59) rfl)))) (mvT hZ (hw _ (List.mem_of_getElem? (i := 59) rfl))) (mvT hZ (hw _ (List.mem_of_getElem? (i := 58) rfl))) (by decide) (backOf (W := 0) (rm5 l Z a0 hw [] b7 ((0 : Int32) + (1 : Int32)) (1 : Int32) ll ff ss le tt bb kl kf ks ke kt kb (p1 &&& (255 : Int32)) p4 (0 : Int32) (1 : Int32) p5 (((p6.toUInt32 >>> ((1 : Int32) &&& 31).toUInt32).toInt32) &&& (255 : Int32)) h12 n0 (Bat.size B12) B12) hZ (hw _ (List.mem_of_getElem? (i := 60) rfl)) (hw _ (List.mem_of_getElem? (i := 2) rfl)) (by decide) (by decide)) q19a q19c (g := (mkF m 117 #[.val (.int p1), .val (.int p2), .val (.int p3), .val (.int p4), .val (.int p5), .val (.int p6), .val (.int (p1 &&& (255 : Int32))), .val (.ref b7), .val (.ref bb), .val (.ref ll), .val (.ref ff), .val (.ref ss), .val (.ref le), .val (.ref tt), .unset] [(.ref b7)])) rfl (by rw [hml]; rfl) (Steps.refl _) (argsL := []) (rest := []) (lenOf pd_0_3 rfl) rfl (by show 2 * 0 + _ ≤ _; exact Nat.le_of_eq rfl) (hb hby at_117) (fun _ _ => ⟨rfl, e18, (by decide : 10 + 0 ≤ _), (by decide : 14607 + 0 ≤ _)⟩)
  dsimp only [Pt.U, Pt.locs, Pt.cells, Pt.slots] at X19 l19 y19 z19 st19 hQ19
  subst l19 y19 z19
  obtain ⟨rfl, N19q, B19⟩ := hQ19
  obtain ⟨⟨o019, o119, o219, o319, o419, o519, o619⟩, E_19, ⟨Fl_19, Ff_19, Fs_19, Fe_19, Ft_19, Fb_19⟩, ⟨Fr_19, Fc_19⟩, ⟨Al_19, Af_19, As_19, Ae_19, At_19, Ab_19⟩⟩ := id B19
  have N19 := Fr.app N12 N19q
  obtain ⟨T20, X20, e20, st20⟩ := getF X19 hx hZ hown (host := "") (Or.inl (hw _ (List.mem_of_getElem? (i := 49) rfl))) Via.refl rfl Fr_19 (g := (mkF m 131 #[.val (.int p1), .val (.int p2), .val (.int p3), .val (.int p4), .val (.int p5), .val (.int p6), .val (.int (p1 &&& (255 : Int32))), .val (.ref b7), .val (.ref bb), .val (.ref ll), .val (.ref ff), .val (.ref ss), .val (.ref le), .val (.ref tt), .val (.ref b7)] [(.ref b7)])) rfl rfl (hb hby at_131)
  obtain ⟨T21, X21, e21, st21⟩ := getF X20 hx hZ hown (host := "") (Or.inl (hw _ (List.mem_of_getElem? (i := 61) rfl))) Via.refl e20 Fc_19 (g := (mkF m 139 #[.val (.int p1), .val (.int p2), .val (.int p3), .val (.int p4), .val (.int p5), .val (.int p6), .val (.int (p1 &&& (255 : Int32))), .val (.ref b7), .val (.ref bb), .val (.ref ll), .val (.ref ff), .val (.ref ss), .val (.ref le), .val (.ref tt), .val (.ref b7)] [(.ref b7)])) rfl rfl (hb hby at_139)
  obtain ⟨T22, X22, e22, st22⟩ := getF X21 hx hZ hown (host := "") (Or.inl (hw _ (List.mem_of_getElem? (i := 50) rfl))) Via.refl e21 Fb_19 (g := (mkF m 149 #[.val (.int p1), .val (.int p2), .val (.int p3), .val (.int p4), .val (.int p5), .val (.int p6), .val (.int (p1 &&& (255 : Int32))), .val (.ref b7), .val (.ref bb), .val (.ref ll), .val (.ref ff), .val (.ref ss), .val (.ref le), .val (.ref tt), .val (.ref b7)] [(.ref b7)])) rfl rfl (hb hby at_149)
  obtain ⟨T23, X23, e23, st23⟩ := getF X22 hx hZ hown (host := "") (Or.inl (hw _ (List.mem_of_getElem? (i := 50) rfl))) Via.refl e22 Fb_19 (g := (mkF m 159 #[.val (.int p1), .val (.int p2), .val (.int p3), .val (.int p4), .val (.int p5), .val (.int p6), .val (.int (p1 &&& (255 : Int32))), .val (.ref b7), .val (.ref bb), .val (.ref ll), .val (.ref ff), .val (.ref ss), .val (.ref le), .val (.ref tt), .val (.ref b7)] [(.ref b7)])) rfl rfl (hb hby at_159)
  obtain ⟨T24, X24, e24, st24⟩ := getF X23 hx hZ hown (host := "") (Or.inl (hw _ (List.mem_of_getElem? (i := 51) rfl))) Via.refl e23 Fl_19 (g := (mkF m 170 #[.val (.int p1), .val (.int p2), .val (.int p3), .val (.int p4), .val (.int p5), .val (.int p6), .val (.int (p1 &&& (255 : Int32))), .val (.ref b7), .val (.ref bb), .val (.ref ll), .val (.ref ff), .val (.ref ss), .val (.ref le), .val (.ref tt), .val (.ref b7)] [(.ref b7)])) rfl rfl (hb hby at_170)
  obtain ⟨T25, X25, e25, st25⟩ := getF X24 hx hZ hown (host := "") (Or.inl (hw _ (List.mem_of_getElem? (i := 52) rfl))) Via.refl e24 Ff_19 (g := (mkF m 180 #[.val (.int p1), .val (.int p2), .val (.int p3), .val (.int p4), .val (.int p5), .val (.int p6), .val (.int (p1 &&& (255 : Int32))), .val (.ref b7), .val (.ref bb), .val (.ref ll), .val (.ref ff), .val (.ref ss), .val (.ref le), .val (.ref tt), .val (.ref b7)] [(.ref b7)])) rfl rfl (hb hby at_180)
  obtain ⟨T26, X26, e26, st26⟩ := getF X25 hx hZ hown (host := "") (Or.inl (hw _ (List.mem_of_getElem? (i := 53) rfl))) Via.refl e25 Fs_19 (g := (mkF m 190 #[.val (.int p1), .val (.int p2), .val (.int p3), .val (.int p4), .val (.int p5), .val (.int p6), .val (.int (p1 &&& (255 : Int32))), .val (.ref b7), .val (.ref bb), .val (.ref ll), .val (.ref ff), .val (.ref ss), .val (.ref le), .val (.ref tt), .val (.ref b7)] [(.ref b7)])) rfl rfl (hb hby at_190)
  obtain ⟨T27, X27, e27, st27⟩ := getF X26 hx hZ hown (host := "") (Or.inl (hw _ (List.mem_of_getElem? (i := 54) rfl))) Via.refl e26 Fe_19 (g := (mkF m 200 #[.val (.int p1), .val (.int p2), .val (.int p3), .val (.int p4), .val (.int p5), .val (.int p6), .val (.int (p1 &&& (255 : Int32))), .val (.ref b7), .val (.ref bb), .val (.ref ll), .val (.ref ff), .val (.ref ss), .val (.ref le), .val (.ref tt), .val (.ref b7)] [(.ref b7)])) rfl rfl (hb hby at_200)
  obtain ⟨T28, X28, e28, st28⟩ := getF X27 hx hZ hown (host := "") (Or.inl (hw _ (List.mem_of_getElem? (i := 55) rfl))) Via.refl e27 Ft_19 (g := (mkF m 210 #[.val (.int p1), .val (.int p2), .val (.int p3), .val (.int p4), .val (.int p5), .val (.int p6), .val (.int (p1 &&& (255 : Int32))), .val (.ref b7), .val (.ref bb), .val (.ref ll), .val (.ref ff), .val (.ref ss), .val (.ref le), .val (.ref tt), .val (.ref b7)] [(.ref b7)])) rfl rfl (hb hby at_210)
  obtain ⟨cq29, kq29, q29a, q29b, q29c⟩ := isOf hZ e28 E_19
  obtain ⟨_, _, ⟨T29, L29, k29, n29⟩, -, X29, ⟨Lc29, hQ29, l29, y29, z29⟩, st29⟩ := X28.virtualBack hx (y := (⟨"com/example/interstice/interstice/CsvScanner$Batch", "startRecord", "(I)V"⟩ : MethodName)) (z := (⟨"com/example/interstice/interstice/CsvScanner$Batch", "startRecord", "(I)V"⟩ : MethodName)) hown (mvT hZ (hw _ (List.mem_of_getElem? (i := 35) rfl))) (mvT hZ (hw _ (List.mem_of_getElem? (i := 36) rfl))) (notFace_of_selects (args := #[]) (mvT hZ (hw _ (List.mem_of_getElem? (i := 38) rfl)))) (mvT hZ (hw _ (List.mem_of_getElem? (i := 38) rfl))) (mvT hZ (hw _ (List.mem_of_getElem? (i := 37) rfl))) (by decide) (backOf (W := 0) (rm3 l Z a0 hw [] b7 p4 ll ff ss le tt bb kl kf ks ke kt kb (p1 &&& (255 : Int32)) p4 (0 : Int32) (1 : Int32) p5 (((p6.toUInt32 >>> ((1 : Int32) &&& 31).toUInt32).toInt32) &&& (255 : Int32)) T19.heap n0 (Bat.size B19) B19) hZ (hw _ (List.mem_of_getElem? (i := 39) rfl)) (hw _ (List.mem_of_getElem? (i := 2) rfl)) (by decide) (by decide)) q29a q29c (g := (mkF m 223 #[.val (.int p1), .val (.int p2), .val (.int p3), .val (.int p4), .val (.int p5), .val (.int p6), .val (.int (p1 &&& (255 : Int32))), .val (.ref b7), .val (.ref bb), .val (.ref ll), .val (.ref ff), .val (.ref ss), .val (.ref le), .val (.ref tt), .val (.ref b7)] [(.int p4), (.ref b7)])) rfl (by rw [hml]; rfl) (Steps.refl _) (argsL := [(.int p4)]) (rest := []) (lenOf pd_0_0 rfl) rfl (by show 2 * 0 + _ ≤ _; exact Nat.le_of_eq rfl) (hb hby at_223) (fun _ _ => ⟨rfl, e28, (by decide : 10 + 0 ≤ _), (by decide : 14607 + 0 ≤ _)⟩)
  dsimp only [Pt.U, Pt.locs, Pt.cells, Pt.slots] at X29 l29 y29 z29 st29 hQ29
  subst l29 y29 z29
  obtain ⟨rfl, N29q, B29⟩ := hQ29
  obtain ⟨⟨o029, o129, o229, o329, o429, o529, o629⟩, E_29, ⟨Fl_29, Ff_29, Fs_29, Fe_29, Ft_29, Fb_29⟩, ⟨Fr_29, Fc_29⟩, ⟨Al_29, Af_29, As_29, Ae_29, At_29, Ab_29⟩⟩ := id B29
  have N29 := Fr.app N19 N29q
  obtain ⟨cq30, kq30, q30a, q30b, q30c⟩ := isOf hZ rfl E_29
  obtain ⟨_, _, ⟨T30, L30, k30, n30⟩, -, X30, ⟨Lc30, hQ30, l30, y30, z30⟩, st30⟩ := X29.virtualBack hx (y := (⟨"com/example/interstice/interstice/CsvScanner$Batch", "addField", "(IILjava/lang/String;)V"⟩ : MethodName)) (z := (⟨"com/example/interstice/interstice/CsvScanner$Batch", "addField", "(IILjava/lang/String;)V"⟩ : MethodName)) hown (mvT hZ (hw _ (List.mem_of_getElem? (i := 44) rfl))) (mvT hZ (hw _ (List.mem_of_getElem? (i := 45) rfl))) (notFace_of_selects (args := #[]) (mvT hZ (hw _ (List.mem_of_getElem? (i := 47) rfl)))) (mvT hZ (hw _ (List.mem_of_getElem? (i := 47) rfl))) (mvT hZ (hw _ (List.mem_of_getElem? (i := 46) rfl))) (by decide) (backOf (W := 0) (rm4 l Z a0 hw [] b7 p5 (3 : Int32) ll ff ss le tt bb kl kf ks ke kt kb (p1 &&& (255 : Int32)) p4 (0 : Int32) (1 : Int32) p5 (((p6.toUInt32 >>> ((1 : Int32) &&& 31).toUInt32).toInt32) &&& (255 : Int32)) T29.heap n0 (Bat.size B29) B29) hZ (hw _ (List.mem_of_getElem? (i := 48) rfl)) (hw _ (List.mem_of_getElem? (i := 2) rfl)) (by decide) (by decide)) q30a q30c (g := (mkF m 232 #[.val (.int p1), .val (.int p2), .val (.int p3), .val (.int p4), .val (.int p5), .val (.int p6), .val (.int (p1 &&& (255 : Int32))), .val (.ref b7), .val (.ref bb), .val (.ref ll), .val (.ref ff), .val (.ref ss), .val (.ref le), .val (.ref tt), .val (.ref b7)] [.null, (.int (3 : Int32)), (.int p5), (.ref b7)])) rfl (by rw [hml]; rfl) (Steps.refl _) (argsL := [(.int p5), (.int (3 : Int32)), .null]) (rest := []) (lenOf pd_0_2 rfl) rfl (by show 2 * 0 + _ ≤ _; exact Nat.le_of_eq rfl) (hb hby at_232) (fun _ _ => ⟨rfl, rfl, (by decide : 10 + 0 ≤ _), (by decide : 14607 + 0 ≤ _)⟩)
  dsimp only [Pt.U, Pt.locs, Pt.cells, Pt.slots] at X30 l30 y30 z30 st30 hQ30
  subst l30 y30 z30
  obtain ⟨rfl, N30q, B30⟩ := hQ30
  obtain ⟨⟨o030, o130, o230, o330, o430, o530, o630⟩, E_30, ⟨Fl_30, Ff_30, Fs_30, Fe_30, Ft_30, Fb_30⟩, ⟨Fr_30, Fc_30⟩, ⟨Al_30, Af_30, As_30, Ae_30, At_30, Ab_30⟩⟩ := id B30
  have N30 := Fr.app N29 N30q
  obtain ⟨T31, X31, e31, st31⟩ := getF X30 hx hZ hown (host := "") (Or.inl (hw _ (List.mem_of_getElem? (i := 49) rfl))) Via.refl rfl Fr_30 (g := (mkF m 237 #[.val (.int p1), .val (.int p2), .val (.int p3), .val (.int p4), .val (.int p5), .val (.int p6), .val (.int (p1 &&& (255 : Int32))), .val (.ref b7), .val (.ref bb), .val (.ref ll), .val (.ref ff), .val (.ref ss), .val (.ref le), .val (.ref tt), .val (.ref b7)] [(.ref b7)])) rfl rfl (hb hby at_237)
  obtain ⟨T32, X32, e32, st32⟩ := getF X31 hx hZ hown (host := "") (Or.inl (hw _ (List.mem_of_getElem? (i := 61) rfl))) Via.refl e31 Fc_30 (g := (mkF m 245 #[.val (.int p1), .val (.int p2), .val (.int p3), .val (.int p4), .val (.int p5), .val (.int p6), .val (.int (p1 &&& (255 : Int32))), .val (.ref b7), .val (.ref bb), .val (.ref ll), .val (.ref ff), .val (.ref ss), .val (.ref le), .val (.ref tt), .val (.ref b7)] [(.ref b7)])) rfl rfl (hb hby at_245)
  obtain ⟨T33, X33, e33, st33⟩ := getF X32 hx hZ hown (host := "") (Or.inl (hw _ (List.mem_of_getElem? (i := 51) rfl))) Via.refl e32 Fl_30 (g := (mkF m 254 #[.val (.int p1), .val (.int p2), .val (.int p3), .val (.int p4), .val (.int p5), .val (.int p6), .val (.int (p1 &&& (255 : Int32))), .val (.ref b7), .val (.ref bb), .val (.ref ll), .val (.ref ff), .val (.ref ss), .val (.ref le), .val (.ref tt), .val (.ref b7)] [(.ref b7)])) rfl rfl (hb hby at_254)
  obtain ⟨T35, X35, e35, st35⟩ := getF X33 hx hZ hown (host := "") (Or.inl (hw _ (List.mem_of_getElem? (i := 52) rfl))) Via.refl e33 Ff_30 (g := (mkF m 265 #[.val (.int p1), .val (.int p2), .val (.int p3), .val (.int p4), .val (.int p5), .val (.int p6), .val (.int (p1 &&& (255 : Int32))), .val (.ref b7), .val (.ref bb), .val (.ref ll), .val (.ref ff), .val (.ref ss), .val (.ref le), .val (.ref tt), .val (.ref b7)] [(.ref b7)])) rfl rfl (hb hby at_265)
  obtain ⟨T37, X37, e37, st37⟩ := getF X35 hx hZ hown (host := "") (Or.inl (hw _ (List.mem_of_getElem? (i := 52) rfl))) Via.refl e35 Ff_30 (g := (mkF m 275 #[.val (.int p1), .val (.int p2), .val (.int p3), .val (.int p4), .val (.int p5), .val (.int p6), .val (.int (p1 &&& (255 : Int32))), .val (.ref b7), .val (.ref bb), .val (.ref ll), .val (.ref ff), .val (.ref ss), .val (.ref le), .val (.ref tt), .val (.ref b7)] [(.ref b7)])) rfl rfl (hb hby at_275)
  obtain ⟨T39, X39, e39, st39⟩ := getF X37 hx hZ hown (host := "") (Or.inl (hw _ (List.mem_of_getElem? (i := 53) rfl))) Via.refl e37 Fs_30 (g := (mkF m 286 #[.val (.int p1), .val (.int p2), .val (.int p3), .val (.int p4), .val (.int p5), .val (.int p6), .val (.int (p1 &&& (255 : Int32))), .val (.ref b7), .val (.ref bb), .val (.ref ll), .val (.ref ff), .val (.ref ss), .val (.ref le), .val (.ref tt), .val (.ref b7)] [(.ref b7)])) rfl rfl (hb hby at_286)
  obtain ⟨T41, X41, e41, st41⟩ := getF X39 hx hZ hown (host := "") (Or.inl (hw _ (List.mem_of_getElem? (i := 54) rfl))) Via.refl e39 Fe_30 (g := (mkF m 298 #[.val (.int p1), .val (.int p2), .val (.int p3), .val (.int p4), .val (.int p5), .val (.int p6), .val (.int (p1 &&& (255 : Int32))), .val (.ref b7), .val (.ref bb), .val (.ref ll), .val (.ref ff), .val (.ref ss), .val (.ref le), .val (.ref tt), .val (.ref b7)] [(.ref b7)])) rfl rfl (hb hby at_298)
  obtain ⟨T43, X43, e43, st43⟩ := getF X41 hx hZ hown (host := "") (Or.inl (hw _ (List.mem_of_getElem? (i := 55) rfl))) Via.refl e41 Ft_30 (g := (mkF m 309 #[.val (.int p1), .val (.int p2), .val (.int p3), .val (.int p4), .val (.int p5), .val (.int p6), .val (.int (p1 &&& (255 : Int32))), .val (.ref b7), .val (.ref bb), .val (.ref ll), .val (.ref ff), .val (.ref ss), .val (.ref le), .val (.ref tt), .val (.ref b7)] [(.ref b7)])) rfl rfl (hb hby at_309)
  obtain ⟨c_xl, Ar_xl, q_xl, S_xl, N_xl, H_xl, G_xl⟩ := id Al_30
  obtain ⟨c_xf, Ar_xf, q_xf, S_xf, N_xf, H_xf, G_xf⟩ := id Af_30
  obtain ⟨c_xs, Ar_xs, q_xs, S_xs, N_xs, H_xs, G_xs⟩ := id As_30
  obtain ⟨c_xe, Ar_xe, q_xe, S_xe, N_xe, H_xe, G_xe⟩ := id Ae_30
  obtain ⟨c_xt, Ar_xt, q_xt, S_xt, N_xt, H_xt, G_xt⟩ := id At_30
  have hin258 := inb_of (j := (0 : Int32)) S_xl ⟨by decide, by decide⟩
  have hat258 : c_xl.slots[(0 : Int32).toNatClampNeg]? = some (.int p4) := H_xl 0 (by rw [S_xl]; decide)
  have hin269 := inb_of (j := (0 : Int32)) S_xf ⟨by decide, by decide⟩
  have hat269 : c_xf.slots[(0 : Int32).toNatClampNeg]? = some (.int (0 : Int32)) := H_xf 0 (by rw [S_xf]; decide)
  have hin279 := inb_of (j := (1 : Int32)) S_xf ⟨by decide, by decide⟩
  have hat279 : c_xf.slots[(1 : Int32).toNatClampNeg]? = some (.int (1 : Int32)) := H_xf 1 (by rw [S_xf]; decide)
  have hin290 := inb_of (j := (0 : Int32)) S_xs ⟨by decide, by decide⟩
  have hat290 : c_xs.slots[(0 : Int32).toNatClampNeg]? = some (.int p5) := H_xs 0 (by rw [S_xs]; decide)
  have hin302 := inb_of (j := (0 : Int32)) S_xe ⟨by decide, by decide⟩
  have hat302 : c_xe.slots[(0 : Int32).toNatClampNeg]? = some (.int (3 : Int32)) := H_xe 0 (by rw [S_xe]; decide)
  have hin313 := inb_of (j := (0 : Int32)) S_xt ⟨by decide, by decide⟩
  have hat313 : c_xt.slots[(0 : Int32).toNatClampNeg]? = some .null := H_xt 0 (by rw [S_xt]; decide)
  obtain ⟨c_xb, Ar_xb, q_xb, S_xb, N_xb, H_xb, G_xb⟩ := id Ab_19
  obtain ⟨fs, hr, hrun, hended, hW, hsame⟩ := X43.leave (v := some (.int (1 : Int32))) (fun h => by rw [Bd.returns] at h; cases h)
  refine ⟨_, _, pre0 _ ?_, hrun, hended, _, _, rfl, ?_, ⟨_, rfl⟩, hW, hsame.mono (by decide) (by decide)⟩
  -- 4. STEPS
  · show Steps p.tables e below (s₁.setTop (mkF m 0 #[.val (.int p1), .val (.int p2), .val (.int p3), .val (.int p4), .val (.int p5), .val (.int p6), .unset, .unset, .unset, .unset, .unset, .unset, .unset, .unset, .unset] [])) _
    refine XS.iloadN X0.here hx rfl (hb hby at_0) rfl ?_
    show Steps p.tables e below (s₁.setTop (mkF m 1 #[.val (.int p1), .val (.int p2), .val (.int p3), .val (.int p4), .val (.int p5), .val (.int p6), .unset, .unset, .unset, .unset, .unset, .unset, .unset, .unset, .unset] [(.int p1)])) _
    refine XS.sipush X0.here hx rfl (hb hby at_1) ?_
    show Steps p.tables e below (s₁.setTop (mkF m 4 #[.val (.int p1), .val (.int p2), .val (.int p3), .val (.int p4), .val (.int p5), .val (.int p6), .unset, .unset, .unset, .unset, .unset, .unset, .unset, .unset, .unset] [(.int (255 : Int32)), (.int p1)])) _
    refine XS.iand X0.here hx rfl (hb hby at_4) rfl ?_
    show Steps p.tables e below (s₁.setTop (mkF m 5 #[.val (.int p1), .val (.int p2), .val (.int p3), .val (.int p4), .val (.int p5), .val (.int p6), .unset, .unset, .unset, .unset, .unset, .unset, .unset, .unset, .unset] [(.int (p1 &&& (255 : Int32)))])) _
    refine XS.istore X0.here hx rfl (hb hby at_5) rfl (l' := #[.val (.int p1), .val (.int p2), .val (.int p3), .val (.int p4), .val (.int p5), .val (.int p6), .val (.int (p1 &&& (255 : Int32))), .unset, .unset, .unset, .unset, .unset, .unset, .unset, .unset]) rfl ?_
    show Steps p.tables e below (s₁.setTop (mkF m 7 #[.val (.int p1), .val (.int p2), .val (.int p3), .val (.int p4), .val (.int p5), .val (.int p6), .val (.int (p1 &&& (255 : Int32))), .unset, .unset, .unset, .unset, .unset, .unset, .unset, .unset] [])) _
    refine st7 _ ?_
    show Steps p.tables e below (T7.setTop (mkF m 10 #[.val (.int p1), .val (.int p2), .val (.int p3), .val (.int p4), .val (.int p5), .val (.int p6), .val (.int (p1 &&& (255 : Int32))), .unset, .unset, .unset, .unset, .unset, .unset, .unset, .unset] [(.ref b7)])) _
    refine XS.dup X7.here hx rfl (hb hby at_10) rfl rfl ?_
    show Steps p.tables e below (T7.setTop (mkF m 11 #[.val (.int p1), .val (.int p2), .val (.int p3), .val (.int p4), .val (.int p5), .val (.int p6), .val (.int (p1 &&& (255 : Int32))), .unset, .unset, .unset, .unset, .unset, .unset, .unset, .unset] [(.ref b7), (.ref b7)])) _
    refine XS.iload X7.here hx rfl (hb hby at_11) rfl ?_
    show Steps p.tables e below (T7.setTop (mkF m 13 #[.val (.int p1), .val (.int p2), .val (.int p3), .val (.int p4), .val (.int p5), .val (.int p6), .val (.int (p1 &&& (255 : Int32))), .unset, .unset, .unset, .unset, .unset, .unset, .unset, .unset] [(.int (p1 &&& (255 : Int32))), (.ref b7), (.ref b7)])) _
    refine st8.trans ?_
    show Steps p.tables e below (T8.setTop (mkF m 16 #[.val (.int p1), .val (.int p2), .val (.int p3), .val (.int p4), .val (.int p5), .val (.int p6), .val (.int (p1 &&& (255 : Int32))), .unset, .unset, .unset, .unset, .unset, .unset, .unset, .unset] [(.ref b7)])) _
    refine XS.astore X8.here hx rfl (hb hby at_16) rfl rfl (l' := #[.val (.int p1), .val (.int p2), .val (.int p3), .val (.int p4), .val (.int p5), .val (.int p6), .val (.int (p1 &&& (255 : Int32))), .val (.ref b7), .unset, .unset, .unset, .unset, .unset, .unset, .unset]) rfl ?_
    show Steps p.tables e below (T8.setTop (mkF m 18 #[.val (.int p1), .val (.int p2), .val (.int p3), .val (.int p4), .val (.int p5), .val (.int p6), .val (.int (p1 &&& (255 : Int32))), .val (.ref b7), .unset, .unset, .unset, .unset, .unset, .unset, .unset] [])) _
    refine XS.iload X8.here hx rfl (hb hby at_18) rfl ?_
    show Steps p.tables e below (T8.setTop (mkF m 20 #[.val (.int p1), .val (.int p2), .val (.int p3), .val (.int p4), .val (.int p5), .val (.int p6), .val (.int (p1 &&& (255 : Int32))), .val (.ref b7), .unset, .unset, .unset, .unset, .unset, .unset, .unset] [(.int p6)])) _
    refine XS.iconst X8.here hx rfl (hb hby at_20) ?_
    show Steps p.tables e below (T8.setTop (mkF m 21 #[.val (.int p1), .val (.int p2), .val (.int p3), .val (.int p4), .val (.int p5), .val (.int p6), .val (.int (p1 &&& (255 : Int32))), .val (.ref b7), .unset, .unset, .unset, .unset, .unset, .unset, .unset] [(.int (1 : Int32)), (.int p6)])) _
    refine XS.iand X8.here hx rfl (hb hby at_21) rfl ?_
    show Steps p.tables e below (T8.setTop (mkF m 22 #[.val (.int p1), .val (.int p2), .val (.int p3), .val (.int p4), .val (.int p5), .val (.int p6), .val (.int (p1 &&& (255 : Int32))), .val (.ref b7), .unset, .unset, .unset, .unset, .unset, .unset, .unset] [(.int (p6 &&& (1 : Int32)))])) _
    refine XS.ifNo X8.here hx rfl (hb hby at_22) rfl ((if0 _ _).trans (feq hc22).1) ?_
    show Steps p.tables e below (T8.setTop (mkF m 25 #[.val (.int p1), .val (.int p2), .val (.int p3), .val (.int p4), .val (.int p5), .val (.int p6), .val (.int (p1 &&& (255 : Int32))), .val (.ref b7), .unset, .unset, .unset, .unset, .unset, .unset, .unset] [])) _
    refine XS.aload X8.here hx rfl (hb hby at_25) rfl rfl ?_
    show Steps p.tables e below (T8.setTop (mkF m 27 #[.val (.int p1), .val (.int p2), .val (.int p3), .val (.int p4), .val (.int p5), .val (.int p6), .val (.int (p1 &&& (255 : Int32))), .val (.ref b7), .unset, .unset, .unset, .unset, .unset, .unset, .unset] [(.ref b7)])) _
    refine XS.iloadN X8.here hx rfl (hb hby at_27) rfl ?_
    show Steps p.tables e below (T8.setTop (mkF m 28 #[.val (.int p1), .val (.int p2), .val (.int p3), .val (.int p4), .val (.int p5), .val (.int p6), .val (.int (p1 &&& (255 : Int32))), .val (.ref b7), .unset, .unset, .unset, .unset, .unset, .unset, .unset] [(.int p4), (.ref b7)])) _
    refine st9.trans ?_
    show Steps p.tables e below (T9.setTop (mkF m 31 #[.val (.int p1), .val (.int p2), .val (.int p3), .val (.int p4), .val (.int p5), .val (.int p6), .val (.int (p1 &&& (255 : Int32))), .val (.ref b7), .unset, .unset, .unset, .unset, .unset, .unset, .unset] [])) _
    refine XS.aload X9.here hx rfl (hb hby at_31) rfl rfl ?_
    show Steps p.tables e below (T9.setTop (mkF m 33 #[.val (.int p1), .val (.int p2), .val (.int p3), .val (.int p4), .val (.int p5), .val (.int p6), .val (.int (p1 &&& (255 : Int32))), .val (.ref b7), .unset, .unset, .unset, .unset, .unset, .unset, .unset] [(.ref b7)])) _
    refine XS.iload X9.here hx rfl (hb hby at_33) rfl ?_
    show Steps p.tables e below (T9.setTop (mkF m 35 #[.val (.int p1), .val (.int p2), .val (.int p3), .val (.int p4), .val (.int p5), .val (.int p6), .val (.int (p1 &&& (255 : Int32))), .val (.ref b7), .unset, .unset, .unset, .unset, .unset, .unset, .unset] [(.int p5), (.ref b7)])) _
    refine XS.iload X9.here hx rfl (hb hby at_35) rfl ?_
    show Steps p.tables e below (T9.setTop (mkF m 37 #[.val (.int p1), .val (.int p2), .val (.int p3), .val (.int p4), .val (.int p5), .val (.int p6), .val (.int (p1 &&& (255 : Int32))), .val (.ref b7), .unset, .unset, .unset, .unset, .unset, .unset, .unset] [(.int p6), (.int p5), (.ref b7)])) _
    refine XS.iconst X9.here hx rfl (hb hby at_37) ?_
    show Steps p.tables e below (T9.setTop (mkF m 38 #[.val (.int p1), .val (.int p2), .val (.int p3), .val (.int p4), .val (.int p5), .val (.int p6), .val (.int (p1 &&& (255 : Int32))), .val (.ref b7), .unset, .unset, .unset, .unset, .unset, .unset, .unset] [(.int (1 : Int32)), (.int p6), (.int p5), (.ref b7)])) _
    refine XS.iushr X9.here hx rfl (hb hby at_38) rfl ?_
    show Steps p.tables e below (T9.setTop (mkF m 39 #[.val (.int p1), .val (.int p2), .val (.int p3), .val (.int p4), .val (.int p5), .val (.int p6), .val (.int (p1 &&& (255 : Int32))), .val (.ref b7), .unset, .unset, .unset, .unset, .unset, .unset, .unset] [(.int ((p6.toUInt32 >>> ((1 : Int32) &&& 31).toUInt32).toInt32)), (.int p5), (.ref b7)])) _
    refine XS.sipush X9.here hx rfl (hb hby at_39) ?_
    show Steps p.tables e below (T9.setTop (mkF m 42 #[.val (.int p1), .val (.int p2), .val (.int p3), .val (.int p4), .val (.int p5), .val (.int p6), .val (.int (p1 &&& (255 : Int32))), .val (.ref b7), .unset, .unset, .unset, .unset, .unset, .unset, .unset] [(.int (255 : Int32)), (.int ((p6.toUInt32 >>> ((1 : Int32) &&& 31).toUInt32).toInt32)), (.int p5), (.ref b7)])) _
    refine XS.iand X9.here hx rfl (hb hby at_42) rfl ?_
    show Steps p.tables e below (T9.setTop (mkF m 43 #[.val (.int p1), .val (.int p2), .val (.int p3), .val (.int p4), .val (.int p5), .val (.int p6), .val (.int (p1 &&& (255 : Int32))), .val (.ref b7), .unset, .unset, .unset, .unset, .unset, .unset, .unset] [(.int (((p6.toUInt32 >>> ((1 : Int32) &&& 31).toUInt32).toInt32) &&& (255 : Int32))), (.int p5), (.ref b7)])) _
    refine XS.aconstNull X9.here hx rfl (hb hby at_43) ?_
    show Steps p.tables e below (T9.setTop (mkF m 44 #[.val (.int p1), .val (.int p2), .val (.int p3), .val (.int p4), .val (.int p5), .val (.int p6), .val (.int (p1 &&& (255 : Int32))), .val (.ref b7), .unset, .unset, .unset, .unset, .unset, .unset, .unset] [.null, (.int (((p6.toUInt32 >>> ((1 : Int32) &&& 31).toUInt32).toInt32) &&& (255 : Int32))), (.int p5), (.ref b7)])) _
    refine st10.trans ?_
    show Steps p.tables e below (T10.setTop (mkF m 47 #[.val (.int p1), .val (.int p2), .val (.int p3), .val (.int p4), .val (.int p5), .val (.int p6), .val (.int (p1 &&& (255 : Int32))), .val (.ref b7), .unset, .unset, .unset, .unset, .unset, .unset, .unset] [])) _
    refine XS.aload X10.here hx rfl (hb hby at_47) rfl rfl ?_
    show Steps p.tables e below (T10.setTop (mkF m 49 #[.val (.int p1), .val (.int p2), .val (.int p3), .val (.int p4), .val (.int p5), .val (.int p6), .val (.int (p1 &&& (255 : Int32))), .val (.ref b7), .unset, .unset, .unset, .unset, .unset, .unset, .unset] [(.ref b7)])) _
    refine XS.dup X10.here hx rfl (hb hby at_49) rfl rfl ?_
    show Steps p.tables e below (T10.setTop (mkF m 50 #[.val (.int p1), .val (.int p2), .val (.int p3), .val (.int p4), .val (.int p5), .val (.int p6), .val (.int (p1 &&& (255 : Int32))), .val (.ref b7), .unset, .unset, .unset, .unset, .unset, .unset, .unset] [(.ref b7), (.ref b7)])) _
    refine st11 _ ?_
    show Steps p.tables e below (T11.setTop (mkF m 53 #[.val (.int p1), .val (.int p2), .val (.int p3), .val (.int p4), .val (.int p5), .val (.int p6), .val (.int (p1 &&& (255 : Int32))), .val (.ref b7), .unset, .unset, .unset, .unset, .unset, .unset, .unset] [(.int (0 : Int32)), (.ref b7)])) _
    refine XS.iconst X11.here hx rfl (hb hby at_53) ?_
    show Steps p.tables e below (T11.setTop (mkF m 54 #[.val (.int p1), .val (.int p2), .val (.int p3), .val (.int p4), .val (.int p5), .val (.int p6), .val (.int (p1 &&& (255 : Int32))), .val (.ref b7), .unset, .unset, .unset, .unset, .unset, .unset, .unset] [(.int (1 : Int32)), (.int (0 : Int32)), (.ref b7)])) _
    refine XS.iadd X11.here hx rfl (hb hby at_54) rfl ?_
    show Steps p.tables e below (T11.setTop (mkF m 55 #[.val (.int p1), .val (.int p2), .val (.int p3), .val (.int p4), .val (.int p5), .val (.int p6), .val (.int (p1 &&& (255 : Int32))), .val (.ref b7), .unset, .unset, .unset, .unset, .unset, .unset, .unset] [(.int ((0 : Int32) + (1 : Int32))), (.ref b7)])) _
    refine st12 _ ?_
    show Steps p.tables e below (T12.setTop (mkF m 58 #[.val (.int p1), .val (.int p2), .val (.int p3), .val (.int p4), .val (.int p5), .val (.int p6), .val (.int (p1 &&& (255 : Int32))), .val (.ref b7), .unset, .unset, .unset, .unset, .unset, .unset, .unset] [])) _
    refine XS.goto X12.here hx rfl (pc0 := 58) (pc' := 73) rfl (hb hby at_58) (by decide) (by decide) ?_
    show Steps p.tables e below (T12.setTop (mkF m 73 #[.val (.int p1), .val (.int p2), .val (.int p3), .val (.int p4), .val (.int p5), .val (.int p6), .val (.int (p1 &&& (255 : Int32))), .val (.ref b7), .unset, .unset, .unset, .unset, .unset, .unset, .unset] [])) _
    refine XS.aload X12.here hx rfl (hb hby at_73) rfl rfl ?_
    show Steps p.tables e below (T12.setTop (mkF m 75 #[.val (.int p1), .val (.int p2), .val (.int p3), .val (.int p4), .val (.int p5), .val (.int p6), .val (.int (p1 &&& (255 : Int32))), .val (.ref b7), .unset, .unset, .unset, .unset, .unset, .unset, .unset] [(.ref b7)])) _
    refine st13 _ ?_
    show Steps p.tables e below (T13.setTop (mkF m 78 #[.val (.int p1), .val (.int p2), .val (.int p3), .val (.int p4), .val (.int p5), .val (.int p6), .val (.int (p1 &&& (255 : Int32))), .val (.ref b7), .unset, .unset, .unset, .unset, .unset, .unset, .unset] [(.ref bb)])) _
    refine XS.astore X13.here hx rfl (hb hby at_78) rfl rfl (l' := #[.val (.int p1), .val (.int p2), .val (.int p3), .val (.int p4), .val (.int p5), .val (.int p6), .val (.int (p1 &&& (255 : Int32))), .val (.ref b7), .val (.ref bb), .unset, .unset, .unset, .unset, .unset, .unset]) rfl ?_
    show Steps p.tables e below (T13.setTop (mkF m 80 #[.val (.int p1), .val (.int p2), .val (.int p3), .val (.int p4), .val (.int p5), .val (.int p6), .val (.int (p1 &&& (255 : Int32))), .val (.ref b7), .val (.ref bb), .unset, .unset, .unset, .unset, .unset, .unset] [])) _
    refine XS.aload X13.here hx rfl (hb hby at_80) rfl rfl ?_
    show Steps p.tables e below (T13.setTop (mkF m 82 #[.val (.int p1), .val (.int p2), .val (.int p3), .val (.int p4), .val (.int p5), .val (.int p6), .val (.int (p1 &&& (255 : Int32))), .val (.ref b7), .val (.ref bb), .unset, .unset, .unset, .unset, .unset, .unset] [(.ref b7)])) _
    refine st14 _ ?_
    show Steps p.tables e below (T14.setTop (mkF m 85 #[.val (.int p1), .val (.int p2), .val (.int p3), .val (.int p4), .val (.int p5), .val (.int p6), .val (.int (p1 &&& (255 : Int32))), .val (.ref b7), .val (.ref bb), .unset, .unset, .unset, .unset, .unset, .unset] [(.ref ll)])) _
    refine XS.astore X14.here hx rfl (hb hby at_85) rfl rfl (l' := #[.val (.int p1), .val (.int p2), .val (.int p3), .val (.int p4), .val (.int p5), .val (.int p6), .val (.int (p1 &&& (255 : Int32))), .val (.ref b7), .val (.ref bb), .val (.ref ll), .unset, .unset, .unset, .unset, .unset]) rfl ?_
    show Steps p.tables e below (T14.setTop (mkF m 87 #[.val (.int p1), .val (.int p2), .val (.int p3), .val (.int p4), .val (.int p5), .val (.int p6), .val (.int (p1 &&& (255 : Int32))), .val (.ref b7), .val (.ref bb), .val (.ref ll), .unset, .unset, .unset, .unset, .unset] [])) _
    refine XS.aload X14.here hx rfl (hb hby at_87) rfl rfl ?_
    show Steps p.tables e below (T14.setTop (mkF m 89 #[.val (.int p1), .val (.int p2), .val (.int p3), .val (.int p4), .val (.int p5), .val (.int p6), .val (.int (p1 &&& (255 : Int32))), .val (.ref b7), .val (.ref bb), .val (.ref ll), .unset, .unset, .unset, .unset, .unset] [(.ref b7)])) _
    refine st15 _ ?_
    show Steps p.tables e below (T15.setTop (mkF m 92 #[.val (.int p1), .val (.int p2), .val (.int p3), .val (.int p4), .val (.int p5), .val (.int p6), .val (.int (p1 &&& (255 : Int32))), .val (.ref b7), .val (.ref bb), .val (.ref ll), .unset, .unset, .unset, .unset, .unset] [(.ref ff)])) _
    refine XS.astore X15.here hx rfl (hb hby at_92) rfl rfl (l' := #[.val (.int p1), .val (.int p2), .val (.int p3), .val (.int p4), .val (.int p5), .val (.int p6), .val (.int (p1 &&& (255 : Int32))), .val (.ref b7), .val (.ref bb), .val (.ref ll), .val (.ref ff), .unset, .unset, .unset, .unset]) rfl ?_
    show Steps p.tables e below (T15.setTop (mkF m 94 #[.val (.int p1), .val (.int p2), .val (.int p3), .val (.int p4), .val (.int p5), .val (.int p6), .val (.int (p1 &&& (255 : Int32))), .val (.ref b7), .val (.ref bb), .val (.ref ll), .val (.ref ff), .unset, .unset, .unset, .unset] [])) _
    refine XS.aload X15.here hx rfl (hb hby at_94) rfl rfl ?_
    show Steps p.tables e below (T15.setTop (mkF m 96 #[.val (.int p1), .val (.int p2), .val (.int p3), .val (.int p4), .val (.int p5), .val (.int p6), .val (.int (p1 &&& (255 : Int32))), .val (.ref b7), .val (.ref bb), .val (.ref ll), .val (.ref ff), .unset, .unset, .unset, .unset] [(.ref b7)])) _
    refine st16 _ ?_
    show Steps p.tables e below (T16.setTop (mkF m 99 #[.val (.int p1), .val (.int p2), .val (.int p3), .val (.int p4), .val (.int p5), .val (.int p6), .val (.int (p1 &&& (255 : Int32))), .val (.ref b7), .val (.ref bb), .val (.ref ll), .val (.ref ff), .unset, .unset, .unset, .unset] [(.ref ss)])) _
    refine XS.astore X16.here hx rfl (hb hby at_99) rfl rfl (l' := #[.val (.int p1), .val (.int p2), .val (.int p3), .val (.int p4), .val (.int p5), .val (.int p6), .val (.int (p1 &&& (255 : Int32))), .val (.ref b7), .val (.ref bb), .val (.ref ll), .val (.ref ff), .val (.ref ss), .unset, .unset, .unset]) rfl ?_
    show Steps p.tables e below (T16.setTop (mkF m 101 #[.val (.int p1), .val (.int p2), .val (.int p3), .val (.int p4), .val (.int p5), .val (.int p6), .val (.int (p1 &&& (255 : Int32))), .val (.ref b7), .val (.ref bb), .val (.ref ll), .val (.ref ff), .val (.ref ss), .unset, .unset, .unset] [])) _
    refine XS.aload X16.here hx rfl (hb hby at_101) rfl rfl ?_
    show Steps p.tables e below (T16.setTop (mkF m 103 #[.val (.int p1), .val (.int p2), .val (.int p3), .val (.int p4), .val (.int p5), .val (.int p6), .val (.int (p1 &&& (255 : Int32))), .val (.ref b7), .val (.ref bb), .val (.ref ll), .val (.ref ff), .val (.ref ss), .unset, .unset, .unset] [(.ref b7)])) _
    refine st17 _ ?_
    show Steps p.tables e below (T17.setTop (mkF m 106 #[.val (.int p1), .val (.int p2), .val (.int p3), .val (.int p4), .val (.int p5), .val (.int p6), .val (.int (p1 &&& (255 : Int32))), .val (.ref b7), .val (.ref bb), .val (.ref ll), .val (.ref ff), .val (.ref ss), .unset, .unset, .unset] [(.ref le)])) _
    refine XS.astore X17.here hx rfl (hb hby at_106) rfl rfl (l' := #[.val (.int p1), .val (.int p2), .val (.int p3), .val (.int p4), .val (.int p5), .val (.int p6), .val (.int (p1 &&& (255 : Int32))), .val (.ref b7), .val (.ref bb), .val (.ref ll), .val (.ref ff), .val (.ref ss), .val (.ref le), .unset, .unset]) rfl ?_
    show Steps p.tables e below (T17.setTop (mkF m 108 #[.val (.int p1), .val (.int p2), .val (.int p3), .val (.int p4), .val (.int p5), .val (.int p6), .val (.int (p1 &&& (255 : Int32))), .val (.ref b7), .val (.ref bb), .val (.ref ll), .val (.ref ff), .val (.ref ss), .val (.ref le), .unset, .unset] [])) _
    refine XS.aload X17.here hx rfl (hb hby at_108) rfl rfl ?_
    show Steps p.tables e below (T17.setTop (mkF m 110 #[.val (.int p1), .val (.int p2), .val (.int p3), .val (.int p4), .val (.int p5), .val (.int p6), .val (.int (p1 &&& (255 : Int32))), .val (.ref b7), .val (.ref bb), .val (.ref ll), .val (.ref ff), .val (.ref ss), .val (.ref le), .unset, .unset] [(.ref b7)])) _
    refine st18 _ ?_
    show Steps p.tables e below (T18.setTop (mkF m 113 #[.val (.int p1), .val (.int p2), .val (.int p3), .val (.int p4), .val (.int p5), .val (.int p6), .val (.int (p1 &&& (255 : Int32))), .val (.ref b7), .val (.ref bb), .val (.ref ll), .val (.ref ff), .val (.ref ss), .val (.ref le), .unset, .unset] [(.ref tt)])) _
    refine XS.astore X18.here hx rfl (hb hby at_113) rfl rfl (l' := #[.val (.int p1), .val (.int p2), .val (.int p3), .val (.int p4), .val (.int p5), .val (.int p6), .val (.int (p1 &&& (255 : Int32))), .val (.ref b7), .val (.ref bb), .val (.ref ll), .val (.ref ff), .val (.ref ss), .val (.ref le), .val (.ref tt), .unset]) rfl ?_
    show Steps p.tables e below (T18.setTop (mkF m 115 #[.val (.int p1), .val (.int p2), .val (.int p3), .val (.int p4), .val (.int p5), .val (.int p6), .val (.int (p1 &&& (255 : Int32))), .val (.ref b7), .val (.ref bb), .val (.ref ll), .val (.ref ff), .val (.ref ss), .val (.ref le), .val (.ref tt), .unset] [])) _
    refine XS.aload X18.here hx rfl (hb hby at_115) rfl rfl ?_
    show Steps p.tables e below (T18.setTop (mkF m 117 #[.val (.int p1), .val (.int p2), .val (.int p3), .val (.int p4), .val (.int p5), .val (.int p6), .val (.int (p1 &&& (255 : Int32))), .val (.ref b7), .val (.ref bb), .val (.ref ll), .val (.ref ff), .val (.ref ss), .val (.ref le), .val (.ref tt), .unset] [(.ref b7)])) _
    refine st19.trans ?_
    show Steps p.tables e below (T19.setTop (mkF m 120 #[.val (.int p1), .val (.int p2), .val (.int p3), .val (.int p4), .val (.int p5), .val (.int p6), .val (.int (p1 &&& (255 : Int32))), .val (.ref b7), .val (.ref bb), .val (.ref ll), .val (.ref ff), .val (.ref ss), .val (.ref le), .val (.ref tt), .unset] [(.ref b7)])) _
    refine XS.astore X19.here hx rfl (hb hby at_120) rfl rfl (l' := #[.val (.int p1), .val (.int p2), .val (.int p3), .val (.int p4), .val (.int p5), .val (.int p6), .val (.int (p1 &&& (255 : Int32))), .val (.ref b7), .val (.ref bb), .val (.ref ll), .val (.ref ff), .val (.ref ss), .val (.ref le), .val (.ref tt), .val (.ref b7)]) rfl ?_
    show Steps p.tables e below (T19.setTop (mkF m 122 #[.val (.int p1), .val (.int p2), .val (.int p3), .val (.int p4), .val (.int p5), .val (.int p6), .val (.int (p1 &&& (255 : Int32))), .val (.ref b7), .val (.ref bb), .val (.ref ll), .val (.ref ff), .val (.ref ss), .val (.ref le), .val (.ref tt), .val (.ref b7)] [])) _
    refine XS.aload X19.here hx rfl (hb hby at_122) rfl rfl ?_
    show Steps p.tables e below (T19.setTop (mkF m 124 #[.val (.int p1), .val (.int p2), .val (.int p3), .val (.int p4), .val (.int p5), .val (.int p6), .val (.int (p1 &&& (255 : Int32))), .val (.ref b7), .val (.ref bb), .val (.ref ll), .val (.ref ff), .val (.ref ss), .val (.ref le), .val (.ref tt), .val (.ref b7)] [(.ref b7)])) _
    refine XS.aload X19.here hx rfl (hb hby at_124) rfl rfl ?_
    show Steps p.tables e below (T19.setTop (mkF m 126 #[.val (.int p1), .val (.int p2), .val (.int p3), .val (.int p4), .val (.int p5), .val (.int p6), .val (.int (p1 &&& (255 : Int32))), .val (.ref b7), .val (.ref bb), .val (.ref ll), .val (.ref ff), .val (.ref ss), .val (.ref le), .val (.ref tt), .val (.ref b7)] [(.ref b7), (.ref b7)])) _
    refine Jvm.RoadKit.acmp (g := (mkF m 126 #[.val (.int p1), .val (.int p2), .val (.int p3), .val (.int p4), .val (.int p5), .val (.int p6), .val (.int (p1 &&& (255 : Int32))), .val (.ref b7), .val (.ref bb), .val (.ref ll), .val (.ref ff), .val (.ref ss), .val (.ref le), .val (.ref tt), .val (.ref b7)] [(.ref b7), (.ref b7)])) X19 hx rfl rfl rfl (pc0 := 126) (pc' := 129) (same := true) rfl (hb hby at_126) rfl (decide_eq_true (congrArg Value.ref rfl)) (by decide) (by decide) ?_
    show Steps p.tables e below (T19.setTop (mkF m 129 #[.val (.int p1), .val (.int p2), .val (.int p3), .val (.int p4), .val (.int p5), .val (.int p6), .val (.int (p1 &&& (255 : Int32))), .val (.ref b7), .val (.ref bb), .val (.ref ll), .val (.ref ff), .val (.ref ss), .val (.ref le), .val (.ref tt), .val (.ref b7)] [])) _
    refine XS.aload X19.here hx rfl (hb hby at_129) rfl rfl ?_
    show Steps p.tables e below (T19.setTop (mkF m 131 #[.val (.int p1), .val (.int p2), .val (.int p3), .val (.int p4), .val (.int p5), .val (.int p6), .val (.int (p1 &&& (255 : Int32))), .val (.ref b7), .val (.ref bb), .val (.ref ll), .val (.ref ff), .val (.ref ss), .val (.ref le), .val (.ref tt), .val (.ref b7)] [(.ref b7)])) _
    refine st20 _ ?_
    show Steps p.tables e below (T20.setTop (mkF m 134 #[.val (.int p1), .val (.int p2), .val (.int p3), .val (.int p4), .val (.int p5), .val (.int p6), .val (.int (p1 &&& (255 : Int32))), .val (.ref b7), .val (.ref bb), .val (.ref ll), .val (.ref ff), .val (.ref ss), .val (.ref le), .val (.ref tt), .val (.ref b7)] [(.int (0 : Int32))])) _
    refine XS.ifNo X20.here hx rfl (hb hby at_134) rfl ((if0 _ _).trans (teq (rfl : (0 : Int32) = (0 : Int32))).2) ?_
    show Steps p.tables e below (T20.setTop (mkF m 137 #[.val (.int p1), .val (.int p2), .val (.int p3), .val (.int p4), .val (.int p5), .val (.int p6), .val (.int (p1 &&& (255 : Int32))), .val (.ref b7), .val (.ref bb), .val (.ref ll), .val (.ref ff), .val (.ref ss), .val (.ref le), .val (.ref tt), .val (.ref b7)] [])) _
    refine XS.aload X20.here hx rfl (hb hby at_137) rfl rfl ?_
    show Steps p.tables e below (T20.setTop (mkF m 139 #[.val (.int p1), .val (.int p2), .val (.int p3), .val (.int p4), .val (.int p5), .val (.int p6), .val (.int (p1 &&& (255 : Int32))), .val (.ref b7), .val (.ref bb), .val (.ref ll), .val (.ref ff), .val (.ref ss), .val (.ref le), .val (.ref tt), .val (.ref b7)] [(.ref b7)])) _
    refine st21 _ ?_
    show Steps p.tables e below (T21.setTop (mkF m 142 #[.val (.int p1), .val (.int p2), .val (.int p3), .val (.int p4), .val (.int p5), .val (.int p6), .val (.int (p1 &&& (255 : Int32))), .val (.ref b7), .val (.ref bb), .val (.ref ll), .val (.ref ff), .val (.ref ss), .val (.ref le), .val (.ref tt), .val (.ref b7)] [(.int (0 : Int32))])) _
    refine XS.ifYes X21.here hx rfl (pc0 := 142) (pc' := 147) rfl (hb hby at_142) rfl ((if0 _ _).trans (teq (rfl : (0 : Int32) = (0 : Int32))).1) (by decide) (by decide) ?_
    show Steps p.tables e below (T21.setTop (mkF m 147 #[.val (.int p1), .val (.int p2), .val (.int p3), .val (.int p4), .val (.int p5), .val (.int p6), .val (.int (p1 &&& (255 : Int32))), .val (.ref b7), .val (.ref bb), .val (.ref ll), .val (.ref ff), .val (.ref ss), .val (.ref le), .val (.ref tt), .val (.ref b7)] [])) _
    refine XS.aload X21.here hx rfl (hb hby at_147) rfl rfl ?_
    show Steps p.tables e below (T21.setTop (mkF m 149 #[.val (.int p1), .val (.int p2), .val (.int p3), .val (.int p4), .val (.int p5), .val (.int p6), .val (.int (p1 &&& (255 : Int32))), .val (.ref b7), .val (.ref bb), .val (.ref ll), .val (.ref ff), .val (.ref ss), .val (.ref le), .val (.ref tt), .val (.ref b7)] [(.ref b7)])) _
    refine st22 _ ?_
    show Steps p.tables e below (T22.setTop (mkF m 152 #[.val (.int p1), .val (.int p2), .val (.int p3), .val (.int p4), .val (.int p5), .val (.int p6), .val (.int (p1 &&& (255 : Int32))), .val (.ref b7), .val (.ref bb), .val (.ref ll), .val (.ref ff), .val (.ref ss), .val (.ref le), .val (.ref tt), .val (.ref b7)] [(.ref bb)])) _
    refine XS.aload X22.here hx rfl (hb hby at_152) rfl rfl ?_
    show Steps p.tables e below (T22.setTop (mkF m 154 #[.val (.int p1), .val (.int p2), .val (.int p3), .val (.int p4), .val (.int p5), .val (.int p6), .val (.int (p1 &&& (255 : Int32))), .val (.ref b7), .val (.ref bb), .val (.ref ll), .val (.ref ff), .val (.ref ss), .val (.ref le), .val (.ref tt), .val (.ref b7)] [(.ref bb), (.ref bb)])) _
    refine Jvm.RoadKit.acmp (g := (mkF m 154 #[.val (.int p1), .val (.int p2), .val (.int p3), .val (.int p4), .val (.int p5), .val (.int p6), .val (.int (p1 &&& (255 : Int32))), .val (.ref b7), .val (.ref bb), .val (.ref ll), .val (.ref ff), .val (.ref ss), .val (.ref le), .val (.ref tt), .val (.ref b7)] [(.ref bb), (.ref bb)])) X22 hx rfl rfl rfl (pc0 := 154) (pc' := 157) (same := true) rfl (hb hby at_154) rfl (decide_eq_true rfl) (by decide) (by decide) ?_
    show Steps p.tables e below (T22.setTop (mkF m 157 #[.val (.int p1), .val (.int p2), .val (.int p3), .val (.int p4), .val (.int p5), .val (.int p6), .val (.int (p1 &&& (255 : Int32))), .val (.ref b7), .val (.ref bb), .val (.ref ll), .val (.ref ff), .val (.ref ss), .val (.ref le), .val (.ref tt), .val (.ref b7)] [])) _
    refine XS.aload X22.here hx rfl (hb hby at_157) rfl rfl ?_
    show Steps p.tables e below (T22.setTop (mkF m 159 #[.val (.int p1), .val (.int p2), .val (.int p3), .val (.int p4), .val (.int p5), .val (.int p6), .val (.int (p1 &&& (255 : Int32))), .val (.ref b7), .val (.ref bb), .val (.ref ll), .val (.ref ff), .val (.ref ss), .val (.ref le), .val (.ref tt), .val (.ref b7)] [(.ref b7)])) _
    refine st23 _ ?_
    show Steps p.tables e below (T23.setTop (mkF m 162 #[.val (.int p1), .val (.int p2), .val (.int p3), .val (.int p4), .val (.int p5), .val (.int p6), .val (.int (p1 &&& (255 : Int32))), .val (.ref b7), .val (.ref bb), .val (.ref ll), .val (.ref ff), .val (.ref ss), .val (.ref le), .val (.ref tt), .val (.ref b7)] [(.ref bb)])) _
    refine X23.arraylength hx (by rw [e23]; exact Ar_xb.1) (State.isArrayOf_alike hZ.alike Ar_xb.2.1) (g := (mkF m 162 #[.val (.int p1), .val (.int p2), .val (.int p3), .val (.int p4), .val (.int p5), .val (.int p6), .val (.int (p1 &&& (255 : Int32))), .val (.ref b7), .val (.ref bb), .val (.ref ll), .val (.ref ff), .val (.ref ss), .val (.ref le), .val (.ref tt), .val (.ref b7)] [(.ref bb)])) rfl rfl (hb hby at_162) _ ?_
    rw [len_of S_xb N_xb]
    show Steps p.tables e below (T23.setTop (mkF m 163 #[.val (.int p1), .val (.int p2), .val (.int p3), .val (.int p4), .val (.int p5), .val (.int p6), .val (.int (p1 &&& (255 : Int32))), .val (.ref b7), .val (.ref bb), .val (.ref ll), .val (.ref ff), .val (.ref ss), .val (.ref le), .val (.ref tt), .val (.ref b7)] [(.int (p1 &&& (255 : Int32)))])) _
    refine XS.iload X23.here hx rfl (hb hby at_163) rfl ?_
    show Steps p.tables e below (T23.setTop (mkF m 165 #[.val (.int p1), .val (.int p2), .val (.int p3), .val (.int p4), .val (.int p5), .val (.int p6), .val (.int (p1 &&& (255 : Int32))), .val (.ref b7), .val (.ref bb), .val (.ref ll), .val (.ref ff), .val (.ref ss), .val (.ref le), .val (.ref tt), .val (.ref b7)] [(.int (p1 &&& (255 : Int32))), (.int (p1 &&& (255 : Int32)))])) _
    refine XS.icmpNo X23.here hx rfl (hb hby at_165) rfl (teq (rfl : (p1 &&& (255 : Int32)) = (p1 &&& (255 : Int32)))).2 ?_
    show Steps p.tables e below (T23.setTop (mkF m 168 #[.val (.int p1), .val (.int p2), .val (.int p3), .val (.int p4), .val (.int p5), .val (.int p6), .val (.int (p1 &&& (255 : Int32))), .val (.ref b7), .val (.ref bb), .val (.ref ll), .val (.ref ff), .val (.ref ss), .val (.ref le), .val (.ref tt), .val (.ref b7)] [])) _
    refine XS.aload X23.here hx rfl (hb hby at_168) rfl rfl ?_
    show Steps p.tables e below (T23.setTop (mkF m 170 #[.val (.int p1), .val (.int p2), .val (.int p3), .val (.int p4), .val (.int p5), .val (.int p6), .val (.int (p1 &&& (255 : Int32))), .val (.ref b7), .val (.ref bb), .val (.ref ll), .val (.ref ff), .val (.ref ss), .val (.ref le), .val (.ref tt), .val (.ref b7)] [(.ref b7)])) _
    refine st24 _ ?_
    show Steps p.tables e below (T24.setTop (mkF m 173 #[.val (.int p1), .val (.int p2), .val (.int p3), .val (.int p4), .val (.int p5), .val (.int p6), .val (.int (p1 &&& (255 : Int32))), .val (.ref b7), .val (.ref bb), .val (.ref ll), .val (.ref ff), .val (.ref ss), .val (.ref le), .val (.ref tt), .val (.ref b7)] [(.ref ll)])) _
    refine XS.aload X24.here hx rfl (hb hby at_173) rfl rfl ?_
    show Steps p.tables e below (T24.setTop (mkF m 175 #[.val (.int p1), .val (.int p2), .val (.int p3), .val (.int p4), .val (.int p5), .val (.int p6), .val (.int (p1 &&& (255 : Int32))), .val (.ref b7), .val (.ref bb), .val (.ref ll), .val (.ref ff), .val (.ref ss), .val (.ref le), .val (.ref tt), .val (.ref b7)] [(.ref ll), (.ref ll)])) _
    refine Jvm.RoadKit.acmp (g := (mkF m 175 #[.val (.int p1), .val (.int p2), .val (.int p3), .val (.int p4), .val (.int p5), .val (.int p6), .val (.int (p1 &&& (255 : Int32))), .val (.ref b7), .val (.ref bb), .val (.ref ll), .val (.ref ff), .val (.ref ss), .val (.ref le), .val (.ref tt), .val (.ref b7)] [(.ref ll), (.ref ll)])) X24 hx rfl rfl rfl (pc0 := 175) (pc' := 178) (same := true) rfl (hb hby at_175) rfl (decide_eq_true rfl) (by decide) (by decide) ?_
    show Steps p.tables e below (T24.setTop (mkF m 178 #[.val (.int p1), .val (.int p2), .val (.int p3), .val (.int p4), .val (.int p5), .val (.int p6), .val (.int (p1 &&& (255 : Int32))), .val (.ref b7), .val (.ref bb), .val (.ref ll), .val (.ref ff), .val (.ref ss), .val (.ref le), .val (.ref tt), .val (.ref b7)] [])) _
    refine XS.aload X24.here hx rfl (hb hby at_178) rfl rfl ?_
    show Steps p.tables e below (T24.setTop (mkF m 180 #[.val (.int p1), .val (.int p2), .val (.int p3), .val (.int p4), .val (.int p5), .val (.int p6), .val (.int (p1 &&& (255 : Int32))), .val (.ref b7), .val (.ref bb), .val (.ref ll), .val (.ref ff), .val (.ref ss), .val (.ref le), .val (.ref tt), .val (.ref b7)] [(.ref b7)])) _
    refine st25 _ ?_
    show Steps p.tables e below (T25.setTop (mkF m 183 #[.val (.int p1), .val (.int p2), .val (.int p3), .val (.int p4), .val (.int p5), .val (.int p6), .val (.int (p1 &&& (255 : Int32))), .val (.ref b7), .val (.ref bb), .val (.ref ll), .val (.ref ff), .val (.ref ss), .val (.ref le), .val (.ref tt), .val (.ref b7)] [(.ref ff)])) _
    refine XS.aload X25.here hx rfl (hb hby at_183) rfl rfl ?_
    show Steps p.tables e below (T25.setTop (mkF m 185 #[.val (.int p1), .val (.int p2), .val (.int p3), .val (.int p4), .val (.int p5), .val (.int p6), .val (.int (p1 &&& (255 : Int32))), .val (.ref b7), .val (.ref bb), .val (.ref ll), .val (.ref ff), .val (.ref ss), .val (.ref le), .val (.ref tt), .val (.ref b7)] [(.ref ff), (.ref ff)])) _
    refine Jvm.RoadKit.acmp (g := (mkF m 185 #[.val (.int p1), .val (.int p2), .val (.int p3), .val (.int p4), .val (.int p5), .val (.int p6), .val (.int (p1 &&& (255 : Int32))), .val (.ref b7), .val (.ref bb), .val (.ref ll), .val (.ref ff), .val (.ref ss), .val (.ref le), .val (.ref tt), .val (.ref b7)] [(.ref ff), (.ref ff)])) X25 hx rfl rfl rfl (pc0 := 185) (pc' := 188) (same := true) rfl (hb hby at_185) rfl (decide_eq_true rfl) (by decide) (by decide) ?_
    show Steps p.tables e below (T25.setTop (mkF m 188 #[.val (.int p1), .val (.int p2), .val (.int p3), .val (.int p4), .val (.int p5), .val (.int p6), .val (.int (p1 &&& (255 : Int32))), .val (.ref b7), .val (.ref bb), .val (.ref ll), .val (.ref ff), .val (.ref ss), .val (.ref le), .val (.ref tt), .val (.ref b7)] [])) _
    refine XS.aload X25.here hx rfl (hb hby at_188) rfl rfl ?_
    show Steps p.tables e below (T25.setTop (mkF m 190 #[.val (.int p1), .val (.int p2), .val (.int p3), .val (.int p4), .val (.int p5), .val (.int p6), .val (.int (p1 &&& (255 : Int32))), .val (.ref b7), .val (.ref bb), .val (.ref ll), .val (.ref ff), .val (.ref ss), .val (.ref le), .val (.ref tt), .val (.ref b7)] [(.ref b7)])) _
    refine st26 _ ?_
    show Steps p.tables e below (T26.setTop (mkF m 193 #[.val (.int p1), .val (.int p2), .val (.int p3), .val (.int p4), .val (.int p5), .val (.int p6), .val (.int (p1 &&& (255 : Int32))), .val (.ref b7), .val (.ref bb), .val (.ref ll), .val (.ref ff), .val (.ref ss), .val (.ref le), .val (.ref tt), .val (.ref b7)] [(.ref ss)])) _
    refine XS.aload X26.here hx rfl (hb hby at_193) rfl rfl ?_
    show Steps p.tables e below (T26.setTop (mkF m 195 #[.val (.int p1), .val (.int p2), .val (.int p3), .val (.int p4), .val (.int p5), .val (.int p6), .val (.int (p1 &&& (255 : Int32))), .val (.ref b7), .val (.ref bb), .val (.ref ll), .val (.ref ff), .val (.ref ss), .val (.ref le), .val (.ref tt), .val (.ref b7)] [(.ref ss), (.ref ss)])) _
    refine Jvm.RoadKit.acmp (g := (mkF m 195 #[.val (.int p1), .val (.int p2), .val (.int p3), .val (.int p4), .val (.int p5), .val (.int p6), .val (.int (p1 &&& (255 : Int32))), .val (.ref b7), .val (.ref bb), .val (.ref ll), .val (.ref ff), .val (.ref ss), .val (.ref le), .val (.ref tt), .val (.ref b7)] [(.ref ss), (.ref ss)])) X26 hx rfl rfl rfl (pc0 := 195) (pc' := 198) (same := true) rfl (hb hby at_195) rfl (decide_eq_true rfl) (by decide) (by decide) ?_
    show Steps p.tables e below (T26.setTop (mkF m 198 #[.val (.int p1), .val (.int p2), .val (.int p3), .val (.int p4), .val (.int p5), .val (.int p6), .val (.int (p1 &&& (255 : Int32))), .val (.ref b7), .val (.ref bb), .val (.ref ll), .val (.ref ff), .val (.ref ss), .val (.ref le), .val (.ref tt), .val (.ref b7)] [])) _
    refine XS.aload X26.here hx rfl (hb hby at_198) rfl rfl ?_
    show Steps p.tables e below (T26.setTop (mkF m 200 #[.val (.int p1), .val (.int p2), .val (.int p3), .val (.int p4), .val (.int p5), .val (.int p6), .val (.int (p1 &&& (255 : Int32))), .val (.ref b7), .val (.ref bb), .val (.ref ll), .val (.ref ff), .val (.ref ss), .val (.ref le), .val (.ref tt), .val (.ref b7)] [(.ref b7)])) _
    refine st27 _ ?_
    show Steps p.tables e below (T27.setTop (mkF m 203 #[.val (.int p1), .val (.int p2), .val (.int p3), .val (.int p4), .val (.int p5), .val (.int p6), .val (.int (p1 &&& (255 : Int32))), .val (.ref b7), .val (.ref bb), .val (.ref ll), .val (.ref ff), .val (.ref ss), .val (.ref le), .val (.ref tt), .val (.ref b7)] [(.ref le)])) _
    refine XS.aload X27.here hx rfl (hb hby at_203) rfl rfl ?_
    show Steps p.tables e below (T27.setTop (mkF m 205 #[.val (.int p1), .val (.int p2), .val (.int p3), .val (.int p4), .val (.int p5), .val (.int p6), .val (.int (p1 &&& (255 : Int32))), .val (.ref b7), .val (.ref bb), .val (.ref ll), .val (.ref ff), .val (.ref ss), .val (.ref le), .val (.ref tt), .val (.ref b7)] [(.ref le), (.ref le)])) _
    refine Jvm.RoadKit.acmp (g := (mkF m 205 #[.val (.int p1), .val (.int p2), .val (.int p3), .val (.int p4), .val (.int p5), .val (.int p6), .val (.int (p1 &&& (255 : Int32))), .val (.ref b7), .val (.ref bb), .val (.ref ll), .val (.ref ff), .val (.ref ss), .val (.ref le), .val (.ref tt), .val (.ref b7)] [(.ref le), (.ref le)])) X27 hx rfl rfl rfl (pc0 := 205) (pc' := 208) (same := true) rfl (hb hby at_205) rfl (decide_eq_true rfl) (by decide) (by decide) ?_
    show Steps p.tables e below (T27.setTop (mkF m 208 #[.val (.int p1), .val (.int p2), .val (.int p3), .val (.int p4), .val (.int p5), .val (.int p6), .val (.int (p1 &&& (255 : Int32))), .val (.ref b7), .val (.ref bb), .val (.ref ll), .val (.ref ff), .val (.ref ss), .val (.ref le), .val (.ref tt), .val (.ref b7)] [])) _
    refine XS.aload X27.here hx rfl (hb hby at_208) rfl rfl ?_
    show Steps p.tables e below (T27.setTop (mkF m 210 #[.val (.int p1), .val (.int p2), .val (.int p3), .val (.int p4), .val (.int p5), .val (.int p6), .val (.int (p1 &&& (255 : Int32))), .val (.ref b7), .val (.ref bb), .val (.ref ll), .val (.ref ff), .val (.ref ss), .val (.ref le), .val (.ref tt), .val (.ref b7)] [(.ref b7)])) _
    refine st28 _ ?_
    show Steps p.tables e below (T28.setTop (mkF m 213 #[.val (.int p1), .val (.int p2), .val (.int p3), .val (.int p4), .val (.int p5), .val (.int p6), .val (.int (p1 &&& (255 : Int32))), .val (.ref b7), .val (.ref bb), .val (.ref ll), .val (.ref ff), .val (.ref ss), .val (.ref le), .val (.ref tt), .val (.ref b7)] [(.ref tt)])) _
    refine XS.aload X28.here hx rfl (hb hby at_213) rfl rfl ?_
    show Steps p.tables e below (T28.setTop (mkF m 215 #[.val (.int p1), .val (.int p2), .val (.int p3), .val (.int p4), .val (.int p5), .val (.int p6), .val (.int (p1 &&& (255 : Int32))), .val (.ref b7), .val (.ref bb), .val (.ref ll), .val (.ref ff), .val (.ref ss), .val (.ref le), .val (.ref tt), .val (.ref b7)] [(.ref tt), (.ref tt)])) _
    refine Jvm.RoadKit.acmp (g := (mkF m 215 #[.val (.int p1), .val (.int p2), .val (.int p3), .val (.int p4), .val (.int p5), .val (.int p6), .val (.int (p1 &&& (255 : Int32))), .val (.ref b7), .val (.ref bb), .val (.ref ll), .val (.ref ff), .val (.ref ss), .val (.ref le), .val (.ref tt), .val (.ref b7)] [(.ref tt), (.ref tt)])) X28 hx rfl rfl rfl (pc0 := 215) (pc' := 220) (same := true) rfl (hb hby at_215) rfl (decide_eq_true rfl) (by decide) (by decide) ?_
    show Steps p.tables e below (T28.setTop (mkF m 220 #[.val (.int p1), .val (.int p2), .val (.int p3), .val (.int p4), .val (.int p5), .val (.int p6), .val (.int (p1 &&& (255 : Int32))), .val (.ref b7), .val (.ref bb), .val (.ref ll), .val (.ref ff), .val (.ref ss), .val (.ref le), .val (.ref tt), .val (.ref b7)] [])) _
    refine XS.aload X28.here hx rfl (hb hby at_220) rfl rfl ?_
    show Steps p.tables e below (T28.setTop (mkF m 222 #[.val (.int p1), .val (.int p2), .val (.int p3), .val (.int p4), .val (.int p5), .val (.int p6), .val (.int (p1 &&& (255 : Int32))), .val (.ref b7), .val (.ref bb), .val (.ref ll), .val (.ref ff), .val (.ref ss), .val (.ref le), .val (.ref tt), .val (.ref b7)] [(.ref b7)])) _
    refine XS.iloadN X28.here hx rfl (hb hby at_222) rfl ?_
    show Steps p.tables e below (T28.setTop (mkF m 223 #[.val (.int p1), .val (.int p2), .val (.int p3), .val (.int p4), .val (.int p5), .val (.int p6), .val (.int (p1 &&& (255 : Int32))), .val (.ref b7), .val (.ref bb), .val (.ref ll), .val (.ref ff), .val (.ref ss), .val (.ref le), .val (.ref tt), .val (.ref b7)] [(.int p4), (.ref b7)])) _
    refine st29.trans ?_
    show Steps p.tables e below (T29.setTop (mkF m 226 #[.val (.int p1), .val (.int p2), .val (.int p3), .val (.int p4), .val (.int p5), .val (.int p6), .val (.int (p1 &&& (255 : Int32))), .val (.ref b7), .val (.ref bb), .val (.ref ll), .val (.ref ff), .val (.ref ss), .val (.ref le), .val (.ref tt), .val (.ref b7)] [])) _
    refine XS.aload X29.here hx rfl (hb hby at_226) rfl rfl ?_
    show Steps p.tables e below (T29.setTop (mkF m 228 #[.val (.int p1), .val (.int p2), .val (.int p3), .val (.int p4), .val (.int p5), .val (.int p6), .val (.int (p1 &&& (255 : Int32))), .val (.ref b7), .val (.ref bb), .val (.ref ll), .val (.ref ff), .val (.ref ss), .val (.ref le), .val (.ref tt), .val (.ref b7)] [(.ref b7)])) _
    refine XS.iload X29.here hx rfl (hb hby at_228) rfl ?_
    show Steps p.tables e below (T29.setTop (mkF m 230 #[.val (.int p1), .val (.int p2), .val (.int p3), .val (.int p4), .val (.int p5), .val (.int p6), .val (.int (p1 &&& (255 : Int32))), .val (.ref b7), .val (.ref bb), .val (.ref ll), .val (.ref ff), .val (.ref ss), .val (.ref le), .val (.ref tt), .val (.ref b7)] [(.int p5), (.ref b7)])) _
    refine XS.iconst X29.here hx rfl (hb hby at_230) ?_
    show Steps p.tables e below (T29.setTop (mkF m 231 #[.val (.int p1), .val (.int p2), .val (.int p3), .val (.int p4), .val (.int p5), .val (.int p6), .val (.int (p1 &&& (255 : Int32))), .val (.ref b7), .val (.ref bb), .val (.ref ll), .val (.ref ff), .val (.ref ss), .val (.ref le), .val (.ref tt), .val (.ref b7)] [(.int (3 : Int32)), (.int p5), (.ref b7)])) _
    refine XS.aconstNull X29.here hx rfl (hb hby at_231) ?_
    show Steps p.tables e below (T29.setTop (mkF m 232 #[.val (.int p1), .val (.int p2), .val (.int p3), .val (.int p4), .val (.int p5), .val (.int p6), .val (.int (p1 &&& (255 : Int32))), .val (.ref b7), .val (.ref bb), .val (.ref ll), .val (.ref ff), .val (.ref ss), .val (.ref le), .val (.ref tt), .val (.ref b7)] [.null, (.int (3 : Int32)), (.int p5), (.ref b7)])) _
    refine st30.trans ?_
    show Steps p.tables e below (T30.setTop (mkF m 235 #[.val (.int p1), .val (.int p2), .val (.int p3), .val (.int p4), .val (.int p5), .val (.int p6), .val (.int (p1 &&& (255 : Int32))), .val (.ref b7), .val (.ref bb), .val (.ref ll), .val (.ref ff), .val (.ref ss), .val (.ref le), .val (.ref tt), .val (.ref b7)] [])) _
    refine XS.aload X30.here hx rfl (hb hby at_235) rfl rfl ?_
    show Steps p.tables e below (T30.setTop (mkF m 237 #[.val (.int p1), .val (.int p2), .val (.int p3), .val (.int p4), .val (.int p5), .val (.int p6), .val (.int (p1 &&& (255 : Int32))), .val (.ref b7), .val (.ref bb), .val (.ref ll), .val (.ref ff), .val (.ref ss), .val (.ref le), .val (.ref tt), .val (.ref b7)] [(.ref b7)])) _
    refine st31 _ ?_
    show Steps p.tables e below (T31.setTop (mkF m 240 #[.val (.int p1), .val (.int p2), .val (.int p3), .val (.int p4), .val (.int p5), .val (.int p6), .val (.int (p1 &&& (255 : Int32))), .val (.ref b7), .val (.ref bb), .val (.ref ll), .val (.ref ff), .val (.ref ss), .val (.ref le), .val (.ref tt), .val (.ref b7)] [(.int (0 : Int32))])) _
    refine XS.ifNo X31.here hx rfl (hb hby at_240) rfl ((if0 _ _).trans (teq (rfl : (0 : Int32) = (0 : Int32))).2) ?_
    show Steps p.tables e below (T31.setTop (mkF m 243 #[.val (.int p1), .val (.int p2), .val (.int p3), .val (.int p4), .val (.int p5), .val (.int p6), .val (.int (p1 &&& (255 : Int32))), .val (.ref b7), .val (.ref bb), .val (.ref ll), .val (.ref ff), .val (.ref ss), .val (.ref le), .val (.ref tt), .val (.ref b7)] [])) _
    refine XS.aload X31.here hx rfl (hb hby at_243) rfl rfl ?_
    show Steps p.tables e below (T31.setTop (mkF m 245 #[.val (.int p1), .val (.int p2), .val (.int p3), .val (.int p4), .val (.int p5), .val (.int p6), .val (.int (p1 &&& (255 : Int32))), .val (.ref b7), .val (.ref bb), .val (.ref ll), .val (.ref ff), .val (.ref ss), .val (.ref le), .val (.ref tt), .val (.ref b7)] [(.ref b7)])) _
    refine st32 _ ?_
    show Steps p.tables e below (T32.setTop (mkF m 248 #[.val (.int p1), .val (.int p2), .val (.int p3), .val (.int p4), .val (.int p5), .val (.int p6), .val (.int (p1 &&& (255 : Int32))), .val (.ref b7), .val (.ref bb), .val (.ref ll), .val (.ref ff), .val (.ref ss), .val (.ref le), .val (.ref tt), .val (.ref b7)] [(.int (1 : Int32))])) _
    refine XS.iconst X32.here hx rfl (hb hby at_248) ?_
    show Steps p.tables e below (T32.setTop (mkF m 249 #[.val (.int p1), .val (.int p2), .val (.int p3), .val (.int p4), .val (.int p5), .val (.int p6), .val (.int (p1 &&& (255 : Int32))), .val (.ref b7), .val (.ref bb), .val (.ref ll), .val (.ref ff), .val (.ref ss), .val (.ref le), .val (.ref tt), .val (.ref b7)] [(.int (1 : Int32)), (.int (1 : Int32))])) _
    refine XS.icmpNo X32.here hx rfl (hb hby at_249) rfl (teq (rfl : (1 : Int32) = (1 : Int32))).2 ?_
    show Steps p.tables e below (T32.setTop (mkF m 252 #[.val (.int p1), .val (.int p2), .val (.int p3), .val (.int p4), .val (.int p5), .val (.int p6), .val (.int (p1 &&& (255 : Int32))), .val (.ref b7), .val (.ref bb), .val (.ref ll), .val (.ref ff), .val (.ref ss), .val (.ref le), .val (.ref tt), .val (.ref b7)] [])) _
    refine XS.aload X32.here hx rfl (hb hby at_252) rfl rfl ?_
    show Steps p.tables e below (T32.setTop (mkF m 254 #[.val (.int p1), .val (.int p2), .val (.int p3), .val (.int p4), .val (.int p5), .val (.int p6), .val (.int (p1 &&& (255 : Int32))), .val (.ref b7), .val (.ref bb), .val (.ref ll), .val (.ref ff), .val (.ref ss), .val (.ref le), .val (.ref tt), .val (.ref b7)] [(.ref b7)])) _
    refine st33 _ ?_
    show Steps p.tables e below (T33.setTop (mkF m 257 #[.val (.int p1), .val (.int p2), .val (.int p3), .val (.int p4), .val (.int p5), .val (.int p6), .val (.int (p1 &&& (255 : Int32))), .val (.ref b7), .val (.ref bb), .val (.ref ll), .val (.ref ff), .val (.ref ss), .val (.ref le), .val (.ref tt), .val (.ref b7)] [(.ref ll)])) _
    refine XS.iconst X33.here hx rfl (hb hby at_257) ?_
    show Steps p.tables e below (T33.setTop (mkF m 258 #[.val (.int p1), .val (.int p2), .val (.int p3), .val (.int p4), .val (.int p5), .val (.int p6), .val (.int (p1 &&& (255 : Int32))), .val (.ref b7), .val (.ref bb), .val (.ref ll), .val (.ref ff), .val (.ref ss), .val (.ref le), .val (.ref tt), .val (.ref b7)] [(.int (0 : Int32)), (.ref ll)])) _
    refine X33.iaload hx (j := (0 : Int32)) (v := (.int p4)) (by rw [e33]; exact Ar_xl.1) (State.isArrayOf_alike hZ.alike Ar_xl.2.1) Ar_xl.2.2 hin258 hat258 (g := (mkF m 258 #[.val (.int p1), .val (.int p2), .val (.int p3), .val (.int p4), .val (.int p5), .val (.int p6), .val (.int (p1 &&& (255 : Int32))), .val (.ref b7), .val (.ref bb), .val (.ref ll), .val (.ref ff), .val (.ref ss), .val (.ref le), .val (.ref tt), .val (.ref b7)] [(.int (0 : Int32)), (.ref ll)])) rfl rfl (hb hby at_258) _ ?_
    show Steps p.tables e below (T33.setTop (mkF m 259 #[.val (.int p1), .val (.int p2), .val (.int p3), .val (.int p4), .val (.int p5), .val (.int p6), .val (.int (p1 &&& (255 : Int32))), .val (.ref b7), .val (.ref bb), .val (.ref ll), .val (.ref ff), .val (.ref ss), .val (.ref le), .val (.ref tt), .val (.ref b7)] [(.int p4)])) _
    refine XS.iloadN X33.here hx rfl (hb hby at_259) rfl ?_
    show Steps p.tables e below (T33.setTop (mkF m 260 #[.val (.int p1), .val (.int p2), .val (.int p3), .val (.int p4), .val (.int p5), .val (.int p6), .val (.int (p1 &&& (255 : Int32))), .val (.ref b7), .val (.ref bb), .val (.ref ll), .val (.ref ff), .val (.ref ss), .val (.ref le), .val (.ref tt), .val (.ref b7)] [(.int p4), (.int p4)])) _
    refine XS.icmpNo X33.here hx rfl (hb hby at_260) rfl (teq (rfl : p4 = p4)).2 ?_
    show Steps p.tables e below (T33.setTop (mkF m 263 #[.val (.int p1), .val (.int p2), .val (.int p3), .val (.int p4), .val (.int p5), .val (.int p6), .val (.int (p1 &&& (255 : Int32))), .val (.ref b7), .val (.ref bb), .val (.ref ll), .val (.ref ff), .val (.ref ss), .val (.ref le), .val (.ref tt), .val (.ref b7)] [])) _
    refine XS.aload X33.here hx rfl (hb hby at_263) rfl rfl ?_
    show Steps p.tables e below (T33.setTop (mkF m 265 #[.val (.int p1), .val (.int p2), .val (.int p3), .val (.int p4), .val (.int p5), .val (.int p6), .val (.int (p1 &&& (255 : Int32))), .val (.ref b7), .val (.ref bb), .val (.ref ll), .val (.ref ff), .val (.ref ss), .val (.ref le), .val (.ref tt), .val (.ref b7)] [(.ref b7)])) _
    refine st35 _ ?_
    show Steps p.tables e below (T35.setTop (mkF m 268 #[.val (.int p1), .val (.int p2), .val (.int p3), .val (.int p4), .val (.int p5), .val (.int p6), .val (.int (p1 &&& (255 : Int32))), .val (.ref b7), .val (.ref bb), .val (.ref ll), .val (.ref ff), .val (.ref ss), .val (.ref le), .val (.ref tt), .val (.ref b7)] [(.ref ff)])) _
    refine XS.iconst X35.here hx rfl (hb hby at_268) ?_
    show Steps p.tables e below (T35.setTop (mkF m 269 #[.val (.int p1), .val (.int p2), .val (.int p3), .val (.int p4), .val (.int p5), .val (.int p6), .val (.int (p1 &&& (255 : Int32))), .val (.ref b7), .val (.ref bb), .val (.ref ll), .val (.ref ff), .val (.ref ss), .val (.ref le), .val (.ref tt), .val (.ref b7)] [(.int (0 : Int32)), (.ref ff)])) _
    refine X35.iaload hx (j := (0 : Int32)) (v := (.int (0 : Int32))) (by rw [e35]; exact Ar_xf.1) (State.isArrayOf_alike hZ.alike Ar_xf.2.1) Ar_xf.2.2 hin269 hat269 (g := (mkF m 269 #[.val (.int p1), .val (.int p2), .val (.int p3), .val (.int p4), .val (.int p5), .val (.int p6), .val (.int (p1 &&& (255 : Int32))), .val (.ref b7), .val (.ref bb), .val (.ref ll), .val (.ref ff), .val (.ref ss), .val (.ref le), .val (.ref tt), .val (.ref b7)] [(.int (0 : Int32)), (.ref ff)])) rfl rfl (hb hby at_269) _ ?_
    show Steps p.tables e below (T35.setTop (mkF m 270 #[.val (.int p1), .val (.int p2), .val (.int p3), .val (.int p4), .val (.int p5), .val (.int p6), .val (.int (p1 &&& (255 : Int32))), .val (.ref b7), .val (.ref bb), .val (.ref ll), .val (.ref ff), .val (.ref ss), .val (.ref le), .val (.ref tt), .val (.ref b7)] [(.int (0 : Int32))])) _
    refine XS.ifNo X35.here hx rfl (hb hby at_270) rfl ((if0 _ _).trans (teq (rfl : (0 : Int32) = (0 : Int32))).2) ?_
    show Steps p.tables e below (T35.setTop (mkF m 273 #[.val (.int p1), .val (.int p2), .val (.int p3), .val (.int p4), .val (.int p5), .val (.int p6), .val (.int (p1 &&& (255 : Int32))), .val (.ref b7), .val (.ref bb), .val (.ref ll), .val (.ref ff), .val (.ref ss), .val (.ref le), .val (.ref tt), .val (.ref b7)] [])) _
    refine XS.aload X35.here hx rfl (hb hby at_273) rfl rfl ?_
    show Steps p.tables e below (T35.setTop (mkF m 275 #[.val (.int p1), .val (.int p2), .val (.int p3), .val (.int p4), .val (.int p5), .val (.int p6), .val (.int (p1 &&& (255 : Int32))), .val (.ref b7), .val (.ref bb), .val (.ref ll), .val (.ref ff), .val (.ref ss), .val (.ref le), .val (.ref tt), .val (.ref b7)] [(.ref b7)])) _
    refine st37 _ ?_
    show Steps p.tables e below (T37.setTop (mkF m 278 #[.val (.int p1), .val (.int p2), .val (.int p3), .val (.int p4), .val (.int p5), .val (.int p6), .val (.int (p1 &&& (255 : Int32))), .val (.ref b7), .val (.ref bb), .val (.ref ll), .val (.ref ff), .val (.ref ss), .val (.ref le), .val (.ref tt), .val (.ref b7)] [(.ref ff)])) _
    refine XS.iconst X37.here hx rfl (hb hby at_278) ?_
    show Steps p.tables e below (T37.setTop (mkF m 279 #[.val (.int p1), .val (.int p2), .val (.int p3), .val (.int p4), .val (.int p5), .val (.int p6), .val (.int (p1 &&& (255 : Int32))), .val (.ref b7), .val (.ref bb), .val (.ref ll), .val (.ref ff), .val (.ref ss), .val (.ref le), .val (.ref tt), .val (.ref b7)] [(.int (1 : Int32)), (.ref ff)])) _
    refine X37.iaload hx (j := (1 : Int32)) (v := (.int (1 : Int32))) (by rw [e37]; exact Ar_xf.1) (State.isArrayOf_alike hZ.alike Ar_xf.2.1) Ar_xf.2.2 hin279 hat279 (g := (mkF m 279 #[.val (.int p1), .val (.int p2), .val (.int p3), .val (.int p4), .val (.int p5), .val (.int p6), .val (.int (p1 &&& (255 : Int32))), .val (.ref b7), .val (.ref bb), .val (.ref ll), .val (.ref ff), .val (.ref ss), .val (.ref le), .val (.ref tt), .val (.ref b7)] [(.int (1 : Int32)), (.ref ff)])) rfl rfl (hb hby at_279) _ ?_
    show Steps p.tables e below (T37.setTop (mkF m 280 #[.val (.int p1), .val (.int p2), .val (.int p3), .val (.int p4), .val (.int p5), .val (.int p6), .val (.int (p1 &&& (255 : Int32))), .val (.ref b7), .val (.ref bb), .val (.ref ll), .val (.ref ff), .val (.ref ss), .val (.ref le), .val (.ref tt), .val (.ref b7)] [(.int (1 : Int32))])) _
    refine XS.iconst X37.here hx rfl (hb hby at_280) ?_
    show Steps p.tables e below (T37.setTop (mkF m 281 #[.val (.int p1), .val (.int p2), .val (.int p3), .val (.int p4), .val (.int p5), .val (.int p6), .val (.int (p1 &&& (255 : Int32))), .val (.ref b7), .val (.ref bb), .val (.ref ll), .val (.ref ff), .val (.ref ss), .val (.ref le), .val (.ref tt), .val (.ref b7)] [(.int (1 : Int32)), (.int (1 : Int32))])) _
    refine XS.icmpNo X37.here hx rfl (hb hby at_281) rfl (teq (rfl : (1 : Int32) = (1 : Int32))).2 ?_
    show Steps p.tables e below (T37.setTop (mkF m 284 #[.val (.int p1), .val (.int p2), .val (.int p3), .val (.int p4), .val (.int p5), .val (.int p6), .val (.int (p1 &&& (255 : Int32))), .val (.ref b7), .val (.ref bb), .val (.ref ll), .val (.ref ff), .val (.ref ss), .val (.ref le), .val (.ref tt), .val (.ref b7)] [])) _
    refine XS.aload X37.here hx rfl (hb hby at_284) rfl rfl ?_
    show Steps p.tables e below (T37.setTop (mkF m 286 #[.val (.int p1), .val (.int p2), .val (.int p3), .val (.int p4), .val (.int p5), .val (.int p6), .val (.int (p1 &&& (255 : Int32))), .val (.ref b7), .val (.ref bb), .val (.ref ll), .val (.ref ff), .val (.ref ss), .val (.ref le), .val (.ref tt), .val (.ref b7)] [(.ref b7)])) _
    refine st39 _ ?_
    show Steps p.tables e below (T39.setTop (mkF m 289 #[.val (.int p1), .val (.int p2), .val (.int p3), .val (.int p4), .val (.int p5), .val (.int p6), .val (.int (p1 &&& (255 : Int32))), .val (.ref b7), .val (.ref bb), .val (.ref ll), .val (.ref ff), .val (.ref ss), .val (.ref le), .val (.ref tt), .val (.ref b7)] [(.ref ss)])) _
    refine XS.iconst X39.here hx rfl (hb hby at_289) ?_
    show Steps p.tables e below (T39.setTop (mkF m 290 #[.val (.int p1), .val (.int p2), .val (.int p3), .val (.int p4), .val (.int p5), .val (.int p6), .val (.int (p1 &&& (255 : Int32))), .val (.ref b7), .val (.ref bb), .val (.ref ll), .val (.ref ff), .val (.ref ss), .val (.ref le), .val (.ref tt), .val (.ref b7)] [(.int (0 : Int32)), (.ref ss)])) _
    refine X39.iaload hx (j := (0 : Int32)) (v := (.int p5)) (by rw [e39]; exact Ar_xs.1) (State.isArrayOf_alike hZ.alike Ar_xs.2.1) Ar_xs.2.2 hin290 hat290 (g := (mkF m 290 #[.val (.int p1), .val (.int p2), .val (.int p3), .val (.int p4), .val (.int p5), .val (.int p6), .val (.int (p1 &&& (255 : Int32))), .val (.ref b7), .val (.ref bb), .val (.ref ll), .val (.ref ff), .val (.ref ss), .val (.ref le), .val (.ref tt), .val (.ref b7)] [(.int (0 : Int32)), (.ref ss)])) rfl rfl (hb hby at_290) _ ?_
    show Steps p.tables e below (T39.setTop (mkF m 291 #[.val (.int p1), .val (.int p2), .val (.int p3), .val (.int p4), .val (.int p5), .val (.int p6), .val (.int (p1 &&& (255 : Int32))), .val (.ref b7), .val (.ref bb), .val (.ref ll), .val (.ref ff), .val (.ref ss), .val (.ref le), .val (.ref tt), .val (.ref b7)] [(.int p5)])) _
    refine XS.iload X39.here hx rfl (hb hby at_291) rfl ?_
    show Steps p.tables e below (T39.setTop (mkF m 293 #[.val (.int p1), .val (.int p2), .val (.int p3), .val (.int p4), .val (.int p5), .val (.int p6), .val (.int (p1 &&& (255 : Int32))), .val (.ref b7), .val (.ref bb), .val (.ref ll), .val (.ref ff), .val (.ref ss), .val (.ref le), .val (.ref tt), .val (.ref b7)] [(.int p5), (.int p5)])) _
    refine XS.icmpNo X39.here hx rfl (hb hby at_293) rfl (teq (rfl : p5 = p5)).2 ?_
    show Steps p.tables e below (T39.setTop (mkF m 296 #[.val (.int p1), .val (.int p2), .val (.int p3), .val (.int p4), .val (.int p5), .val (.int p6), .val (.int (p1 &&& (255 : Int32))), .val (.ref b7), .val (.ref bb), .val (.ref ll), .val (.ref ff), .val (.ref ss), .val (.ref le), .val (.ref tt), .val (.ref b7)] [])) _
    refine XS.aload X39.here hx rfl (hb hby at_296) rfl rfl ?_
    show Steps p.tables e below (T39.setTop (mkF m 298 #[.val (.int p1), .val (.int p2), .val (.int p3), .val (.int p4), .val (.int p5), .val (.int p6), .val (.int (p1 &&& (255 : Int32))), .val (.ref b7), .val (.ref bb), .val (.ref ll), .val (.ref ff), .val (.ref ss), .val (.ref le), .val (.ref tt), .val (.ref b7)] [(.ref b7)])) _
    refine st41 _ ?_
    show Steps p.tables e below (T41.setTop (mkF m 301 #[.val (.int p1), .val (.int p2), .val (.int p3), .val (.int p4), .val (.int p5), .val (.int p6), .val (.int (p1 &&& (255 : Int32))), .val (.ref b7), .val (.ref bb), .val (.ref ll), .val (.ref ff), .val (.ref ss), .val (.ref le), .val (.ref tt), .val (.ref b7)] [(.ref le)])) _
    refine XS.iconst X41.here hx rfl (hb hby at_301) ?_
    show Steps p.tables e below (T41.setTop (mkF m 302 #[.val (.int p1), .val (.int p2), .val (.int p3), .val (.int p4), .val (.int p5), .val (.int p6), .val (.int (p1 &&& (255 : Int32))), .val (.ref b7), .val (.ref bb), .val (.ref ll), .val (.ref ff), .val (.ref ss), .val (.ref le), .val (.ref tt), .val (.ref b7)] [(.int (0 : Int32)), (.ref le)])) _
    refine X41.iaload hx (j := (0 : Int32)) (v := (.int (3 : Int32))) (by rw [e41]; exact Ar_xe.1) (State.isArrayOf_alike hZ.alike Ar_xe.2.1) Ar_xe.2.2 hin302 hat302 (g := (mkF m 302 #[.val (.int p1), .val (.int p2), .val (.int p3), .val (.int p4), .val (.int p5), .val (.int p6), .val (.int (p1 &&& (255 : Int32))), .val (.ref b7), .val (.ref bb), .val (.ref ll), .val (.ref ff), .val (.ref ss), .val (.ref le), .val (.ref tt), .val (.ref b7)] [(.int (0 : Int32)), (.ref le)])) rfl rfl (hb hby at_302) _ ?_
    show Steps p.tables e below (T41.setTop (mkF m 303 #[.val (.int p1), .val (.int p2), .val (.int p3), .val (.int p4), .val (.int p5), .val (.int p6), .val (.int (p1 &&& (255 : Int32))), .val (.ref b7), .val (.ref bb), .val (.ref ll), .val (.ref ff), .val (.ref ss), .val (.ref le), .val (.ref tt), .val (.ref b7)] [(.int (3 : Int32))])) _
    refine XS.iconst X41.here hx rfl (hb hby at_303) ?_
    show Steps p.tables e below (T41.setTop (mkF m 304 #[.val (.int p1), .val (.int p2), .val (.int p3), .val (.int p4), .val (.int p5), .val (.int p6), .val (.int (p1 &&& (255 : Int32))), .val (.ref b7), .val (.ref bb), .val (.ref ll), .val (.ref ff), .val (.ref ss), .val (.ref le), .val (.ref tt), .val (.ref b7)] [(.int (3 : Int32)), (.int (3 : Int32))])) _
    refine XS.icmpNo X41.here hx rfl (hb hby at_304) rfl (teq (rfl : (3 : Int32) = (3 : Int32))).2 ?_
    show Steps p.tables e below (T41.setTop (mkF m 307 #[.val (.int p1), .val (.int p2), .val (.int p3), .val (.int p4), .val (.int p5), .val (.int p6), .val (.int (p1 &&& (255 : Int32))), .val (.ref b7), .val (.ref bb), .val (.ref ll), .val (.ref ff), .val (.ref ss), .val (.ref le), .val (.ref tt), .val (.ref b7)] [])) _
    refine XS.aload X41.here hx rfl (hb hby at_307) rfl rfl ?_
    show Steps p.tables e below (T41.setTop (mkF m 309 #[.val (.int p1), .val (.int p2), .val (.int p3), .val (.int p4), .val (.int p5), .val (.int p6), .val (.int (p1 &&& (255 : Int32))), .val (.ref b7), .val (.ref bb), .val (.ref ll), .val (.ref ff), .val (.ref ss), .val (.ref le), .val (.ref tt), .val (.ref b7)] [(.ref b7)])) _
    refine st43 _ ?_
    show Steps p.tables e below (T43.setTop (mkF m 312 #[.val (.int p1), .val (.int p2), .val (.int p3), .val (.int p4), .val (.int p5), .val (.int p6), .val (.int (p1 &&& (255 : Int32))), .val (.ref b7), .val (.ref bb), .val (.ref ll), .val (.ref ff), .val (.ref ss), .val (.ref le), .val (.ref tt), .val (.ref b7)] [(.ref tt)])) _
    refine XS.iconst X43.here hx rfl (hb hby at_312) ?_
    show Steps p.tables e below (T43.setTop (mkF m 313 #[.val (.int p1), .val (.int p2), .val (.int p3), .val (.int p4), .val (.int p5), .val (.int p6), .val (.int (p1 &&& (255 : Int32))), .val (.ref b7), .val (.ref bb), .val (.ref ll), .val (.ref ff), .val (.ref ss), .val (.ref le), .val (.ref tt), .val (.ref b7)] [(.int (0 : Int32)), (.ref tt)])) _
    refine X43.aaload hx (j := (0 : Int32)) (v := .null) (by rw [e43]; exact Ar_xt.1) (State.isArrayOf_alike hZ.alike Ar_xt.2.1) rfl Ar_xt.2.2 hin313 hat313 (g := (mkF m 313 #[.val (.int p1), .val (.int p2), .val (.int p3), .val (.int p4), .val (.int p5), .val (.int p6), .val (.int (p1 &&& (255 : Int32))), .val (.ref b7), .val (.ref bb), .val (.ref ll), .val (.ref ff), .val (.ref ss), .val (.ref le), .val (.ref tt), .val (.ref b7)] [(.int (0 : Int32)), (.ref tt)])) rfl rfl (hb hby at_313) _ ?_
    show Steps p.tables e below (T43.setTop (mkF m 314 #[.val (.int p1), .val (.int p2), .val (.int p3), .val (.int p4), .val (.int p5), .val (.int p6), .val (.int (p1 &&& (255 : Int32))), .val (.ref b7), .val (.ref bb), .val (.ref ll), .val (.ref ff), .val (.ref ss), .val (.ref le), .val (.ref tt), .val (.ref b7)] [.null])) _
    refine XS.ifnonnullNo X43.here hx rfl (hb hby at_314) rfl ?_
    show Steps p.tables e below (T43.setTop (mkF m 317 #[.val (.int p1), .val (.int p2), .val (.int p3), .val (.int p4), .val (.int p5), .val (.int p6), .val (.int (p1 &&& (255 : Int32))), .val (.ref b7), .val (.ref bb), .val (.ref ll), .val (.ref ff), .val (.ref ss), .val (.ref le), .val (.ref tt), .val (.ref b7)] [])) _
    refine XS.iconst X43.here hx rfl (hb hby at_317) ?_
    show Steps p.tables e below (T43.setTop (mkF m 318 #[.val (.int p1), .val (.int p2), .val (.int p3), .val (.int p4), .val (.int p5), .val (.int p6), .val (.int (p1 &&& (255 : Int32))), .val (.ref b7), .val (.ref bb), .val (.ref ll), .val (.ref ff), .val (.ref ss), .val (.ref le), .val (.ref tt), .val (.ref b7)] [(.int (1 : Int32))])) _
    refine XS.goto X43.here hx rfl (pc0 := 318) (pc' := 322) rfl (hb hby at_318) (by decide) (by decide) ?_
    show Steps p.tables e below (T43.setTop (mkF m 322 #[.val (.int p1), .val (.int p2), .val (.int p3), .val (.int p4), .val (.int p5), .val (.int p6), .val (.int (p1 &&& (255 : Int32))), .val (.ref b7), .val (.ref bb), .val (.ref ll), .val (.ref ff), .val (.ref ss), .val (.ref le), .val (.ref tt), .val (.ref b7)] [(.int (1 : Int32))])) _
    exact retN X43 hx (t := .boolean) Bd.returns (by simp) (hb hby at_322) hr
  · show Q0 Z p1 p2 p3 p4 p5 p6 h0 n0 _ T43.heap _
    rw [e43]
    exact ⟨rfl, N30⟩
set_option maxRecDepth 65536 in
set_option maxHeartbeats 40000000 in
theorem rm0_even (l : Launch) (Z : State) (a0 : Array Value) (hw : ∀ d ∈ tables_1, d.before a0 Z = true) (ws : List Jvm.Cond) (p1 p2 p3 p4 p5 p6 : Int32) (h0 : Heap) (n0 : Nat) (Z0 : n0 ≤ h0.size) (hc22 : (p6 &&& (1 : Int32)) = (0 : Int32)) :
    MetFree l x (head1 (Jvm.Cond.code x code maxLocals ret :: ws) room_1) (fun a U => a = #[(.int p1), (.int p2), (.int p3), (.int p4), (.int p5), (.int p6)] ∧ Z.Warmed39 U.vm ∧ U.heap = h0) (fun _ _ _ _ _ => True) (fun _ U o U' => ∃ v L, o = .returned v ∧ Q0 Z p1 p2 p3 p4 p5 p6 h0 n0 v U'.heap L ∧ FrameEnd U o U' L room_1.cells room_1.slots) := by
  refine MetFree.of_bodySF (plainFor_of_name pn_0) hisR ?_
  intro p e s m args below meth c s₁ Bd hml0 hP hK
  obtain ⟨rfl, hZ, hh⟩ := hP
  have hx := Bd.exec
  have hby := Bd.bytes
  have hml : c.maxLocals = 15 := hml0
  have hown : s.vm.findClass "com/example/interstice/interstice/BatchClearPinLaw" = some m.cls := findClass_of_methodNamed Bd.named
  have hnm := (name_of_methodNamed Bd.named Bd.method).1
  have X0 : Stand p l e room_1 s m #[(.int p1), (.int p2), (.int p3), (.int p4), (.int p5), (.int p6)] below meth c s₁ [] 0 0 := Stand.of_body Bd
  have e0 : s₁.heap = h0 := by rw [← hh, Bd.state]; rfl
  have N0 := Fr.nil n0
  have pre0 : ∀ t, Steps p.tables e below (s₁.setTop (mkF m 0 #[.val (.int p1), .val (.int p2), .val (.int p3), .val (.int p4), .val (.int p5), .val (.int p6), .unset, .unset, .unset, .unset, .unset, .unset, .unset, .unset, .unset] [])) t → Steps p.tables e below (s₁.setTop (entryFrame m #[(.int p1), (.int p2), (.int p3), (.int p4), (.int p5), (.int p6)] maxLocals)) t := fun t k => castTop (ef_0 m p1 p2 p3 p4 p5 p6) k
  -- 3. LAWS
  obtain ⟨T7, h7, X7, e7, E7, A7, D7, -, st7⟩ := newO X0 hx hZ hown (hw _ (List.mem_of_getElem? (i := 0) rfl)) (hw _ (List.mem_of_getElem? (i := 1) rfl)) (hw _ (List.mem_of_getElem? (i := 2) rfl)) e0 (g := (mkF m 7 #[.val (.int p1), .val (.int p2), .val (.int p3), .val (.int p4), .val (.int p5), .val (.int p6), .val (.int (p1 &&& (255 : Int32))), .unset, .unset, .unset, .unset, .unset, .unset, .unset, .unset] [])) rfl (hb hby at_7) (by decide) (by decide)
  obtain ⟨b7, g7⟩ : ∃ z, z = h0.size := ⟨_, rfl⟩
  rw [← g7] at A7 D7 st7
  have F_lines_b7 : Fld Z h7 b7 "com/example/interstice/interstice/CsvScanner$Batch" "lines" "[I" .null := D7 (Or.inl (hw _ (List.mem_of_getElem? (i := 11) rfl))) (ty := (.array .int)) (by decide)
  have F_firstFields_b7 : Fld Z h7 b7 "com/example/interstice/interstice/CsvScanner$Batch" "firstFields" "[I" .null := D7 (Or.inl (hw _ (List.mem_of_getElem? (i := 13) rfl))) (ty := (.array .int)) (by decide)
  have F_starts_b7 : Fld Z h7 b7 "com/example/interstice/interstice/CsvScanner$Batch" "starts" "[I" .null := D7 (Or.inl (hw _ (List.mem_of_getElem? (i := 15) rfl))) (ty := (.array .int)) (by decide)
  have F_lengths_b7 : Fld Z h7 b7 "com/example/interstice/interstice/CsvScanner$Batch" "lengths" "[I" .null := D7 (Or.inl (hw _ (List.mem_of_getElem? (i := 17) rfl))) (ty := (.array .int)) (by decide)
  have F_texts_b7 : Fld Z h7 b7 "com/example/interstice/interstice/CsvScanner$Batch" "texts" "[Ljava/lang/String;" .null := D7 (Or.inl (hw _ (List.mem_of_getElem? (i := 21) rfl))) (ty := (.array (.object "java/lang/String"))) (by decide)
  have F_instants_b7 : Fld Z h7 b7 "com/example/interstice/interstice/CsvScanner$Batch" "instants" "[Ljava/time/Instant;" .null := D7 (Or.inl (hw _ (List.mem_of_getElem? (i := 25) rfl))) (ty := (.array (.object "java/time/Instant"))) (by decide)
  have F_decimals_b7 : Fld Z h7 b7 "com/example/interstice/interstice/CsvScanner$Batch" "decimals" "[D" .null := D7 (Or.inl (hw _ (List.mem_of_getElem? (i := 28) rfl))) (ty := (.array .double)) (by decide)
  have F_sameSeries_b7 : Fld Z h7 b7 "com/example/interstice/interstice/CsvScanner$Batch" "sameSeries" "[Z" .null := D7 (Or.inl (hw _ (List.mem_of_getElem? (i := 31) rfl))) (ty := (.array .boolean)) (by decide)
  have F_bytes_b7 : Fld Z h7 b7 "com/example/interstice/interstice/CsvScanner$Batch" "bytes" "[B" .null := D7 (Or.inl (hw _ (List.mem_of_getElem? (i := 34) rfl))) (ty := (.array .byte)) (by decide)
  have F_records_b7 : Fld Z h7 b7 "com/example/interstice/interstice/CsvScanner$Batch" "records" "I" (.int (0 : Int32)) := D7 (Or.inl (hw _ (List.mem_of_getElem? (i := 41) rfl))) (ty := .int) (by decide)
  have F_fields_b7 : Fld Z h7 b7 "com/example/interstice/interstice/CsvScanner$Batch" "fields" "I" (.int (0 : Int32)) := D7 (Or.inl (hw _ (List.mem_of_getElem? (i := 43) rfl))) (ty := .int) (by decide)
  have E_b7 := A7
  have g_b7 : n0 ≤ b7 := Nat.le_trans Z0 (Nat.le_of_eq g7.symm)
  have sz_b7 : h0.size ≤ b7 := (Nat.le_trans (Keep.refl h0 []).1 (Nat.le_of_eq g7.symm))
  have K7 : Keep h0 h7 [] := (Keep.refl h0 []).ext E7
  have Z7 : n0 ≤ h7.size := Nat.le_trans Z0 K7.1
  obtain ⟨_, _, ⟨T8, L8, k8, n8⟩, -, X8, ⟨Lc8, hQ8, l8, y8, z8⟩, st8⟩ := X7.specialBack hx (y := (⟨"com/example/interstice/interstice/CsvScanner$Batch", "<init>", "(I)V"⟩ : MethodName)) rfl hown (mvT hZ (hw _ (List.mem_of_getElem? (i := 3) rfl))) (mvT hZ (hw _ (List.mem_of_getElem? (i := 4) rfl))) (mvT hZ (hw _ (List.mem_of_getElem? (i := 5) rfl))) (by decide) (backOf (W := 1) (rm1 l Z a0 hw [] b7 (p1 &&& (255 : Int32)) _ _ _ _ _ _ _ _ _ h7 n0 Z7 E_b7 F_lines_b7 g_b7 F_firstFields_b7 F_starts_b7 F_lengths_b7 F_texts_b7 F_instants_b7 F_decimals_b7 F_sameSeries_b7 F_bytes_b7 F_records_b7 F_fields_b7 (own_n p1).1 (own_n p1).2) hZ (hw _ (List.mem_of_getElem? (i := 5) rfl)) (hw _ (List.mem_of_getElem? (i := 2) rfl)) (by decide) (by decide)) (g := (mkF m 13 #[.val (.int p1), .val (.int p2), .val (.int p3), .val (.int p4), .val (.int p5), .val (.int p6), .val (.int (p1 &&& (255 : Int32))), .unset, .unset, .unset, .unset, .unset, .unset, .unset, .unset] [(.int (p1 &&& (255 : Int32))), (.ref b7), (.ref b7)])) rfl (by rw [hml]; rfl) (Steps.refl _) (a := b7) (argsL := [(.int (p1 &&& (255 : Int32)))]) (rest := [(.ref b7)]) (lenOf pd_0_0 rfl) rfl (by show 2 * 0 + _ ≤ _; exact Nat.le_of_eq rfl) (hb hby at_13) (fun _ _ => ⟨rfl, e7, (by decide : 1 + 9 ≤ _), (by decide : 15 + 14592 ≤ _)⟩)
  dsimp only [Pt.U, Pt.locs, Pt.cells, Pt.slots] at X8 l8 y8 z8 st8 hQ8
  subst l8 y8 z8
  obtain ⟨rfl, N8q, ll, ff, ss, le, tt, bb, kl, kf, ks, ke, kt, kb, B8⟩ := hQ8
  obtain ⟨⟨o08, o18, o28, o38, o48, o58, o68⟩, E_8, ⟨Fl_8, Ff_8, Fs_8, Fe_8, Ft_8, Fb_8⟩, ⟨Fr_8, Fc_8⟩, ⟨Al_8, Af_8, As_8, Ae_8, At_8, Ab_8⟩⟩ := id B8
  have N8 := Fr.app N0 N8q
  obtain ⟨T9, h9, X9, e9, W9, st9⟩ := putF X8 hx hZ hown (host := "") (Or.inl (hw _ (List.mem_of_getElem? (i := 49) rfl))) Via.refl rfl Fr_8 E_8 (Or.inl (hw _ (List.mem_of_getElem? (i := 41) rfl))) (hw _ (List.mem_of_getElem? (i := 1) rfl)) (ty := .int) (by decide) rfl rfl (g := (mkF m 64 #[.val (.int p1), .val (.int p2), .val (.int p3), .val (.int p4), .val (.int p5), .val (.int p6), .val (.int (p1 &&& (255 : Int32))), .val (.ref b7), .unset, .unset, .unset, .unset, .unset, .unset, .unset] [(.int p2), (.ref b7)])) rfl rfl (hb hby at_64)
  have B9 : Bat Z n0 h9 b7 ll ff ss le tt bb kl kf ks ke kt kb (p1 &&& (255 : Int32)) p2 (0 : Int32) (0 : Int32) (0 : Int32) (0 : Int32) (0 : Int32) (0 : Int32) := Bat.setR hw B8 W9
  obtain ⟨⟨o09, o19, o29, o39, o49, o59, o69⟩, E_9, ⟨Fl_9, Ff_9, Fs_9, Fe_9, Ft_9, Fb_9⟩, ⟨Fr_9, Fc_9⟩, ⟨Al_9, Af_9, As_9, Ae_9, At_9, Ab_9⟩⟩ := id B9
  have N9 := Fr.snoc X9 N8 (by omega : n0 ≤ b7)
  obtain ⟨T10, h10, X10, e10, W10, st10⟩ := putF X9 hx hZ hown (host := "") (Or.inl (hw _ (List.mem_of_getElem? (i := 61) rfl))) Via.refl e9 Fc_9 E_9 (Or.inl (hw _ (List.mem_of_getElem? (i := 43) rfl))) (hw _ (List.mem_of_getElem? (i := 1) rfl)) (ty := .int) (by decide) rfl rfl (g := (mkF m 70 #[.val (.int p1), .val (.int p2), .val (.int p3), .val (.int p4), .val (.int p5), .val (.int p6), .val (.int (p1 &&& (255 : Int32))), .val (.ref b7), .unset, .unset, .unset, .unset, .unset, .unset, .unset] [(.int p3), (.ref b7)])) rfl rfl (hb hby at_70)
  have B10 : Bat Z n0 h10 b7 ll ff ss le tt bb kl kf ks ke kt kb (p1 &&& (255 : Int32)) p2 p3 (0 : Int32) (0 : Int32) (0 : Int32) (0 : Int32) (0 : Int32) := Bat.setC hw B9 W10
  obtain ⟨⟨o010, o110, o210, o310, o410, o510, o610⟩, E_10, ⟨Fl_10, Ff_10, Fs_10, Fe_10, Ft_10, Fb_10⟩, ⟨Fr_10, Fc_10⟩, ⟨Al_10, Af_10, As_10, Ae_10, At_10, Ab_10⟩⟩ := id B10
  have N10 := Fr.snoc X10 N9 (by omega : n0 ≤ b7)
  obtain ⟨T11, X11, e11, st11⟩ := getF X10 hx hZ hown (host := "") (Or.inl (hw _ (List.mem_of_getElem? (i := 50) rfl))) Via.refl e10 Fb_10 (g := (mkF m 75 #[.val (.int p1), .val (.int p2), .val (.int p3), .val (.int p4), .val (.int p5), .val (.int p6), .val (.int (p1 &&& (255 : Int32))), .val (.ref b7), .unset, .unset, .unset, .unset, .unset, .unset, .unset] [(.ref b7)])) rfl rfl (hb hby at_75)
  obtain ⟨T12, X12, e12, st12⟩ := getF X11 hx hZ hown (host := "") (Or.inl (hw _ (List.mem_of_getElem? (i := 51) rfl))) Via.refl e11 Fl_10 (g := (mkF m 82 #[.val (.int p1), .val (.int p2), .val (.int p3), .val (.int p4), .val (.int p5), .val (.int p6), .val (.int (p1 &&& (255 : Int32))), .val (.ref b7), .val (.ref bb), .unset, .unset, .unset, .unset, .unset, .unset] [(.ref b7)])) rfl rfl (hb hby at_82)
  obtain ⟨T13, X13, e13, st13⟩ := getF X12 hx hZ hown (host := "") (Or.inl (hw _ (List.mem_of_getElem? (i := 52) rfl))) Via.refl e12 Ff_10 (g := (mkF m 89 #[.val (.int p1), .val (.int p2), .val (.int p3), .val (.int p4), .val (.int p5), .val (.int p6), .val (.int (p1 &&& (255 : Int32))), .val (.ref b7), .val (.ref bb), .val (.ref ll), .unset, .unset, .unset, .unset, .unset] [(.ref b7)])) rfl rfl (hb hby at_89)
  obtain ⟨T14, X14, e14, st14⟩ := getF X13 hx hZ hown (host := "") (Or.inl (hw _ (List.mem_of_getElem? (i := 53) rfl))) Via.refl e13 Fs_10 (g := (mkF m 96 #[.val (.int p1), .val (.int p2), .val (.int p3), .val (.int p4), .val (.int p5), .val (.int p6), .val (.int (p1 &&& (255 : Int32))), .val (.ref b7), .val (.ref bb), .val (.ref ll), .val (.ref ff), .unset, .unset, .unset, .unset] [(.ref b7)])) rfl rfl (hb hby at_96)
  obtain ⟨T15, X15, e15, st15⟩ := getF X14 hx hZ hown (host := "") (Or.inl (hw _ (List.mem_of_getElem? (i := 54) rfl))) Via.refl e14 Fe_10 (g := (mkF m 103 #[.val (.int p1), .val (.int p2), .val (.int p3), .val (.int p4), .val (.int p5), .val (.int p6), .val (.int (p1 &&& (255 : Int32))), .val (.ref b7), .val (.ref bb), .val (.ref ll), .val (.ref ff), .val (.ref ss), .unset, .unset, .unset] [(.ref b7)])) rfl rfl (hb hby at_103)
  obtain ⟨T16, X16, e16, st16⟩ := getF X15 hx hZ hown (host := "") (Or.inl (hw _ (List.mem_of_getElem? (i := 55) rfl))) Via.refl e15 Ft_10 (g := (mkF m 110 #[.val (.int p1), .val (.int p2), .val (.int p3), .val (.int p4), .val (.int p5), .val (.int p6), .val (.int (p1 &&& (255 : Int32))), .val (.ref b7), .val (.ref bb), .val (.ref ll), .val (.ref ff), .val (.ref ss), .val (.ref le), .unset, .unset] [(.ref b7)])) rfl rfl (hb hby at_110)
  obtain ⟨cq17, kq17, q17a, q17b, q17c⟩ := isOf hZ e16 E_10
  obtain ⟨_, _, ⟨T17, L17, k17, n17⟩, -, X17, ⟨Lc17, hQ17, l17, y17, z17⟩, st17⟩ := X16.virtualBack hx (y := (⟨"com/example/interstice/interstice/CsvScanner$Batch", "clear", "()Lcom/example/interstice/interstice/CsvScanner$Batch;"⟩ : MethodName)) (z := (⟨"com/example/interstice/interstice/CsvScanner$Batch", "clear", "()Lcom/example/interstice/interstice/CsvScanner$Batch;"⟩ : MethodName)) hown (mvT hZ (hw _ (List.mem_of_getElem? (i := 56) rfl))) (mvT hZ (hw _ (List.mem_of_getElem? (i := 57) rfl))) (notFace_of_selects (args := #[]) (mvT hZ (hw _ (List.mem_of_getElem? (i := 59) rfl)))) (mvT hZ (hw _ (List.mem_of_getElem? (i := 59) rfl))) (mvT hZ (hw _ (List.mem_of_getElem? (i := 58) rfl))) (by decide) (backOf (W := 0) (rm5 l Z a0 hw [] b7 p2 p3 ll ff ss le tt bb kl kf ks ke kt kb (p1 &&& (255 : Int32)) (0 : Int32) (0 : Int32) (0 : Int32) (0 : Int32) (0 : Int32) h10 n0 (Bat.size B10) B10) hZ (hw _ (List.mem_of_getElem? (i := 60) rfl)) (hw _ (List.mem_of_getElem? (i := 2) rfl)) (by decide) (by decide)) q17a q17c (g := (mkF m 117 #[.val (.int p1), .val (.int p2), .val (.int p3), .val (.int p4), .val (.int p5), .val (.int p6), .val (.int (p1 &&& (255 : Int32))), .val (.ref b7), .val (.ref bb), .val (.ref ll), .val (.ref ff), .val (.ref ss), .val (.ref le), .val (.ref tt), .unset] [(.ref b7)])) rfl (by rw [hml]; rfl) (Steps.refl _) (argsL := []) (rest := []) (lenOf pd_0_3 rfl) rfl (by show 2 * 0 + _ ≤ _; exact Nat.le_of_eq rfl) (hb hby at_117) (fun _ _ => ⟨rfl, e16, (by decide : 10 + 0 ≤ _), (by decide : 14607 + 0 ≤ _)⟩)
  dsimp only [Pt.U, Pt.locs, Pt.cells, Pt.slots] at X17 l17 y17 z17 st17 hQ17
  subst l17 y17 z17
  obtain ⟨rfl, N17q, B17⟩ := hQ17
  obtain ⟨⟨o017, o117, o217, o317, o417, o517, o617⟩, E_17, ⟨Fl_17, Ff_17, Fs_17, Fe_17, Ft_17, Fb_17⟩, ⟨Fr_17, Fc_17⟩, ⟨Al_17, Af_17, As_17, Ae_17, At_17, Ab_17⟩⟩ := id B17
  have N17 := Fr.app N10 N17q
  obtain ⟨T18, X18, e18, st18⟩ := getF X17 hx hZ hown (host := "") (Or.inl (hw _ (List.mem_of_getElem? (i := 49) rfl))) Via.refl rfl Fr_17 (g := (mkF m 131 #[.val (.int p1), .val (.int p2), .val (.int p3), .val (.int p4), .val (.int p5), .val (.int p6), .val (.int (p1 &&& (255 : Int32))), .val (.ref b7), .val (.ref bb), .val (.ref ll), .val (.ref ff), .val (.ref ss), .val (.ref le), .val (.ref tt), .val (.ref b7)] [(.ref b7)])) rfl rfl (hb hby at_131)
  obtain ⟨T19, X19, e19, st19⟩ := getF X18 hx hZ hown (host := "") (Or.inl (hw _ (List.mem_of_getElem? (i := 61) rfl))) Via.refl e18 Fc_17 (g := (mkF m 139 #[.val (.int p1), .val (.int p2), .val (.int p3), .val (.int p4), .val (.int p5), .val (.int p6), .val (.int (p1 &&& (255 : Int32))), .val (.ref b7), .val (.ref bb), .val (.ref ll), .val (.ref ff), .val (.ref ss), .val (.ref le), .val (.ref tt), .val (.ref b7)] [(.ref b7)])) rfl rfl (hb hby at_139)
  obtain ⟨T20, X20, e20, st20⟩ := getF X19 hx hZ hown (host := "") (Or.inl (hw _ (List.mem_of_getElem? (i := 50) rfl))) Via.refl e19 Fb_17 (g := (mkF m 149 #[.val (.int p1), .val (.int p2), .val (.int p3), .val (.int p4), .val (.int p5), .val (.int p6), .val (.int (p1 &&& (255 : Int32))), .val (.ref b7), .val (.ref bb), .val (.ref ll), .val (.ref ff), .val (.ref ss), .val (.ref le), .val (.ref tt), .val (.ref b7)] [(.ref b7)])) rfl rfl (hb hby at_149)
  obtain ⟨T21, X21, e21, st21⟩ := getF X20 hx hZ hown (host := "") (Or.inl (hw _ (List.mem_of_getElem? (i := 50) rfl))) Via.refl e20 Fb_17 (g := (mkF m 159 #[.val (.int p1), .val (.int p2), .val (.int p3), .val (.int p4), .val (.int p5), .val (.int p6), .val (.int (p1 &&& (255 : Int32))), .val (.ref b7), .val (.ref bb), .val (.ref ll), .val (.ref ff), .val (.ref ss), .val (.ref le), .val (.ref tt), .val (.ref b7)] [(.ref b7)])) rfl rfl (hb hby at_159)
  obtain ⟨T22, X22, e22, st22⟩ := getF X21 hx hZ hown (host := "") (Or.inl (hw _ (List.mem_of_getElem? (i := 51) rfl))) Via.refl e21 Fl_17 (g := (mkF m 170 #[.val (.int p1), .val (.int p2), .val (.int p3), .val (.int p4), .val (.int p5), .val (.int p6), .val (.int (p1 &&& (255 : Int32))), .val (.ref b7), .val (.ref bb), .val (.ref ll), .val (.ref ff), .val (.ref ss), .val (.ref le), .val (.ref tt), .val (.ref b7)] [(.ref b7)])) rfl rfl (hb hby at_170)
  obtain ⟨T23, X23, e23, st23⟩ := getF X22 hx hZ hown (host := "") (Or.inl (hw _ (List.mem_of_getElem? (i := 52) rfl))) Via.refl e22 Ff_17 (g := (mkF m 180 #[.val (.int p1), .val (.int p2), .val (.int p3), .val (.int p4), .val (.int p5), .val (.int p6), .val (.int (p1 &&& (255 : Int32))), .val (.ref b7), .val (.ref bb), .val (.ref ll), .val (.ref ff), .val (.ref ss), .val (.ref le), .val (.ref tt), .val (.ref b7)] [(.ref b7)])) rfl rfl (hb hby at_180)
  obtain ⟨T24, X24, e24, st24⟩ := getF X23 hx hZ hown (host := "") (Or.inl (hw _ (List.mem_of_getElem? (i := 53) rfl))) Via.refl e23 Fs_17 (g := (mkF m 190 #[.val (.int p1), .val (.int p2), .val (.int p3), .val (.int p4), .val (.int p5), .val (.int p6), .val (.int (p1 &&& (255 : Int32))), .val (.ref b7), .val (.ref bb), .val (.ref ll), .val (.ref ff), .val (.ref ss), .val (.ref le), .val (.ref tt), .val (.ref b7)] [(.ref b7)])) rfl rfl (hb hby at_190)
  obtain ⟨T25, X25, e25, st25⟩ := getF X24 hx hZ hown (host := "") (Or.inl (hw _ (List.mem_of_getElem? (i := 54) rfl))) Via.refl e24 Fe_17 (g := (mkF m 200 #[.val (.int p1), .val (.int p2), .val (.int p3), .val (.int p4), .val (.int p5), .val (.int p6), .val (.int (p1 &&& (255 : Int32))), .val (.ref b7), .val (.ref bb), .val (.ref ll), .val (.ref ff), .val (.ref ss), .val (.ref le), .val (.ref tt), .val (.ref b7)] [(.ref b7)])) rfl rfl (hb hby at_200)
  obtain ⟨T26, X26, e26, st26⟩ := getF X25 hx hZ hown (host := "") (Or.inl (hw _ (List.mem_of_getElem? (i := 55) rfl))) Via.refl e25 Ft_17 (g := (mkF m 210 #[.val (.int p1), .val (.int p2), .val (.int p3), .val (.int p4), .val (.int p5), .val (.int p6), .val (.int (p1 &&& (255 : Int32))), .val (.ref b7), .val (.ref bb), .val (.ref ll), .val (.ref ff), .val (.ref ss), .val (.ref le), .val (.ref tt), .val (.ref b7)] [(.ref b7)])) rfl rfl (hb hby at_210)
  obtain ⟨cq27, kq27, q27a, q27b, q27c⟩ := isOf hZ e26 E_17
  obtain ⟨_, _, ⟨T27, L27, k27, n27⟩, -, X27, ⟨Lc27, hQ27, l27, y27, z27⟩, st27⟩ := X26.virtualBack hx (y := (⟨"com/example/interstice/interstice/CsvScanner$Batch", "startRecord", "(I)V"⟩ : MethodName)) (z := (⟨"com/example/interstice/interstice/CsvScanner$Batch", "startRecord", "(I)V"⟩ : MethodName)) hown (mvT hZ (hw _ (List.mem_of_getElem? (i := 35) rfl))) (mvT hZ (hw _ (List.mem_of_getElem? (i := 36) rfl))) (notFace_of_selects (args := #[]) (mvT hZ (hw _ (List.mem_of_getElem? (i := 38) rfl)))) (mvT hZ (hw _ (List.mem_of_getElem? (i := 38) rfl))) (mvT hZ (hw _ (List.mem_of_getElem? (i := 37) rfl))) (by decide) (backOf (W := 0) (rm3 l Z a0 hw [] b7 p4 ll ff ss le tt bb kl kf ks ke kt kb (p1 &&& (255 : Int32)) (0 : Int32) (0 : Int32) (0 : Int32) (0 : Int32) (0 : Int32) T17.heap n0 (Bat.size B17) B17) hZ (hw _ (List.mem_of_getElem? (i := 39) rfl)) (hw _ (List.mem_of_getElem? (i := 2) rfl)) (by decide) (by decide)) q27a q27c (g := (mkF m 223 #[.val (.int p1), .val (.int p2), .val (.int p3), .val (.int p4), .val (.int p5), .val (.int p6), .val (.int (p1 &&& (255 : Int32))), .val (.ref b7), .val (.ref bb), .val (.ref ll), .val (.ref ff), .val (.ref ss), .val (.ref le), .val (.ref tt), .val (.ref b7)] [(.int p4), (.ref b7)])) rfl (by rw [hml]; rfl) (Steps.refl _) (argsL := [(.int p4)]) (rest := []) (lenOf pd_0_0 rfl) rfl (by show 2 * 0 + _ ≤ _; exact Nat.le_of_eq rfl) (hb hby at_223) (fun _ _ => ⟨rfl, e26, (by decide : 10 + 0 ≤ _), (by decide : 14607 + 0 ≤ _)⟩)
  dsimp only [Pt.U, Pt.locs, Pt.cells, Pt.slots] at X27 l27 y27 z27 st27 hQ27
  subst l27 y27 z27
  obtain ⟨rfl, N27q, B27⟩ := hQ27
  obtain ⟨⟨o027, o127, o227, o327, o427, o527, o627⟩, E_27, ⟨Fl_27, Ff_27, Fs_27, Fe_27, Ft_27, Fb_27⟩, ⟨Fr_27, Fc_27⟩, ⟨Al_27, Af_27, As_27, Ae_27, At_27, Ab_27⟩⟩ := id B27
  have N27 := Fr.app N17 N27q
  obtain ⟨cq28, kq28, q28a, q28b, q28c⟩ := isOf hZ rfl E_27
  obtain ⟨_, _, ⟨T28, L28, k28, n28⟩, -, X28, ⟨Lc28, hQ28, l28, y28, z28⟩, st28⟩ := X27.virtualBack hx (y := (⟨"com/example/interstice/interstice/CsvScanner$Batch", "addField", "(IILjava/lang/String;)V"⟩ : MethodName)) (z := (⟨"com/example/interstice/interstice/CsvScanner$Batch", "addField", "(IILjava/lang/String;)V"⟩ : MethodName)) hown (mvT hZ (hw _ (List.mem_of_getElem? (i := 44) rfl))) (mvT hZ (hw _ (List.mem_of_getElem? (i := 45) rfl))) (notFace_of_selects (args := #[]) (mvT hZ (hw _ (List.mem_of_getElem? (i := 47) rfl)))) (mvT hZ (hw _ (List.mem_of_getElem? (i := 47) rfl))) (mvT hZ (hw _ (List.mem_of_getElem? (i := 46) rfl))) (by decide) (backOf (W := 0) (rm4 l Z a0 hw [] b7 p5 (3 : Int32) ll ff ss le tt bb kl kf ks ke kt kb (p1 &&& (255 : Int32)) p4 (0 : Int32) (0 : Int32) (0 : Int32) (0 : Int32) T27.heap n0 (Bat.size B27) B27) hZ (hw _ (List.mem_of_getElem? (i := 48) rfl)) (hw _ (List.mem_of_getElem? (i := 2) rfl)) (by decide) (by decide)) q28a q28c (g := (mkF m 232 #[.val (.int p1), .val (.int p2), .val (.int p3), .val (.int p4), .val (.int p5), .val (.int p6), .val (.int (p1 &&& (255 : Int32))), .val (.ref b7), .val (.ref bb), .val (.ref ll), .val (.ref ff), .val (.ref ss), .val (.ref le), .val (.ref tt), .val (.ref b7)] [.null, (.int (3 : Int32)), (.int p5), (.ref b7)])) rfl (by rw [hml]; rfl) (Steps.refl _) (argsL := [(.int p5), (.int (3 : Int32)), .null]) (rest := []) (lenOf pd_0_2 rfl) rfl (by show 2 * 0 + _ ≤ _; exact Nat.le_of_eq rfl) (hb hby at_232) (fun _ _ => ⟨rfl, rfl, (by decide : 10 + 0 ≤ _), (by decide : 14607 + 0 ≤ _)⟩)
  dsimp only [Pt.U, Pt.locs, Pt.cells, Pt.slots] at X28 l28 y28 z28 st28 hQ28
  subst l28 y28 z28
  obtain ⟨rfl, N28q, B28⟩ := hQ28
  obtain ⟨⟨o028, o128, o228, o328, o428, o528, o628⟩, E_28, ⟨Fl_28, Ff_28, Fs_28, Fe_28, Ft_28, Fb_28⟩, ⟨Fr_28, Fc_28⟩, ⟨Al_28, Af_28, As_28, Ae_28, At_28, Ab_28⟩⟩ := id B28
  have N28 := Fr.app N27 N28q
  obtain ⟨T29, X29, e29, st29⟩ := getF X28 hx hZ hown (host := "") (Or.inl (hw _ (List.mem_of_getElem? (i := 49) rfl))) Via.refl rfl Fr_28 (g := (mkF m 237 #[.val (.int p1), .val (.int p2), .val (.int p3), .val (.int p4), .val (.int p5), .val (.int p6), .val (.int (p1 &&& (255 : Int32))), .val (.ref b7), .val (.ref bb), .val (.ref ll), .val (.ref ff), .val (.ref ss), .val (.ref le), .val (.ref tt), .val (.ref b7)] [(.ref b7)])) rfl rfl (hb hby at_237)
  obtain ⟨T30, X30, e30, st30⟩ := getF X29 hx hZ hown (host := "") (Or.inl (hw _ (List.mem_of_getElem? (i := 61) rfl))) Via.refl e29 Fc_28 (g := (mkF m 245 #[.val (.int p1), .val (.int p2), .val (.int p3), .val (.int p4), .val (.int p5), .val (.int p6), .val (.int (p1 &&& (255 : Int32))), .val (.ref b7), .val (.ref bb), .val (.ref ll), .val (.ref ff), .val (.ref ss), .val (.ref le), .val (.ref tt), .val (.ref b7)] [(.ref b7)])) rfl rfl (hb hby at_245)
  obtain ⟨T31, X31, e31, st31⟩ := getF X30 hx hZ hown (host := "") (Or.inl (hw _ (List.mem_of_getElem? (i := 51) rfl))) Via.refl e30 Fl_28 (g := (mkF m 254 #[.val (.int p1), .val (.int p2), .val (.int p3), .val (.int p4), .val (.int p5), .val (.int p6), .val (.int (p1 &&& (255 : Int32))), .val (.ref b7), .val (.ref bb), .val (.ref ll), .val (.ref ff), .val (.ref ss), .val (.ref le), .val (.ref tt), .val (.ref b7)] [(.ref b7)])) rfl rfl (hb hby at_254)
  obtain ⟨T33, X33, e33, st33⟩ := getF X31 hx hZ hown (host := "") (Or.inl (hw _ (List.mem_of_getElem? (i := 52) rfl))) Via.refl e31 Ff_28 (g := (mkF m 265 #[.val (.int p1), .val (.int p2), .val (.int p3), .val (.int p4), .val (.int p5), .val (.int p6), .val (.int (p1 &&& (255 : Int32))), .val (.ref b7), .val (.ref bb), .val (.ref ll), .val (.ref ff), .val (.ref ss), .val (.ref le), .val (.ref tt), .val (.ref b7)] [(.ref b7)])) rfl rfl (hb hby at_265)
  obtain ⟨T35, X35, e35, st35⟩ := getF X33 hx hZ hown (host := "") (Or.inl (hw _ (List.mem_of_getElem? (i := 52) rfl))) Via.refl e33 Ff_28 (g := (mkF m 275 #[.val (.int p1), .val (.int p2), .val (.int p3), .val (.int p4), .val (.int p5), .val (.int p6), .val (.int (p1 &&& (255 : Int32))), .val (.ref b7), .val (.ref bb), .val (.ref ll), .val (.ref ff), .val (.ref ss), .val (.ref le), .val (.ref tt), .val (.ref b7)] [(.ref b7)])) rfl rfl (hb hby at_275)
  obtain ⟨T37, X37, e37, st37⟩ := getF X35 hx hZ hown (host := "") (Or.inl (hw _ (List.mem_of_getElem? (i := 53) rfl))) Via.refl e35 Fs_28 (g := (mkF m 286 #[.val (.int p1), .val (.int p2), .val (.int p3), .val (.int p4), .val (.int p5), .val (.int p6), .val (.int (p1 &&& (255 : Int32))), .val (.ref b7), .val (.ref bb), .val (.ref ll), .val (.ref ff), .val (.ref ss), .val (.ref le), .val (.ref tt), .val (.ref b7)] [(.ref b7)])) rfl rfl (hb hby at_286)
  obtain ⟨T39, X39, e39, st39⟩ := getF X37 hx hZ hown (host := "") (Or.inl (hw _ (List.mem_of_getElem? (i := 54) rfl))) Via.refl e37 Fe_28 (g := (mkF m 298 #[.val (.int p1), .val (.int p2), .val (.int p3), .val (.int p4), .val (.int p5), .val (.int p6), .val (.int (p1 &&& (255 : Int32))), .val (.ref b7), .val (.ref bb), .val (.ref ll), .val (.ref ff), .val (.ref ss), .val (.ref le), .val (.ref tt), .val (.ref b7)] [(.ref b7)])) rfl rfl (hb hby at_298)
  obtain ⟨T41, X41, e41, st41⟩ := getF X39 hx hZ hown (host := "") (Or.inl (hw _ (List.mem_of_getElem? (i := 55) rfl))) Via.refl e39 Ft_28 (g := (mkF m 309 #[.val (.int p1), .val (.int p2), .val (.int p3), .val (.int p4), .val (.int p5), .val (.int p6), .val (.int (p1 &&& (255 : Int32))), .val (.ref b7), .val (.ref bb), .val (.ref ll), .val (.ref ff), .val (.ref ss), .val (.ref le), .val (.ref tt), .val (.ref b7)] [(.ref b7)])) rfl rfl (hb hby at_309)
  obtain ⟨c_xl, Ar_xl, q_xl, S_xl, N_xl, H_xl, G_xl⟩ := id Al_28
  obtain ⟨c_xf, Ar_xf, q_xf, S_xf, N_xf, H_xf, G_xf⟩ := id Af_28
  obtain ⟨c_xs, Ar_xs, q_xs, S_xs, N_xs, H_xs, G_xs⟩ := id As_28
  obtain ⟨c_xe, Ar_xe, q_xe, S_xe, N_xe, H_xe, G_xe⟩ := id Ae_28
  obtain ⟨c_xt, Ar_xt, q_xt, S_xt, N_xt, H_xt, G_xt⟩ := id At_28
  have hin258 := inb_of (j := (0 : Int32)) S_xl ⟨by decide, by decide⟩
  have hat258 : c_xl.slots[(0 : Int32).toNatClampNeg]? = some (.int p4) := H_xl 0 (by rw [S_xl]; decide)
  have hin269 := inb_of (j := (0 : Int32)) S_xf ⟨by decide, by decide⟩
  have hat269 : c_xf.slots[(0 : Int32).toNatClampNeg]? = some (.int (0 : Int32)) := H_xf 0 (by rw [S_xf]; decide)
  have hin279 := inb_of (j := (1 : Int32)) S_xf ⟨by decide, by decide⟩
  have hat279 : c_xf.slots[(1 : Int32).toNatClampNeg]? = some (.int (1 : Int32)) := H_xf 1 (by rw [S_xf]; decide)
  have hin290 := inb_of (j := (0 : Int32)) S_xs ⟨by decide, by decide⟩
  have hat290 : c_xs.slots[(0 : Int32).toNatClampNeg]? = some (.int p5) := H_xs 0 (by rw [S_xs]; decide)
  have hin302 := inb_of (j := (0 : Int32)) S_xe ⟨by decide, by decide⟩
  have hat302 : c_xe.slots[(0 : Int32).toNatClampNeg]? = some (.int (3 : Int32)) := H_xe 0 (by rw [S_xe]; decide)
  have hin313 := inb_of (j := (0 : Int32)) S_xt ⟨by decide, by decide⟩
  have hat313 : c_xt.slots[(0 : Int32).toNatClampNeg]? = some .null := H_xt 0 (by rw [S_xt]; decide)
  obtain ⟨c_xb, Ar_xb, q_xb, S_xb, N_xb, H_xb, G_xb⟩ := id Ab_17
  obtain ⟨fs, hr, hrun, hended, hW, hsame⟩ := X41.leave (v := some (.int (1 : Int32))) (fun h => by rw [Bd.returns] at h; cases h)
  refine ⟨_, _, pre0 _ ?_, hrun, hended, _, _, rfl, ?_, ⟨_, rfl⟩, hW, hsame.mono (by decide) (by decide)⟩
  -- 4. STEPS
  · show Steps p.tables e below (s₁.setTop (mkF m 0 #[.val (.int p1), .val (.int p2), .val (.int p3), .val (.int p4), .val (.int p5), .val (.int p6), .unset, .unset, .unset, .unset, .unset, .unset, .unset, .unset, .unset] [])) _
    refine XS.iloadN X0.here hx rfl (hb hby at_0) rfl ?_
    show Steps p.tables e below (s₁.setTop (mkF m 1 #[.val (.int p1), .val (.int p2), .val (.int p3), .val (.int p4), .val (.int p5), .val (.int p6), .unset, .unset, .unset, .unset, .unset, .unset, .unset, .unset, .unset] [(.int p1)])) _
    refine XS.sipush X0.here hx rfl (hb hby at_1) ?_
    show Steps p.tables e below (s₁.setTop (mkF m 4 #[.val (.int p1), .val (.int p2), .val (.int p3), .val (.int p4), .val (.int p5), .val (.int p6), .unset, .unset, .unset, .unset, .unset, .unset, .unset, .unset, .unset] [(.int (255 : Int32)), (.int p1)])) _
    refine XS.iand X0.here hx rfl (hb hby at_4) rfl ?_
    show Steps p.tables e below (s₁.setTop (mkF m 5 #[.val (.int p1), .val (.int p2), .val (.int p3), .val (.int p4), .val (.int p5), .val (.int p6), .unset, .unset, .unset, .unset, .unset, .unset, .unset, .unset, .unset] [(.int (p1 &&& (255 : Int32)))])) _
    refine XS.istore X0.here hx rfl (hb hby at_5) rfl (l' := #[.val (.int p1), .val (.int p2), .val (.int p3), .val (.int p4), .val (.int p5), .val (.int p6), .val (.int (p1 &&& (255 : Int32))), .unset, .unset, .unset, .unset, .unset, .unset, .unset, .unset]) rfl ?_
    show Steps p.tables e below (s₁.setTop (mkF m 7 #[.val (.int p1), .val (.int p2), .val (.int p3), .val (.int p4), .val (.int p5), .val (.int p6), .val (.int (p1 &&& (255 : Int32))), .unset, .unset, .unset, .unset, .unset, .unset, .unset, .unset] [])) _
    refine st7 _ ?_
    show Steps p.tables e below (T7.setTop (mkF m 10 #[.val (.int p1), .val (.int p2), .val (.int p3), .val (.int p4), .val (.int p5), .val (.int p6), .val (.int (p1 &&& (255 : Int32))), .unset, .unset, .unset, .unset, .unset, .unset, .unset, .unset] [(.ref b7)])) _
    refine XS.dup X7.here hx rfl (hb hby at_10) rfl rfl ?_
    show Steps p.tables e below (T7.setTop (mkF m 11 #[.val (.int p1), .val (.int p2), .val (.int p3), .val (.int p4), .val (.int p5), .val (.int p6), .val (.int (p1 &&& (255 : Int32))), .unset, .unset, .unset, .unset, .unset, .unset, .unset, .unset] [(.ref b7), (.ref b7)])) _
    refine XS.iload X7.here hx rfl (hb hby at_11) rfl ?_
    show Steps p.tables e below (T7.setTop (mkF m 13 #[.val (.int p1), .val (.int p2), .val (.int p3), .val (.int p4), .val (.int p5), .val (.int p6), .val (.int (p1 &&& (255 : Int32))), .unset, .unset, .unset, .unset, .unset, .unset, .unset, .unset] [(.int (p1 &&& (255 : Int32))), (.ref b7), (.ref b7)])) _
    refine st8.trans ?_
    show Steps p.tables e below (T8.setTop (mkF m 16 #[.val (.int p1), .val (.int p2), .val (.int p3), .val (.int p4), .val (.int p5), .val (.int p6), .val (.int (p1 &&& (255 : Int32))), .unset, .unset, .unset, .unset, .unset, .unset, .unset, .unset] [(.ref b7)])) _
    refine XS.astore X8.here hx rfl (hb hby at_16) rfl rfl (l' := #[.val (.int p1), .val (.int p2), .val (.int p3), .val (.int p4), .val (.int p5), .val (.int p6), .val (.int (p1 &&& (255 : Int32))), .val (.ref b7), .unset, .unset, .unset, .unset, .unset, .unset, .unset]) rfl ?_
    show Steps p.tables e below (T8.setTop (mkF m 18 #[.val (.int p1), .val (.int p2), .val (.int p3), .val (.int p4), .val (.int p5), .val (.int p6), .val (.int (p1 &&& (255 : Int32))), .val (.ref b7), .unset, .unset, .unset, .unset, .unset, .unset, .unset] [])) _
    refine XS.iload X8.here hx rfl (hb hby at_18) rfl ?_
    show Steps p.tables e below (T8.setTop (mkF m 20 #[.val (.int p1), .val (.int p2), .val (.int p3), .val (.int p4), .val (.int p5), .val (.int p6), .val (.int (p1 &&& (255 : Int32))), .val (.ref b7), .unset, .unset, .unset, .unset, .unset, .unset, .unset] [(.int p6)])) _
    refine XS.iconst X8.here hx rfl (hb hby at_20) ?_
    show Steps p.tables e below (T8.setTop (mkF m 21 #[.val (.int p1), .val (.int p2), .val (.int p3), .val (.int p4), .val (.int p5), .val (.int p6), .val (.int (p1 &&& (255 : Int32))), .val (.ref b7), .unset, .unset, .unset, .unset, .unset, .unset, .unset] [(.int (1 : Int32)), (.int p6)])) _
    refine XS.iand X8.here hx rfl (hb hby at_21) rfl ?_
    show Steps p.tables e below (T8.setTop (mkF m 22 #[.val (.int p1), .val (.int p2), .val (.int p3), .val (.int p4), .val (.int p5), .val (.int p6), .val (.int (p1 &&& (255 : Int32))), .val (.ref b7), .unset, .unset, .unset, .unset, .unset, .unset, .unset] [(.int (p6 &&& (1 : Int32)))])) _
    refine XS.ifYes X8.here hx rfl (pc0 := 22) (pc' := 61) rfl (hb hby at_22) rfl ((if0 _ _).trans (teq hc22).1) (by decide) (by decide) ?_
    show Steps p.tables e below (T8.setTop (mkF m 61 #[.val (.int p1), .val (.int p2), .val (.int p3), .val (.int p4), .val (.int p5), .val (.int p6), .val (.int (p1 &&& (255 : Int32))), .val (.ref b7), .unset, .unset, .unset, .unset, .unset, .unset, .unset] [])) _
    refine XS.aload X8.here hx rfl (hb hby at_61) rfl rfl ?_
    show Steps p.tables e below (T8.setTop (mkF m 63 #[.val (.int p1), .val (.int p2), .val (.int p3), .val (.int p4), .val (.int p5), .val (.int p6), .val (.int (p1 &&& (255 : Int32))), .val (.ref b7), .unset, .unset, .unset, .unset, .unset, .unset, .unset] [(.ref b7)])) _
    refine XS.iloadN X8.here hx rfl (hb hby at_63) rfl ?_
    show Steps p.tables e below (T8.setTop (mkF m 64 #[.val (.int p1), .val (.int p2), .val (.int p3), .val (.int p4), .val (.int p5), .val (.int p6), .val (.int (p1 &&& (255 : Int32))), .val (.ref b7), .unset, .unset, .unset, .unset, .unset, .unset, .unset] [(.int p2), (.ref b7)])) _
    refine st9 _ ?_
    show Steps p.tables e below (T9.setTop (mkF m 67 #[.val (.int p1), .val (.int p2), .val (.int p3), .val (.int p4), .val (.int p5), .val (.int p6), .val (.int (p1 &&& (255 : Int32))), .val (.ref b7), .unset, .unset, .unset, .unset, .unset, .unset, .unset] [])) _
    refine XS.aload X9.here hx rfl (hb hby at_67) rfl rfl ?_
    show Steps p.tables e below (T9.setTop (mkF m 69 #[.val (.int p1), .val (.int p2), .val (.int p3), .val (.int p4), .val (.int p5), .val (.int p6), .val (.int (p1 &&& (255 : Int32))), .val (.ref b7), .unset, .unset, .unset, .unset, .unset, .unset, .unset] [(.ref b7)])) _
    refine XS.iloadN X9.here hx rfl (hb hby at_69) rfl ?_
    show Steps p.tables e below (T9.setTop (mkF m 70 #[.val (.int p1), .val (.int p2), .val (.int p3), .val (.int p4), .val (.int p5), .val (.int p6), .val (.int (p1 &&& (255 : Int32))), .val (.ref b7), .unset, .unset, .unset, .unset, .unset, .unset, .unset] [(.int p3), (.ref b7)])) _
    refine st10 _ ?_
    show Steps p.tables e below (T10.setTop (mkF m 73 #[.val (.int p1), .val (.int p2), .val (.int p3), .val (.int p4), .val (.int p5), .val (.int p6), .val (.int (p1 &&& (255 : Int32))), .val (.ref b7), .unset, .unset, .unset, .unset, .unset, .unset, .unset] [])) _
    refine XS.aload X10.here hx rfl (hb hby at_73) rfl rfl ?_
    show Steps p.tables e below (T10.setTop (mkF m 75 #[.val (.int p1), .val (.int p2), .val (.int p3), .val (.int p4), .val (.int p5), .val (.int p6), .val (.int (p1 &&& (255 : Int32))), .val (.ref b7), .unset, .unset, .unset, .unset, .unset, .unset, .unset] [(.ref b7)])) _
    refine st11 _ ?_
    show Steps p.tables e below (T11.setTop (mkF m 78 #[.val (.int p1), .val (.int p2), .val (.int p3), .val (.int p4), .val (.int p5), .val (.int p6), .val (.int (p1 &&& (255 : Int32))), .val (.ref b7), .unset, .unset, .unset, .unset, .unset, .unset, .unset] [(.ref bb)])) _
    refine XS.astore X11.here hx rfl (hb hby at_78) rfl rfl (l' := #[.val (.int p1), .val (.int p2), .val (.int p3), .val (.int p4), .val (.int p5), .val (.int p6), .val (.int (p1 &&& (255 : Int32))), .val (.ref b7), .val (.ref bb), .unset, .unset, .unset, .unset, .unset, .unset]) rfl ?_
    show Steps p.tables e below (T11.setTop (mkF m 80 #[.val (.int p1), .val (.int p2), .val (.int p3), .val (.int p4), .val (.int p5), .val (.int p6), .val (.int (p1 &&& (255 : Int32))), .val (.ref b7), .val (.ref bb), .unset, .unset, .unset, .unset, .unset, .unset] [])) _
    refine XS.aload X11.here hx rfl (hb hby at_80) rfl rfl ?_
    show Steps p.tables e below (T11.setTop (mkF m 82 #[.val (.int p1), .val (.int p2), .val (.int p3), .val (.int p4), .val (.int p5), .val (.int p6), .val (.int (p1 &&& (255 : Int32))), .val (.ref b7), .val (.ref bb), .unset, .unset, .unset, .unset, .unset, .unset] [(.ref b7)])) _
    refine st12 _ ?_
    show Steps p.tables e below (T12.setTop (mkF m 85 #[.val (.int p1), .val (.int p2), .val (.int p3), .val (.int p4), .val (.int p5), .val (.int p6), .val (.int (p1 &&& (255 : Int32))), .val (.ref b7), .val (.ref bb), .unset, .unset, .unset, .unset, .unset, .unset] [(.ref ll)])) _
    refine XS.astore X12.here hx rfl (hb hby at_85) rfl rfl (l' := #[.val (.int p1), .val (.int p2), .val (.int p3), .val (.int p4), .val (.int p5), .val (.int p6), .val (.int (p1 &&& (255 : Int32))), .val (.ref b7), .val (.ref bb), .val (.ref ll), .unset, .unset, .unset, .unset, .unset]) rfl ?_
    show Steps p.tables e below (T12.setTop (mkF m 87 #[.val (.int p1), .val (.int p2), .val (.int p3), .val (.int p4), .val (.int p5), .val (.int p6), .val (.int (p1 &&& (255 : Int32))), .val (.ref b7), .val (.ref bb), .val (.ref ll), .unset, .unset, .unset, .unset, .unset] [])) _
    refine XS.aload X12.here hx rfl (hb hby at_87) rfl rfl ?_
    show Steps p.tables e below (T12.setTop (mkF m 89 #[.val (.int p1), .val (.int p2), .val (.int p3), .val (.int p4), .val (.int p5), .val (.int p6), .val (.int (p1 &&& (255 : Int32))), .val (.ref b7), .val (.ref bb), .val (.ref ll), .unset, .unset, .unset, .unset, .unset] [(.ref b7)])) _
    refine st13 _ ?_
    show Steps p.tables e below (T13.setTop (mkF m 92 #[.val (.int p1), .val (.int p2), .val (.int p3), .val (.int p4), .val (.int p5), .val (.int p6), .val (.int (p1 &&& (255 : Int32))), .val (.ref b7), .val (.ref bb), .val (.ref ll), .unset, .unset, .unset, .unset, .unset] [(.ref ff)])) _
    refine XS.astore X13.here hx rfl (hb hby at_92) rfl rfl (l' := #[.val (.int p1), .val (.int p2), .val (.int p3), .val (.int p4), .val (.int p5), .val (.int p6), .val (.int (p1 &&& (255 : Int32))), .val (.ref b7), .val (.ref bb), .val (.ref ll), .val (.ref ff), .unset, .unset, .unset, .unset]) rfl ?_
    show Steps p.tables e below (T13.setTop (mkF m 94 #[.val (.int p1), .val (.int p2), .val (.int p3), .val (.int p4), .val (.int p5), .val (.int p6), .val (.int (p1 &&& (255 : Int32))), .val (.ref b7), .val (.ref bb), .val (.ref ll), .val (.ref ff), .unset, .unset, .unset, .unset] [])) _
    refine XS.aload X13.here hx rfl (hb hby at_94) rfl rfl ?_
    show Steps p.tables e below (T13.setTop (mkF m 96 #[.val (.int p1), .val (.int p2), .val (.int p3), .val (.int p4), .val (.int p5), .val (.int p6), .val (.int (p1 &&& (255 : Int32))), .val (.ref b7), .val (.ref bb), .val (.ref ll), .val (.ref ff), .unset, .unset, .unset, .unset] [(.ref b7)])) _
    refine st14 _ ?_
    show Steps p.tables e below (T14.setTop (mkF m 99 #[.val (.int p1), .val (.int p2), .val (.int p3), .val (.int p4), .val (.int p5), .val (.int p6), .val (.int (p1 &&& (255 : Int32))), .val (.ref b7), .val (.ref bb), .val (.ref ll), .val (.ref ff), .unset, .unset, .unset, .unset] [(.ref ss)])) _
    refine XS.astore X14.here hx rfl (hb hby at_99) rfl rfl (l' := #[.val (.int p1), .val (.int p2), .val (.int p3), .val (.int p4), .val (.int p5), .val (.int p6), .val (.int (p1 &&& (255 : Int32))), .val (.ref b7), .val (.ref bb), .val (.ref ll), .val (.ref ff), .val (.ref ss), .unset, .unset, .unset]) rfl ?_
    show Steps p.tables e below (T14.setTop (mkF m 101 #[.val (.int p1), .val (.int p2), .val (.int p3), .val (.int p4), .val (.int p5), .val (.int p6), .val (.int (p1 &&& (255 : Int32))), .val (.ref b7), .val (.ref bb), .val (.ref ll), .val (.ref ff), .val (.ref ss), .unset, .unset, .unset] [])) _
    refine XS.aload X14.here hx rfl (hb hby at_101) rfl rfl ?_
    show Steps p.tables e below (T14.setTop (mkF m 103 #[.val (.int p1), .val (.int p2), .val (.int p3), .val (.int p4), .val (.int p5), .val (.int p6), .val (.int (p1 &&& (255 : Int32))), .val (.ref b7), .val (.ref bb), .val (.ref ll), .val (.ref ff), .val (.ref ss), .unset, .unset, .unset] [(.ref b7)])) _
    refine st15 _ ?_
    show Steps p.tables e below (T15.setTop (mkF m 106 #[.val (.int p1), .val (.int p2), .val (.int p3), .val (.int p4), .val (.int p5), .val (.int p6), .val (.int (p1 &&& (255 : Int32))), .val (.ref b7), .val (.ref bb), .val (.ref ll), .val (.ref ff), .val (.ref ss), .unset, .unset, .unset] [(.ref le)])) _
    refine XS.astore X15.here hx rfl (hb hby at_106) rfl rfl (l' := #[.val (.int p1), .val (.int p2), .val (.int p3), .val (.int p4), .val (.int p5), .val (.int p6), .val (.int (p1 &&& (255 : Int32))), .val (.ref b7), .val (.ref bb), .val (.ref ll), .val (.ref ff), .val (.ref ss), .val (.ref le), .unset, .unset]) rfl ?_
    show Steps p.tables e below (T15.setTop (mkF m 108 #[.val (.int p1), .val (.int p2), .val (.int p3), .val (.int p4), .val (.int p5), .val (.int p6), .val (.int (p1 &&& (255 : Int32))), .val (.ref b7), .val (.ref bb), .val (.ref ll), .val (.ref ff), .val (.ref ss), .val (.ref le), .unset, .unset] [])) _
    refine XS.aload X15.here hx rfl (hb hby at_108) rfl rfl ?_
    show Steps p.tables e below (T15.setTop (mkF m 110 #[.val (.int p1), .val (.int p2), .val (.int p3), .val (.int p4), .val (.int p5), .val (.int p6), .val (.int (p1 &&& (255 : Int32))), .val (.ref b7), .val (.ref bb), .val (.ref ll), .val (.ref ff), .val (.ref ss), .val (.ref le), .unset, .unset] [(.ref b7)])) _
    refine st16 _ ?_
    show Steps p.tables e below (T16.setTop (mkF m 113 #[.val (.int p1), .val (.int p2), .val (.int p3), .val (.int p4), .val (.int p5), .val (.int p6), .val (.int (p1 &&& (255 : Int32))), .val (.ref b7), .val (.ref bb), .val (.ref ll), .val (.ref ff), .val (.ref ss), .val (.ref le), .unset, .unset] [(.ref tt)])) _
    refine XS.astore X16.here hx rfl (hb hby at_113) rfl rfl (l' := #[.val (.int p1), .val (.int p2), .val (.int p3), .val (.int p4), .val (.int p5), .val (.int p6), .val (.int (p1 &&& (255 : Int32))), .val (.ref b7), .val (.ref bb), .val (.ref ll), .val (.ref ff), .val (.ref ss), .val (.ref le), .val (.ref tt), .unset]) rfl ?_
    show Steps p.tables e below (T16.setTop (mkF m 115 #[.val (.int p1), .val (.int p2), .val (.int p3), .val (.int p4), .val (.int p5), .val (.int p6), .val (.int (p1 &&& (255 : Int32))), .val (.ref b7), .val (.ref bb), .val (.ref ll), .val (.ref ff), .val (.ref ss), .val (.ref le), .val (.ref tt), .unset] [])) _
    refine XS.aload X16.here hx rfl (hb hby at_115) rfl rfl ?_
    show Steps p.tables e below (T16.setTop (mkF m 117 #[.val (.int p1), .val (.int p2), .val (.int p3), .val (.int p4), .val (.int p5), .val (.int p6), .val (.int (p1 &&& (255 : Int32))), .val (.ref b7), .val (.ref bb), .val (.ref ll), .val (.ref ff), .val (.ref ss), .val (.ref le), .val (.ref tt), .unset] [(.ref b7)])) _
    refine st17.trans ?_
    show Steps p.tables e below (T17.setTop (mkF m 120 #[.val (.int p1), .val (.int p2), .val (.int p3), .val (.int p4), .val (.int p5), .val (.int p6), .val (.int (p1 &&& (255 : Int32))), .val (.ref b7), .val (.ref bb), .val (.ref ll), .val (.ref ff), .val (.ref ss), .val (.ref le), .val (.ref tt), .unset] [(.ref b7)])) _
    refine XS.astore X17.here hx rfl (hb hby at_120) rfl rfl (l' := #[.val (.int p1), .val (.int p2), .val (.int p3), .val (.int p4), .val (.int p5), .val (.int p6), .val (.int (p1 &&& (255 : Int32))), .val (.ref b7), .val (.ref bb), .val (.ref ll), .val (.ref ff), .val (.ref ss), .val (.ref le), .val (.ref tt), .val (.ref b7)]) rfl ?_
    show Steps p.tables e below (T17.setTop (mkF m 122 #[.val (.int p1), .val (.int p2), .val (.int p3), .val (.int p4), .val (.int p5), .val (.int p6), .val (.int (p1 &&& (255 : Int32))), .val (.ref b7), .val (.ref bb), .val (.ref ll), .val (.ref ff), .val (.ref ss), .val (.ref le), .val (.ref tt), .val (.ref b7)] [])) _
    refine XS.aload X17.here hx rfl (hb hby at_122) rfl rfl ?_
    show Steps p.tables e below (T17.setTop (mkF m 124 #[.val (.int p1), .val (.int p2), .val (.int p3), .val (.int p4), .val (.int p5), .val (.int p6), .val (.int (p1 &&& (255 : Int32))), .val (.ref b7), .val (.ref bb), .val (.ref ll), .val (.ref ff), .val (.ref ss), .val (.ref le), .val (.ref tt), .val (.ref b7)] [(.ref b7)])) _
    refine XS.aload X17.here hx rfl (hb hby at_124) rfl rfl ?_
    show Steps p.tables e below (T17.setTop (mkF m 126 #[.val (.int p1), .val (.int p2), .val (.int p3), .val (.int p4), .val (.int p5), .val (.int p6), .val (.int (p1 &&& (255 : Int32))), .val (.ref b7), .val (.ref bb), .val (.ref ll), .val (.ref ff), .val (.ref ss), .val (.ref le), .val (.ref tt), .val (.ref b7)] [(.ref b7), (.ref b7)])) _
    refine Jvm.RoadKit.acmp (g := (mkF m 126 #[.val (.int p1), .val (.int p2), .val (.int p3), .val (.int p4), .val (.int p5), .val (.int p6), .val (.int (p1 &&& (255 : Int32))), .val (.ref b7), .val (.ref bb), .val (.ref ll), .val (.ref ff), .val (.ref ss), .val (.ref le), .val (.ref tt), .val (.ref b7)] [(.ref b7), (.ref b7)])) X17 hx rfl rfl rfl (pc0 := 126) (pc' := 129) (same := true) rfl (hb hby at_126) rfl (decide_eq_true (congrArg Value.ref rfl)) (by decide) (by decide) ?_
    show Steps p.tables e below (T17.setTop (mkF m 129 #[.val (.int p1), .val (.int p2), .val (.int p3), .val (.int p4), .val (.int p5), .val (.int p6), .val (.int (p1 &&& (255 : Int32))), .val (.ref b7), .val (.ref bb), .val (.ref ll), .val (.ref ff), .val (.ref ss), .val (.ref le), .val (.ref tt), .val (.ref b7)] [])) _
    refine XS.aload X17.here hx rfl (hb hby at_129) rfl rfl ?_
    show Steps p.tables e below (T17.setTop (mkF m 131 #[.val (.int p1), .val (.int p2), .val (.int p3), .val (.int p4), .val (.int p5), .val (.int p6), .val (.int (p1 &&& (255 : Int32))), .val (.ref b7), .val (.ref bb), .val (.ref ll), .val (.ref ff), .val (.ref ss), .val (.ref le), .val (.ref tt), .val (.ref b7)] [(.ref b7)])) _
    refine st18 _ ?_
    show Steps p.tables e below (T18.setTop (mkF m 134 #[.val (.int p1), .val (.int p2), .val (.int p3), .val (.int p4), .val (.int p5), .val (.int p6), .val (.int (p1 &&& (255 : Int32))), .val (.ref b7), .val (.ref bb), .val (.ref ll), .val (.ref ff), .val (.ref ss), .val (.ref le), .val (.ref tt), .val (.ref b7)] [(.int (0 : Int32))])) _
    refine XS.ifNo X18.here hx rfl (hb hby at_134) rfl ((if0 _ _).trans (teq (rfl : (0 : Int32) = (0 : Int32))).2) ?_
    show Steps p.tables e below (T18.setTop (mkF m 137 #[.val (.int p1), .val (.int p2), .val (.int p3), .val (.int p4), .val (.int p5), .val (.int p6), .val (.int (p1 &&& (255 : Int32))), .val (.ref b7), .val (.ref bb), .val (.ref ll), .val (.ref ff), .val (.ref ss), .val (.ref le), .val (.ref tt), .val (.ref b7)] [])) _
    refine XS.aload X18.here hx rfl (hb hby at_137) rfl rfl ?_
    show Steps p.tables e below (T18.setTop (mkF m 139 #[.val (.int p1), .val (.int p2), .val (.int p3), .val (.int p4), .val (.int p5), .val (.int p6), .val (.int (p1 &&& (255 : Int32))), .val (.ref b7), .val (.ref bb), .val (.ref ll), .val (.ref ff), .val (.ref ss), .val (.ref le), .val (.ref tt), .val (.ref b7)] [(.ref b7)])) _
    refine st19 _ ?_
    show Steps p.tables e below (T19.setTop (mkF m 142 #[.val (.int p1), .val (.int p2), .val (.int p3), .val (.int p4), .val (.int p5), .val (.int p6), .val (.int (p1 &&& (255 : Int32))), .val (.ref b7), .val (.ref bb), .val (.ref ll), .val (.ref ff), .val (.ref ss), .val (.ref le), .val (.ref tt), .val (.ref b7)] [(.int (0 : Int32))])) _
    refine XS.ifYes X19.here hx rfl (pc0 := 142) (pc' := 147) rfl (hb hby at_142) rfl ((if0 _ _).trans (teq (rfl : (0 : Int32) = (0 : Int32))).1) (by decide) (by decide) ?_
    show Steps p.tables e below (T19.setTop (mkF m 147 #[.val (.int p1), .val (.int p2), .val (.int p3), .val (.int p4), .val (.int p5), .val (.int p6), .val (.int (p1 &&& (255 : Int32))), .val (.ref b7), .val (.ref bb), .val (.ref ll), .val (.ref ff), .val (.ref ss), .val (.ref le), .val (.ref tt), .val (.ref b7)] [])) _
    refine XS.aload X19.here hx rfl (hb hby at_147) rfl rfl ?_
    show Steps p.tables e below (T19.setTop (mkF m 149 #[.val (.int p1), .val (.int p2), .val (.int p3), .val (.int p4), .val (.int p5), .val (.int p6), .val (.int (p1 &&& (255 : Int32))), .val (.ref b7), .val (.ref bb), .val (.ref ll), .val (.ref ff), .val (.ref ss), .val (.ref le), .val (.ref tt), .val (.ref b7)] [(.ref b7)])) _
    refine st20 _ ?_
    show Steps p.tables e below (T20.setTop (mkF m 152 #[.val (.int p1), .val (.int p2), .val (.int p3), .val (.int p4), .val (.int p5), .val (.int p6), .val (.int (p1 &&& (255 : Int32))), .val (.ref b7), .val (.ref bb), .val (.ref ll), .val (.ref ff), .val (.ref ss), .val (.ref le), .val (.ref tt), .val (.ref b7)] [(.ref bb)])) _
    refine XS.aload X20.here hx rfl (hb hby at_152) rfl rfl ?_
    show Steps p.tables e below (T20.setTop (mkF m 154 #[.val (.int p1), .val (.int p2), .val (.int p3), .val (.int p4), .val (.int p5), .val (.int p6), .val (.int (p1 &&& (255 : Int32))), .val (.ref b7), .val (.ref bb), .val (.ref ll), .val (.ref ff), .val (.ref ss), .val (.ref le), .val (.ref tt), .val (.ref b7)] [(.ref bb), (.ref bb)])) _
    refine Jvm.RoadKit.acmp (g := (mkF m 154 #[.val (.int p1), .val (.int p2), .val (.int p3), .val (.int p4), .val (.int p5), .val (.int p6), .val (.int (p1 &&& (255 : Int32))), .val (.ref b7), .val (.ref bb), .val (.ref ll), .val (.ref ff), .val (.ref ss), .val (.ref le), .val (.ref tt), .val (.ref b7)] [(.ref bb), (.ref bb)])) X20 hx rfl rfl rfl (pc0 := 154) (pc' := 157) (same := true) rfl (hb hby at_154) rfl (decide_eq_true rfl) (by decide) (by decide) ?_
    show Steps p.tables e below (T20.setTop (mkF m 157 #[.val (.int p1), .val (.int p2), .val (.int p3), .val (.int p4), .val (.int p5), .val (.int p6), .val (.int (p1 &&& (255 : Int32))), .val (.ref b7), .val (.ref bb), .val (.ref ll), .val (.ref ff), .val (.ref ss), .val (.ref le), .val (.ref tt), .val (.ref b7)] [])) _
    refine XS.aload X20.here hx rfl (hb hby at_157) rfl rfl ?_
    show Steps p.tables e below (T20.setTop (mkF m 159 #[.val (.int p1), .val (.int p2), .val (.int p3), .val (.int p4), .val (.int p5), .val (.int p6), .val (.int (p1 &&& (255 : Int32))), .val (.ref b7), .val (.ref bb), .val (.ref ll), .val (.ref ff), .val (.ref ss), .val (.ref le), .val (.ref tt), .val (.ref b7)] [(.ref b7)])) _
    refine st21 _ ?_
    show Steps p.tables e below (T21.setTop (mkF m 162 #[.val (.int p1), .val (.int p2), .val (.int p3), .val (.int p4), .val (.int p5), .val (.int p6), .val (.int (p1 &&& (255 : Int32))), .val (.ref b7), .val (.ref bb), .val (.ref ll), .val (.ref ff), .val (.ref ss), .val (.ref le), .val (.ref tt), .val (.ref b7)] [(.ref bb)])) _
    refine X21.arraylength hx (by rw [e21]; exact Ar_xb.1) (State.isArrayOf_alike hZ.alike Ar_xb.2.1) (g := (mkF m 162 #[.val (.int p1), .val (.int p2), .val (.int p3), .val (.int p4), .val (.int p5), .val (.int p6), .val (.int (p1 &&& (255 : Int32))), .val (.ref b7), .val (.ref bb), .val (.ref ll), .val (.ref ff), .val (.ref ss), .val (.ref le), .val (.ref tt), .val (.ref b7)] [(.ref bb)])) rfl rfl (hb hby at_162) _ ?_
    rw [len_of S_xb N_xb]
    show Steps p.tables e below (T21.setTop (mkF m 163 #[.val (.int p1), .val (.int p2), .val (.int p3), .val (.int p4), .val (.int p5), .val (.int p6), .val (.int (p1 &&& (255 : Int32))), .val (.ref b7), .val (.ref bb), .val (.ref ll), .val (.ref ff), .val (.ref ss), .val (.ref le), .val (.ref tt), .val (.ref b7)] [(.int (p1 &&& (255 : Int32)))])) _
    refine XS.iload X21.here hx rfl (hb hby at_163) rfl ?_
    show Steps p.tables e below (T21.setTop (mkF m 165 #[.val (.int p1), .val (.int p2), .val (.int p3), .val (.int p4), .val (.int p5), .val (.int p6), .val (.int (p1 &&& (255 : Int32))), .val (.ref b7), .val (.ref bb), .val (.ref ll), .val (.ref ff), .val (.ref ss), .val (.ref le), .val (.ref tt), .val (.ref b7)] [(.int (p1 &&& (255 : Int32))), (.int (p1 &&& (255 : Int32)))])) _
    refine XS.icmpNo X21.here hx rfl (hb hby at_165) rfl (teq (rfl : (p1 &&& (255 : Int32)) = (p1 &&& (255 : Int32)))).2 ?_
    show Steps p.tables e below (T21.setTop (mkF m 168 #[.val (.int p1), .val (.int p2), .val (.int p3), .val (.int p4), .val (.int p5), .val (.int p6), .val (.int (p1 &&& (255 : Int32))), .val (.ref b7), .val (.ref bb), .val (.ref ll), .val (.ref ff), .val (.ref ss), .val (.ref le), .val (.ref tt), .val (.ref b7)] [])) _
    refine XS.aload X21.here hx rfl (hb hby at_168) rfl rfl ?_
    show Steps p.tables e below (T21.setTop (mkF m 170 #[.val (.int p1), .val (.int p2), .val (.int p3), .val (.int p4), .val (.int p5), .val (.int p6), .val (.int (p1 &&& (255 : Int32))), .val (.ref b7), .val (.ref bb), .val (.ref ll), .val (.ref ff), .val (.ref ss), .val (.ref le), .val (.ref tt), .val (.ref b7)] [(.ref b7)])) _
    refine st22 _ ?_
    show Steps p.tables e below (T22.setTop (mkF m 173 #[.val (.int p1), .val (.int p2), .val (.int p3), .val (.int p4), .val (.int p5), .val (.int p6), .val (.int (p1 &&& (255 : Int32))), .val (.ref b7), .val (.ref bb), .val (.ref ll), .val (.ref ff), .val (.ref ss), .val (.ref le), .val (.ref tt), .val (.ref b7)] [(.ref ll)])) _
    refine XS.aload X22.here hx rfl (hb hby at_173) rfl rfl ?_
    show Steps p.tables e below (T22.setTop (mkF m 175 #[.val (.int p1), .val (.int p2), .val (.int p3), .val (.int p4), .val (.int p5), .val (.int p6), .val (.int (p1 &&& (255 : Int32))), .val (.ref b7), .val (.ref bb), .val (.ref ll), .val (.ref ff), .val (.ref ss), .val (.ref le), .val (.ref tt), .val (.ref b7)] [(.ref ll), (.ref ll)])) _
    refine Jvm.RoadKit.acmp (g := (mkF m 175 #[.val (.int p1), .val (.int p2), .val (.int p3), .val (.int p4), .val (.int p5), .val (.int p6), .val (.int (p1 &&& (255 : Int32))), .val (.ref b7), .val (.ref bb), .val (.ref ll), .val (.ref ff), .val (.ref ss), .val (.ref le), .val (.ref tt), .val (.ref b7)] [(.ref ll), (.ref ll)])) X22 hx rfl rfl rfl (pc0 := 175) (pc' := 178) (same := true) rfl (hb hby at_175) rfl (decide_eq_true rfl) (by decide) (by decide) ?_
    show Steps p.tables e below (T22.setTop (mkF m 178 #[.val (.int p1), .val (.int p2), .val (.int p3), .val (.int p4), .val (.int p5), .val (.int p6), .val (.int (p1 &&& (255 : Int32))), .val (.ref b7), .val (.ref bb), .val (.ref ll), .val (.ref ff), .val (.ref ss), .val (.ref le), .val (.ref tt), .val (.ref b7)] [])) _
    refine XS.aload X22.here hx rfl (hb hby at_178) rfl rfl ?_
    show Steps p.tables e below (T22.setTop (mkF m 180 #[.val (.int p1), .val (.int p2), .val (.int p3), .val (.int p4), .val (.int p5), .val (.int p6), .val (.int (p1 &&& (255 : Int32))), .val (.ref b7), .val (.ref bb), .val (.ref ll), .val (.ref ff), .val (.ref ss), .val (.ref le), .val (.ref tt), .val (.ref b7)] [(.ref b7)])) _
    refine st23 _ ?_
    show Steps p.tables e below (T23.setTop (mkF m 183 #[.val (.int p1), .val (.int p2), .val (.int p3), .val (.int p4), .val (.int p5), .val (.int p6), .val (.int (p1 &&& (255 : Int32))), .val (.ref b7), .val (.ref bb), .val (.ref ll), .val (.ref ff), .val (.ref ss), .val (.ref le), .val (.ref tt), .val (.ref b7)] [(.ref ff)])) _
    refine XS.aload X23.here hx rfl (hb hby at_183) rfl rfl ?_
    show Steps p.tables e below (T23.setTop (mkF m 185 #[.val (.int p1), .val (.int p2), .val (.int p3), .val (.int p4), .val (.int p5), .val (.int p6), .val (.int (p1 &&& (255 : Int32))), .val (.ref b7), .val (.ref bb), .val (.ref ll), .val (.ref ff), .val (.ref ss), .val (.ref le), .val (.ref tt), .val (.ref b7)] [(.ref ff), (.ref ff)])) _
    refine Jvm.RoadKit.acmp (g := (mkF m 185 #[.val (.int p1), .val (.int p2), .val (.int p3), .val (.int p4), .val (.int p5), .val (.int p6), .val (.int (p1 &&& (255 : Int32))), .val (.ref b7), .val (.ref bb), .val (.ref ll), .val (.ref ff), .val (.ref ss), .val (.ref le), .val (.ref tt), .val (.ref b7)] [(.ref ff), (.ref ff)])) X23 hx rfl rfl rfl (pc0 := 185) (pc' := 188) (same := true) rfl (hb hby at_185) rfl (decide_eq_true rfl) (by decide) (by decide) ?_
    show Steps p.tables e below (T23.setTop (mkF m 188 #[.val (.int p1), .val (.int p2), .val (.int p3), .val (.int p4), .val (.int p5), .val (.int p6), .val (.int (p1 &&& (255 : Int32))), .val (.ref b7), .val (.ref bb), .val (.ref ll), .val (.ref ff), .val (.ref ss), .val (.ref le), .val (.ref tt), .val (.ref b7)] [])) _
    refine XS.aload X23.here hx rfl (hb hby at_188) rfl rfl ?_
    show Steps p.tables e below (T23.setTop (mkF m 190 #[.val (.int p1), .val (.int p2), .val (.int p3), .val (.int p4), .val (.int p5), .val (.int p6), .val (.int (p1 &&& (255 : Int32))), .val (.ref b7), .val (.ref bb), .val (.ref ll), .val (.ref ff), .val (.ref ss), .val (.ref le), .val (.ref tt), .val (.ref b7)] [(.ref b7)])) _
    refine st24 _ ?_
    show Steps p.tables e below (T24.setTop (mkF m 193 #[.val (.int p1), .val (.int p2), .val (.int p3), .val (.int p4), .val (.int p5), .val (.int p6), .val (.int (p1 &&& (255 : Int32))), .val (.ref b7), .val (.ref bb), .val (.ref ll), .val (.ref ff), .val (.ref ss), .val (.ref le), .val (.ref tt), .val (.ref b7)] [(.ref ss)])) _
    refine XS.aload X24.here hx rfl (hb hby at_193) rfl rfl ?_
    show Steps p.tables e below (T24.setTop (mkF m 195 #[.val (.int p1), .val (.int p2), .val (.int p3), .val (.int p4), .val (.int p5), .val (.int p6), .val (.int (p1 &&& (255 : Int32))), .val (.ref b7), .val (.ref bb), .val (.ref ll), .val (.ref ff), .val (.ref ss), .val (.ref le), .val (.ref tt), .val (.ref b7)] [(.ref ss), (.ref ss)])) _
    refine Jvm.RoadKit.acmp (g := (mkF m 195 #[.val (.int p1), .val (.int p2), .val (.int p3), .val (.int p4), .val (.int p5), .val (.int p6), .val (.int (p1 &&& (255 : Int32))), .val (.ref b7), .val (.ref bb), .val (.ref ll), .val (.ref ff), .val (.ref ss), .val (.ref le), .val (.ref tt), .val (.ref b7)] [(.ref ss), (.ref ss)])) X24 hx rfl rfl rfl (pc0 := 195) (pc' := 198) (same := true) rfl (hb hby at_195) rfl (decide_eq_true rfl) (by decide) (by decide) ?_
    show Steps p.tables e below (T24.setTop (mkF m 198 #[.val (.int p1), .val (.int p2), .val (.int p3), .val (.int p4), .val (.int p5), .val (.int p6), .val (.int (p1 &&& (255 : Int32))), .val (.ref b7), .val (.ref bb), .val (.ref ll), .val (.ref ff), .val (.ref ss), .val (.ref le), .val (.ref tt), .val (.ref b7)] [])) _
    refine XS.aload X24.here hx rfl (hb hby at_198) rfl rfl ?_
    show Steps p.tables e below (T24.setTop (mkF m 200 #[.val (.int p1), .val (.int p2), .val (.int p3), .val (.int p4), .val (.int p5), .val (.int p6), .val (.int (p1 &&& (255 : Int32))), .val (.ref b7), .val (.ref bb), .val (.ref ll), .val (.ref ff), .val (.ref ss), .val (.ref le), .val (.ref tt), .val (.ref b7)] [(.ref b7)])) _
    refine st25 _ ?_
    show Steps p.tables e below (T25.setTop (mkF m 203 #[.val (.int p1), .val (.int p2), .val (.int p3), .val (.int p4), .val (.int p5), .val (.int p6), .val (.int (p1 &&& (255 : Int32))), .val (.ref b7), .val (.ref bb), .val (.ref ll), .val (.ref ff), .val (.ref ss), .val (.ref le), .val (.ref tt), .val (.ref b7)] [(.ref le)])) _
    refine XS.aload X25.here hx rfl (hb hby at_203) rfl rfl ?_
    show Steps p.tables e below (T25.setTop (mkF m 205 #[.val (.int p1), .val (.int p2), .val (.int p3), .val (.int p4), .val (.int p5), .val (.int p6), .val (.int (p1 &&& (255 : Int32))), .val (.ref b7), .val (.ref bb), .val (.ref ll), .val (.ref ff), .val (.ref ss), .val (.ref le), .val (.ref tt), .val (.ref b7)] [(.ref le), (.ref le)])) _
    refine Jvm.RoadKit.acmp (g := (mkF m 205 #[.val (.int p1), .val (.int p2), .val (.int p3), .val (.int p4), .val (.int p5), .val (.int p6), .val (.int (p1 &&& (255 : Int32))), .val (.ref b7), .val (.ref bb), .val (.ref ll), .val (.ref ff), .val (.ref ss), .val (.ref le), .val (.ref tt), .val (.ref b7)] [(.ref le), (.ref le)])) X25 hx rfl rfl rfl (pc0 := 205) (pc' := 208) (same := true) rfl (hb hby at_205) rfl (decide_eq_true rfl) (by decide) (by decide) ?_
    show Steps p.tables e below (T25.setTop (mkF m 208 #[.val (.int p1), .val (.int p2), .val (.int p3), .val (.int p4), .val (.int p5), .val (.int p6), .val (.int (p1 &&& (255 : Int32))), .val (.ref b7), .val (.ref bb), .val (.ref ll), .val (.ref ff), .val (.ref ss), .val (.ref le), .val (.ref tt), .val (.ref b7)] [])) _
    refine XS.aload X25.here hx rfl (hb hby at_208) rfl rfl ?_
    show Steps p.tables e below (T25.setTop (mkF m 210 #[.val (.int p1), .val (.int p2), .val (.int p3), .val (.int p4), .val (.int p5), .val (.int p6), .val (.int (p1 &&& (255 : Int32))), .val (.ref b7), .val (.ref bb), .val (.ref ll), .val (.ref ff), .val (.ref ss), .val (.ref le), .val (.ref tt), .val (.ref b7)] [(.ref b7)])) _
    refine st26 _ ?_
    show Steps p.tables e below (T26.setTop (mkF m 213 #[.val (.int p1), .val (.int p2), .val (.int p3), .val (.int p4), .val (.int p5), .val (.int p6), .val (.int (p1 &&& (255 : Int32))), .val (.ref b7), .val (.ref bb), .val (.ref ll), .val (.ref ff), .val (.ref ss), .val (.ref le), .val (.ref tt), .val (.ref b7)] [(.ref tt)])) _
    refine XS.aload X26.here hx rfl (hb hby at_213) rfl rfl ?_
    show Steps p.tables e below (T26.setTop (mkF m 215 #[.val (.int p1), .val (.int p2), .val (.int p3), .val (.int p4), .val (.int p5), .val (.int p6), .val (.int (p1 &&& (255 : Int32))), .val (.ref b7), .val (.ref bb), .val (.ref ll), .val (.ref ff), .val (.ref ss), .val (.ref le), .val (.ref tt), .val (.ref b7)] [(.ref tt), (.ref tt)])) _
    refine Jvm.RoadKit.acmp (g := (mkF m 215 #[.val (.int p1), .val (.int p2), .val (.int p3), .val (.int p4), .val (.int p5), .val (.int p6), .val (.int (p1 &&& (255 : Int32))), .val (.ref b7), .val (.ref bb), .val (.ref ll), .val (.ref ff), .val (.ref ss), .val (.ref le), .val (.ref tt), .val (.ref b7)] [(.ref tt), (.ref tt)])) X26 hx rfl rfl rfl (pc0 := 215) (pc' := 220) (same := true) rfl (hb hby at_215) rfl (decide_eq_true rfl) (by decide) (by decide) ?_
    show Steps p.tables e below (T26.setTop (mkF m 220 #[.val (.int p1), .val (.int p2), .val (.int p3), .val (.int p4), .val (.int p5), .val (.int p6), .val (.int (p1 &&& (255 : Int32))), .val (.ref b7), .val (.ref bb), .val (.ref ll), .val (.ref ff), .val (.ref ss), .val (.ref le), .val (.ref tt), .val (.ref b7)] [])) _
    refine XS.aload X26.here hx rfl (hb hby at_220) rfl rfl ?_
    show Steps p.tables e below (T26.setTop (mkF m 222 #[.val (.int p1), .val (.int p2), .val (.int p3), .val (.int p4), .val (.int p5), .val (.int p6), .val (.int (p1 &&& (255 : Int32))), .val (.ref b7), .val (.ref bb), .val (.ref ll), .val (.ref ff), .val (.ref ss), .val (.ref le), .val (.ref tt), .val (.ref b7)] [(.ref b7)])) _
    refine XS.iloadN X26.here hx rfl (hb hby at_222) rfl ?_
    show Steps p.tables e below (T26.setTop (mkF m 223 #[.val (.int p1), .val (.int p2), .val (.int p3), .val (.int p4), .val (.int p5), .val (.int p6), .val (.int (p1 &&& (255 : Int32))), .val (.ref b7), .val (.ref bb), .val (.ref ll), .val (.ref ff), .val (.ref ss), .val (.ref le), .val (.ref tt), .val (.ref b7)] [(.int p4), (.ref b7)])) _
    refine st27.trans ?_
    show Steps p.tables e below (T27.setTop (mkF m 226 #[.val (.int p1), .val (.int p2), .val (.int p3), .val (.int p4), .val (.int p5), .val (.int p6), .val (.int (p1 &&& (255 : Int32))), .val (.ref b7), .val (.ref bb), .val (.ref ll), .val (.ref ff), .val (.ref ss), .val (.ref le), .val (.ref tt), .val (.ref b7)] [])) _
    refine XS.aload X27.here hx rfl (hb hby at_226) rfl rfl ?_
    show Steps p.tables e below (T27.setTop (mkF m 228 #[.val (.int p1), .val (.int p2), .val (.int p3), .val (.int p4), .val (.int p5), .val (.int p6), .val (.int (p1 &&& (255 : Int32))), .val (.ref b7), .val (.ref bb), .val (.ref ll), .val (.ref ff), .val (.ref ss), .val (.ref le), .val (.ref tt), .val (.ref b7)] [(.ref b7)])) _
    refine XS.iload X27.here hx rfl (hb hby at_228) rfl ?_
    show Steps p.tables e below (T27.setTop (mkF m 230 #[.val (.int p1), .val (.int p2), .val (.int p3), .val (.int p4), .val (.int p5), .val (.int p6), .val (.int (p1 &&& (255 : Int32))), .val (.ref b7), .val (.ref bb), .val (.ref ll), .val (.ref ff), .val (.ref ss), .val (.ref le), .val (.ref tt), .val (.ref b7)] [(.int p5), (.ref b7)])) _
    refine XS.iconst X27.here hx rfl (hb hby at_230) ?_
    show Steps p.tables e below (T27.setTop (mkF m 231 #[.val (.int p1), .val (.int p2), .val (.int p3), .val (.int p4), .val (.int p5), .val (.int p6), .val (.int (p1 &&& (255 : Int32))), .val (.ref b7), .val (.ref bb), .val (.ref ll), .val (.ref ff), .val (.ref ss), .val (.ref le), .val (.ref tt), .val (.ref b7)] [(.int (3 : Int32)), (.int p5), (.ref b7)])) _
    refine XS.aconstNull X27.here hx rfl (hb hby at_231) ?_
    show Steps p.tables e below (T27.setTop (mkF m 232 #[.val (.int p1), .val (.int p2), .val (.int p3), .val (.int p4), .val (.int p5), .val (.int p6), .val (.int (p1 &&& (255 : Int32))), .val (.ref b7), .val (.ref bb), .val (.ref ll), .val (.ref ff), .val (.ref ss), .val (.ref le), .val (.ref tt), .val (.ref b7)] [.null, (.int (3 : Int32)), (.int p5), (.ref b7)])) _
    refine st28.trans ?_
    show Steps p.tables e below (T28.setTop (mkF m 235 #[.val (.int p1), .val (.int p2), .val (.int p3), .val (.int p4), .val (.int p5), .val (.int p6), .val (.int (p1 &&& (255 : Int32))), .val (.ref b7), .val (.ref bb), .val (.ref ll), .val (.ref ff), .val (.ref ss), .val (.ref le), .val (.ref tt), .val (.ref b7)] [])) _
    refine XS.aload X28.here hx rfl (hb hby at_235) rfl rfl ?_
    show Steps p.tables e below (T28.setTop (mkF m 237 #[.val (.int p1), .val (.int p2), .val (.int p3), .val (.int p4), .val (.int p5), .val (.int p6), .val (.int (p1 &&& (255 : Int32))), .val (.ref b7), .val (.ref bb), .val (.ref ll), .val (.ref ff), .val (.ref ss), .val (.ref le), .val (.ref tt), .val (.ref b7)] [(.ref b7)])) _
    refine st29 _ ?_
    show Steps p.tables e below (T29.setTop (mkF m 240 #[.val (.int p1), .val (.int p2), .val (.int p3), .val (.int p4), .val (.int p5), .val (.int p6), .val (.int (p1 &&& (255 : Int32))), .val (.ref b7), .val (.ref bb), .val (.ref ll), .val (.ref ff), .val (.ref ss), .val (.ref le), .val (.ref tt), .val (.ref b7)] [(.int (0 : Int32))])) _
    refine XS.ifNo X29.here hx rfl (hb hby at_240) rfl ((if0 _ _).trans (teq (rfl : (0 : Int32) = (0 : Int32))).2) ?_
    show Steps p.tables e below (T29.setTop (mkF m 243 #[.val (.int p1), .val (.int p2), .val (.int p3), .val (.int p4), .val (.int p5), .val (.int p6), .val (.int (p1 &&& (255 : Int32))), .val (.ref b7), .val (.ref bb), .val (.ref ll), .val (.ref ff), .val (.ref ss), .val (.ref le), .val (.ref tt), .val (.ref b7)] [])) _
    refine XS.aload X29.here hx rfl (hb hby at_243) rfl rfl ?_
    show Steps p.tables e below (T29.setTop (mkF m 245 #[.val (.int p1), .val (.int p2), .val (.int p3), .val (.int p4), .val (.int p5), .val (.int p6), .val (.int (p1 &&& (255 : Int32))), .val (.ref b7), .val (.ref bb), .val (.ref ll), .val (.ref ff), .val (.ref ss), .val (.ref le), .val (.ref tt), .val (.ref b7)] [(.ref b7)])) _
    refine st30 _ ?_
    show Steps p.tables e below (T30.setTop (mkF m 248 #[.val (.int p1), .val (.int p2), .val (.int p3), .val (.int p4), .val (.int p5), .val (.int p6), .val (.int (p1 &&& (255 : Int32))), .val (.ref b7), .val (.ref bb), .val (.ref ll), .val (.ref ff), .val (.ref ss), .val (.ref le), .val (.ref tt), .val (.ref b7)] [(.int (1 : Int32))])) _
    refine XS.iconst X30.here hx rfl (hb hby at_248) ?_
    show Steps p.tables e below (T30.setTop (mkF m 249 #[.val (.int p1), .val (.int p2), .val (.int p3), .val (.int p4), .val (.int p5), .val (.int p6), .val (.int (p1 &&& (255 : Int32))), .val (.ref b7), .val (.ref bb), .val (.ref ll), .val (.ref ff), .val (.ref ss), .val (.ref le), .val (.ref tt), .val (.ref b7)] [(.int (1 : Int32)), (.int (1 : Int32))])) _
    refine XS.icmpNo X30.here hx rfl (hb hby at_249) rfl (teq (rfl : (1 : Int32) = (1 : Int32))).2 ?_
    show Steps p.tables e below (T30.setTop (mkF m 252 #[.val (.int p1), .val (.int p2), .val (.int p3), .val (.int p4), .val (.int p5), .val (.int p6), .val (.int (p1 &&& (255 : Int32))), .val (.ref b7), .val (.ref bb), .val (.ref ll), .val (.ref ff), .val (.ref ss), .val (.ref le), .val (.ref tt), .val (.ref b7)] [])) _
    refine XS.aload X30.here hx rfl (hb hby at_252) rfl rfl ?_
    show Steps p.tables e below (T30.setTop (mkF m 254 #[.val (.int p1), .val (.int p2), .val (.int p3), .val (.int p4), .val (.int p5), .val (.int p6), .val (.int (p1 &&& (255 : Int32))), .val (.ref b7), .val (.ref bb), .val (.ref ll), .val (.ref ff), .val (.ref ss), .val (.ref le), .val (.ref tt), .val (.ref b7)] [(.ref b7)])) _
    refine st31 _ ?_
    show Steps p.tables e below (T31.setTop (mkF m 257 #[.val (.int p1), .val (.int p2), .val (.int p3), .val (.int p4), .val (.int p5), .val (.int p6), .val (.int (p1 &&& (255 : Int32))), .val (.ref b7), .val (.ref bb), .val (.ref ll), .val (.ref ff), .val (.ref ss), .val (.ref le), .val (.ref tt), .val (.ref b7)] [(.ref ll)])) _
    refine XS.iconst X31.here hx rfl (hb hby at_257) ?_
    show Steps p.tables e below (T31.setTop (mkF m 258 #[.val (.int p1), .val (.int p2), .val (.int p3), .val (.int p4), .val (.int p5), .val (.int p6), .val (.int (p1 &&& (255 : Int32))), .val (.ref b7), .val (.ref bb), .val (.ref ll), .val (.ref ff), .val (.ref ss), .val (.ref le), .val (.ref tt), .val (.ref b7)] [(.int (0 : Int32)), (.ref ll)])) _
    refine X31.iaload hx (j := (0 : Int32)) (v := (.int p4)) (by rw [e31]; exact Ar_xl.1) (State.isArrayOf_alike hZ.alike Ar_xl.2.1) Ar_xl.2.2 hin258 hat258 (g := (mkF m 258 #[.val (.int p1), .val (.int p2), .val (.int p3), .val (.int p4), .val (.int p5), .val (.int p6), .val (.int (p1 &&& (255 : Int32))), .val (.ref b7), .val (.ref bb), .val (.ref ll), .val (.ref ff), .val (.ref ss), .val (.ref le), .val (.ref tt), .val (.ref b7)] [(.int (0 : Int32)), (.ref ll)])) rfl rfl (hb hby at_258) _ ?_
    show Steps p.tables e below (T31.setTop (mkF m 259 #[.val (.int p1), .val (.int p2), .val (.int p3), .val (.int p4), .val (.int p5), .val (.int p6), .val (.int (p1 &&& (255 : Int32))), .val (.ref b7), .val (.ref bb), .val (.ref ll), .val (.ref ff), .val (.ref ss), .val (.ref le), .val (.ref tt), .val (.ref b7)] [(.int p4)])) _
    refine XS.iloadN X31.here hx rfl (hb hby at_259) rfl ?_
    show Steps p.tables e below (T31.setTop (mkF m 260 #[.val (.int p1), .val (.int p2), .val (.int p3), .val (.int p4), .val (.int p5), .val (.int p6), .val (.int (p1 &&& (255 : Int32))), .val (.ref b7), .val (.ref bb), .val (.ref ll), .val (.ref ff), .val (.ref ss), .val (.ref le), .val (.ref tt), .val (.ref b7)] [(.int p4), (.int p4)])) _
    refine XS.icmpNo X31.here hx rfl (hb hby at_260) rfl (teq (rfl : p4 = p4)).2 ?_
    show Steps p.tables e below (T31.setTop (mkF m 263 #[.val (.int p1), .val (.int p2), .val (.int p3), .val (.int p4), .val (.int p5), .val (.int p6), .val (.int (p1 &&& (255 : Int32))), .val (.ref b7), .val (.ref bb), .val (.ref ll), .val (.ref ff), .val (.ref ss), .val (.ref le), .val (.ref tt), .val (.ref b7)] [])) _
    refine XS.aload X31.here hx rfl (hb hby at_263) rfl rfl ?_
    show Steps p.tables e below (T31.setTop (mkF m 265 #[.val (.int p1), .val (.int p2), .val (.int p3), .val (.int p4), .val (.int p5), .val (.int p6), .val (.int (p1 &&& (255 : Int32))), .val (.ref b7), .val (.ref bb), .val (.ref ll), .val (.ref ff), .val (.ref ss), .val (.ref le), .val (.ref tt), .val (.ref b7)] [(.ref b7)])) _
    refine st33 _ ?_
    show Steps p.tables e below (T33.setTop (mkF m 268 #[.val (.int p1), .val (.int p2), .val (.int p3), .val (.int p4), .val (.int p5), .val (.int p6), .val (.int (p1 &&& (255 : Int32))), .val (.ref b7), .val (.ref bb), .val (.ref ll), .val (.ref ff), .val (.ref ss), .val (.ref le), .val (.ref tt), .val (.ref b7)] [(.ref ff)])) _
    refine XS.iconst X33.here hx rfl (hb hby at_268) ?_
    show Steps p.tables e below (T33.setTop (mkF m 269 #[.val (.int p1), .val (.int p2), .val (.int p3), .val (.int p4), .val (.int p5), .val (.int p6), .val (.int (p1 &&& (255 : Int32))), .val (.ref b7), .val (.ref bb), .val (.ref ll), .val (.ref ff), .val (.ref ss), .val (.ref le), .val (.ref tt), .val (.ref b7)] [(.int (0 : Int32)), (.ref ff)])) _
    refine X33.iaload hx (j := (0 : Int32)) (v := (.int (0 : Int32))) (by rw [e33]; exact Ar_xf.1) (State.isArrayOf_alike hZ.alike Ar_xf.2.1) Ar_xf.2.2 hin269 hat269 (g := (mkF m 269 #[.val (.int p1), .val (.int p2), .val (.int p3), .val (.int p4), .val (.int p5), .val (.int p6), .val (.int (p1 &&& (255 : Int32))), .val (.ref b7), .val (.ref bb), .val (.ref ll), .val (.ref ff), .val (.ref ss), .val (.ref le), .val (.ref tt), .val (.ref b7)] [(.int (0 : Int32)), (.ref ff)])) rfl rfl (hb hby at_269) _ ?_
    show Steps p.tables e below (T33.setTop (mkF m 270 #[.val (.int p1), .val (.int p2), .val (.int p3), .val (.int p4), .val (.int p5), .val (.int p6), .val (.int (p1 &&& (255 : Int32))), .val (.ref b7), .val (.ref bb), .val (.ref ll), .val (.ref ff), .val (.ref ss), .val (.ref le), .val (.ref tt), .val (.ref b7)] [(.int (0 : Int32))])) _
    refine XS.ifNo X33.here hx rfl (hb hby at_270) rfl ((if0 _ _).trans (teq (rfl : (0 : Int32) = (0 : Int32))).2) ?_
    show Steps p.tables e below (T33.setTop (mkF m 273 #[.val (.int p1), .val (.int p2), .val (.int p3), .val (.int p4), .val (.int p5), .val (.int p6), .val (.int (p1 &&& (255 : Int32))), .val (.ref b7), .val (.ref bb), .val (.ref ll), .val (.ref ff), .val (.ref ss), .val (.ref le), .val (.ref tt), .val (.ref b7)] [])) _
    refine XS.aload X33.here hx rfl (hb hby at_273) rfl rfl ?_
    show Steps p.tables e below (T33.setTop (mkF m 275 #[.val (.int p1), .val (.int p2), .val (.int p3), .val (.int p4), .val (.int p5), .val (.int p6), .val (.int (p1 &&& (255 : Int32))), .val (.ref b7), .val (.ref bb), .val (.ref ll), .val (.ref ff), .val (.ref ss), .val (.ref le), .val (.ref tt), .val (.ref b7)] [(.ref b7)])) _
    refine st35 _ ?_
    show Steps p.tables e below (T35.setTop (mkF m 278 #[.val (.int p1), .val (.int p2), .val (.int p3), .val (.int p4), .val (.int p5), .val (.int p6), .val (.int (p1 &&& (255 : Int32))), .val (.ref b7), .val (.ref bb), .val (.ref ll), .val (.ref ff), .val (.ref ss), .val (.ref le), .val (.ref tt), .val (.ref b7)] [(.ref ff)])) _
    refine XS.iconst X35.here hx rfl (hb hby at_278) ?_
    show Steps p.tables e below (T35.setTop (mkF m 279 #[.val (.int p1), .val (.int p2), .val (.int p3), .val (.int p4), .val (.int p5), .val (.int p6), .val (.int (p1 &&& (255 : Int32))), .val (.ref b7), .val (.ref bb), .val (.ref ll), .val (.ref ff), .val (.ref ss), .val (.ref le), .val (.ref tt), .val (.ref b7)] [(.int (1 : Int32)), (.ref ff)])) _
    refine X35.iaload hx (j := (1 : Int32)) (v := (.int (1 : Int32))) (by rw [e35]; exact Ar_xf.1) (State.isArrayOf_alike hZ.alike Ar_xf.2.1) Ar_xf.2.2 hin279 hat279 (g := (mkF m 279 #[.val (.int p1), .val (.int p2), .val (.int p3), .val (.int p4), .val (.int p5), .val (.int p6), .val (.int (p1 &&& (255 : Int32))), .val (.ref b7), .val (.ref bb), .val (.ref ll), .val (.ref ff), .val (.ref ss), .val (.ref le), .val (.ref tt), .val (.ref b7)] [(.int (1 : Int32)), (.ref ff)])) rfl rfl (hb hby at_279) _ ?_
    show Steps p.tables e below (T35.setTop (mkF m 280 #[.val (.int p1), .val (.int p2), .val (.int p3), .val (.int p4), .val (.int p5), .val (.int p6), .val (.int (p1 &&& (255 : Int32))), .val (.ref b7), .val (.ref bb), .val (.ref ll), .val (.ref ff), .val (.ref ss), .val (.ref le), .val (.ref tt), .val (.ref b7)] [(.int (1 : Int32))])) _
    refine XS.iconst X35.here hx rfl (hb hby at_280) ?_
    show Steps p.tables e below (T35.setTop (mkF m 281 #[.val (.int p1), .val (.int p2), .val (.int p3), .val (.int p4), .val (.int p5), .val (.int p6), .val (.int (p1 &&& (255 : Int32))), .val (.ref b7), .val (.ref bb), .val (.ref ll), .val (.ref ff), .val (.ref ss), .val (.ref le), .val (.ref tt), .val (.ref b7)] [(.int (1 : Int32)), (.int (1 : Int32))])) _
    refine XS.icmpNo X35.here hx rfl (hb hby at_281) rfl (teq (rfl : (1 : Int32) = (1 : Int32))).2 ?_
    show Steps p.tables e below (T35.setTop (mkF m 284 #[.val (.int p1), .val (.int p2), .val (.int p3), .val (.int p4), .val (.int p5), .val (.int p6), .val (.int (p1 &&& (255 : Int32))), .val (.ref b7), .val (.ref bb), .val (.ref ll), .val (.ref ff), .val (.ref ss), .val (.ref le), .val (.ref tt), .val (.ref b7)] [])) _
    refine XS.aload X35.here hx rfl (hb hby at_284) rfl rfl ?_
    show Steps p.tables e below (T35.setTop (mkF m 286 #[.val (.int p1), .val (.int p2), .val (.int p3), .val (.int p4), .val (.int p5), .val (.int p6), .val (.int (p1 &&& (255 : Int32))), .val (.ref b7), .val (.ref bb), .val (.ref ll), .val (.ref ff), .val (.ref ss), .val (.ref le), .val (.ref tt), .val (.ref b7)] [(.ref b7)])) _
    refine st37 _ ?_
    show Steps p.tables e below (T37.setTop (mkF m 289 #[.val (.int p1), .val (.int p2), .val (.int p3), .val (.int p4), .val (.int p5), .val (.int p6), .val (.int (p1 &&& (255 : Int32))), .val (.ref b7), .val (.ref bb), .val (.ref ll), .val (.ref ff), .val (.ref ss), .val (.ref le), .val (.ref tt), .val (.ref b7)] [(.ref ss)])) _
    refine XS.iconst X37.here hx rfl (hb hby at_289) ?_
    show Steps p.tables e below (T37.setTop (mkF m 290 #[.val (.int p1), .val (.int p2), .val (.int p3), .val (.int p4), .val (.int p5), .val (.int p6), .val (.int (p1 &&& (255 : Int32))), .val (.ref b7), .val (.ref bb), .val (.ref ll), .val (.ref ff), .val (.ref ss), .val (.ref le), .val (.ref tt), .val (.ref b7)] [(.int (0 : Int32)), (.ref ss)])) _
    refine X37.iaload hx (j := (0 : Int32)) (v := (.int p5)) (by rw [e37]; exact Ar_xs.1) (State.isArrayOf_alike hZ.alike Ar_xs.2.1) Ar_xs.2.2 hin290 hat290 (g := (mkF m 290 #[.val (.int p1), .val (.int p2), .val (.int p3), .val (.int p4), .val (.int p5), .val (.int p6), .val (.int (p1 &&& (255 : Int32))), .val (.ref b7), .val (.ref bb), .val (.ref ll), .val (.ref ff), .val (.ref ss), .val (.ref le), .val (.ref tt), .val (.ref b7)] [(.int (0 : Int32)), (.ref ss)])) rfl rfl (hb hby at_290) _ ?_
    show Steps p.tables e below (T37.setTop (mkF m 291 #[.val (.int p1), .val (.int p2), .val (.int p3), .val (.int p4), .val (.int p5), .val (.int p6), .val (.int (p1 &&& (255 : Int32))), .val (.ref b7), .val (.ref bb), .val (.ref ll), .val (.ref ff), .val (.ref ss), .val (.ref le), .val (.ref tt), .val (.ref b7)] [(.int p5)])) _
    refine XS.iload X37.here hx rfl (hb hby at_291) rfl ?_
    show Steps p.tables e below (T37.setTop (mkF m 293 #[.val (.int p1), .val (.int p2), .val (.int p3), .val (.int p4), .val (.int p5), .val (.int p6), .val (.int (p1 &&& (255 : Int32))), .val (.ref b7), .val (.ref bb), .val (.ref ll), .val (.ref ff), .val (.ref ss), .val (.ref le), .val (.ref tt), .val (.ref b7)] [(.int p5), (.int p5)])) _
    refine XS.icmpNo X37.here hx rfl (hb hby at_293) rfl (teq (rfl : p5 = p5)).2 ?_
    show Steps p.tables e below (T37.setTop (mkF m 296 #[.val (.int p1), .val (.int p2), .val (.int p3), .val (.int p4), .val (.int p5), .val (.int p6), .val (.int (p1 &&& (255 : Int32))), .val (.ref b7), .val (.ref bb), .val (.ref ll), .val (.ref ff), .val (.ref ss), .val (.ref le), .val (.ref tt), .val (.ref b7)] [])) _
    refine XS.aload X37.here hx rfl (hb hby at_296) rfl rfl ?_
    show Steps p.tables e below (T37.setTop (mkF m 298 #[.val (.int p1), .val (.int p2), .val (.int p3), .val (.int p4), .val (.int p5), .val (.int p6), .val (.int (p1 &&& (255 : Int32))), .val (.ref b7), .val (.ref bb), .val (.ref ll), .val (.ref ff), .val (.ref ss), .val (.ref le), .val (.ref tt), .val (.ref b7)] [(.ref b7)])) _
    refine st39 _ ?_
    show Steps p.tables e below (T39.setTop (mkF m 301 #[.val (.int p1), .val (.int p2), .val (.int p3), .val (.int p4), .val (.int p5), .val (.int p6), .val (.int (p1 &&& (255 : Int32))), .val (.ref b7), .val (.ref bb), .val (.ref ll), .val (.ref ff), .val (.ref ss), .val (.ref le), .val (.ref tt), .val (.ref b7)] [(.ref le)])) _
    refine XS.iconst X39.here hx rfl (hb hby at_301) ?_
    show Steps p.tables e below (T39.setTop (mkF m 302 #[.val (.int p1), .val (.int p2), .val (.int p3), .val (.int p4), .val (.int p5), .val (.int p6), .val (.int (p1 &&& (255 : Int32))), .val (.ref b7), .val (.ref bb), .val (.ref ll), .val (.ref ff), .val (.ref ss), .val (.ref le), .val (.ref tt), .val (.ref b7)] [(.int (0 : Int32)), (.ref le)])) _
    refine X39.iaload hx (j := (0 : Int32)) (v := (.int (3 : Int32))) (by rw [e39]; exact Ar_xe.1) (State.isArrayOf_alike hZ.alike Ar_xe.2.1) Ar_xe.2.2 hin302 hat302 (g := (mkF m 302 #[.val (.int p1), .val (.int p2), .val (.int p3), .val (.int p4), .val (.int p5), .val (.int p6), .val (.int (p1 &&& (255 : Int32))), .val (.ref b7), .val (.ref bb), .val (.ref ll), .val (.ref ff), .val (.ref ss), .val (.ref le), .val (.ref tt), .val (.ref b7)] [(.int (0 : Int32)), (.ref le)])) rfl rfl (hb hby at_302) _ ?_
    show Steps p.tables e below (T39.setTop (mkF m 303 #[.val (.int p1), .val (.int p2), .val (.int p3), .val (.int p4), .val (.int p5), .val (.int p6), .val (.int (p1 &&& (255 : Int32))), .val (.ref b7), .val (.ref bb), .val (.ref ll), .val (.ref ff), .val (.ref ss), .val (.ref le), .val (.ref tt), .val (.ref b7)] [(.int (3 : Int32))])) _
    refine XS.iconst X39.here hx rfl (hb hby at_303) ?_
    show Steps p.tables e below (T39.setTop (mkF m 304 #[.val (.int p1), .val (.int p2), .val (.int p3), .val (.int p4), .val (.int p5), .val (.int p6), .val (.int (p1 &&& (255 : Int32))), .val (.ref b7), .val (.ref bb), .val (.ref ll), .val (.ref ff), .val (.ref ss), .val (.ref le), .val (.ref tt), .val (.ref b7)] [(.int (3 : Int32)), (.int (3 : Int32))])) _
    refine XS.icmpNo X39.here hx rfl (hb hby at_304) rfl (teq (rfl : (3 : Int32) = (3 : Int32))).2 ?_
    show Steps p.tables e below (T39.setTop (mkF m 307 #[.val (.int p1), .val (.int p2), .val (.int p3), .val (.int p4), .val (.int p5), .val (.int p6), .val (.int (p1 &&& (255 : Int32))), .val (.ref b7), .val (.ref bb), .val (.ref ll), .val (.ref ff), .val (.ref ss), .val (.ref le), .val (.ref tt), .val (.ref b7)] [])) _
    refine XS.aload X39.here hx rfl (hb hby at_307) rfl rfl ?_
    show Steps p.tables e below (T39.setTop (mkF m 309 #[.val (.int p1), .val (.int p2), .val (.int p3), .val (.int p4), .val (.int p5), .val (.int p6), .val (.int (p1 &&& (255 : Int32))), .val (.ref b7), .val (.ref bb), .val (.ref ll), .val (.ref ff), .val (.ref ss), .val (.ref le), .val (.ref tt), .val (.ref b7)] [(.ref b7)])) _
    refine st41 _ ?_
    show Steps p.tables e below (T41.setTop (mkF m 312 #[.val (.int p1), .val (.int p2), .val (.int p3), .val (.int p4), .val (.int p5), .val (.int p6), .val (.int (p1 &&& (255 : Int32))), .val (.ref b7), .val (.ref bb), .val (.ref ll), .val (.ref ff), .val (.ref ss), .val (.ref le), .val (.ref tt), .val (.ref b7)] [(.ref tt)])) _
    refine XS.iconst X41.here hx rfl (hb hby at_312) ?_
    show Steps p.tables e below (T41.setTop (mkF m 313 #[.val (.int p1), .val (.int p2), .val (.int p3), .val (.int p4), .val (.int p5), .val (.int p6), .val (.int (p1 &&& (255 : Int32))), .val (.ref b7), .val (.ref bb), .val (.ref ll), .val (.ref ff), .val (.ref ss), .val (.ref le), .val (.ref tt), .val (.ref b7)] [(.int (0 : Int32)), (.ref tt)])) _
    refine X41.aaload hx (j := (0 : Int32)) (v := .null) (by rw [e41]; exact Ar_xt.1) (State.isArrayOf_alike hZ.alike Ar_xt.2.1) rfl Ar_xt.2.2 hin313 hat313 (g := (mkF m 313 #[.val (.int p1), .val (.int p2), .val (.int p3), .val (.int p4), .val (.int p5), .val (.int p6), .val (.int (p1 &&& (255 : Int32))), .val (.ref b7), .val (.ref bb), .val (.ref ll), .val (.ref ff), .val (.ref ss), .val (.ref le), .val (.ref tt), .val (.ref b7)] [(.int (0 : Int32)), (.ref tt)])) rfl rfl (hb hby at_313) _ ?_
    show Steps p.tables e below (T41.setTop (mkF m 314 #[.val (.int p1), .val (.int p2), .val (.int p3), .val (.int p4), .val (.int p5), .val (.int p6), .val (.int (p1 &&& (255 : Int32))), .val (.ref b7), .val (.ref bb), .val (.ref ll), .val (.ref ff), .val (.ref ss), .val (.ref le), .val (.ref tt), .val (.ref b7)] [.null])) _
    refine XS.ifnonnullNo X41.here hx rfl (hb hby at_314) rfl ?_
    show Steps p.tables e below (T41.setTop (mkF m 317 #[.val (.int p1), .val (.int p2), .val (.int p3), .val (.int p4), .val (.int p5), .val (.int p6), .val (.int (p1 &&& (255 : Int32))), .val (.ref b7), .val (.ref bb), .val (.ref ll), .val (.ref ff), .val (.ref ss), .val (.ref le), .val (.ref tt), .val (.ref b7)] [])) _
    refine XS.iconst X41.here hx rfl (hb hby at_317) ?_
    show Steps p.tables e below (T41.setTop (mkF m 318 #[.val (.int p1), .val (.int p2), .val (.int p3), .val (.int p4), .val (.int p5), .val (.int p6), .val (.int (p1 &&& (255 : Int32))), .val (.ref b7), .val (.ref bb), .val (.ref ll), .val (.ref ff), .val (.ref ss), .val (.ref le), .val (.ref tt), .val (.ref b7)] [(.int (1 : Int32))])) _
    refine XS.goto X41.here hx rfl (pc0 := 318) (pc' := 322) rfl (hb hby at_318) (by decide) (by decide) ?_
    show Steps p.tables e below (T41.setTop (mkF m 322 #[.val (.int p1), .val (.int p2), .val (.int p3), .val (.int p4), .val (.int p5), .val (.int p6), .val (.int (p1 &&& (255 : Int32))), .val (.ref b7), .val (.ref bb), .val (.ref ll), .val (.ref ff), .val (.ref ss), .val (.ref le), .val (.ref tt), .val (.ref b7)] [(.int (1 : Int32))])) _
    exact retN X41 hx (t := .boolean) Bd.returns (by simp) (hb hby at_322) hr
  · show Q0 Z p1 p2 p3 p4 p5 p6 h0 n0 _ T41.heap _
    rw [e41]
    exact ⟨rfl, N28⟩
theorem rm0 (l : Launch) (Z : State) (a0 : Array Value) (hw : ∀ d ∈ tables_1, d.before a0 Z = true) (ws : List Jvm.Cond) (p1 p2 p3 p4 p5 p6 : Int32) (h0 : Heap) (n0 : Nat) (Z0 : n0 ≤ h0.size) :
    MetFree l x (head1 (Jvm.Cond.code x code maxLocals ret :: ws) room_1) (fun a U => a = #[(.int p1), (.int p2), (.int p3), (.int p4), (.int p5), (.int p6)] ∧ Z.Warmed39 U.vm ∧ U.heap = h0) (fun _ _ _ _ _ => True) (fun _ U o U' => ∃ v L, o = .returned v ∧ Q0 Z p1 p2 p3 p4 p5 p6 h0 n0 v U'.heap L ∧ FrameEnd U o U' L room_1.cells room_1.slots) := by
  by_cases hc22 : (p6 &&& (1 : Int32)) = (0 : Int32)
  · exact rm0_even l Z a0 hw ws p1 p2 p3 p4 p5 p6 h0 n0 Z0 hc22
  · exact rm0_odd l Z a0 hw ws p1 p2 p3 p4 p5 p6 h0 n0 Z0 hc22
set_option maxRecDepth 65536 in
set_option maxHeartbeats 40000000 in
theorem comes_1 {Post : Tables → Env → Array Value → State → Outcome → State → Prop} (hpost : ∀ tb e args s v u, (limb_1_1.after args s (.returned v) u = true ∧ limb_1_2.after args s (.returned v) u = true ∧ True) → FrameEnd s (.returned v) u (Jvm.fieldLocs frame_1_writes args s ++ Jvm.arrayLocs frame_1_arrays args s ++ Jvm.staticLocs frame_1_statics s) 32 29312 → Post tb e args s (.returned v) u) :
    ArmFor flags0 classFile x code maxLocals ret World_1 tables_1 room_1 Calls_1 rest_1 Pre_1 Post := by
  intro l hfl _ _ p e ha hc hk s m args below hf hA hF happ hP
  obtain ⟨hcalls, hrest, hpre⟩ := hP
  obtain ⟨-, -, -, hnamed, -, -, -, hat⟩ := (Spec.applies_iff hf).mp happ
  obtain ⟨hg, hn⟩ := and_e (Cond.before_iff.mp (show (Jvm.Cond.and given_1 narrow_1).before args s = true from hpre))
  obtain ⟨g45, g46⟩ := and_e hg
  obtain ⟨g47, g48⟩ := and_e g46
  obtain ⟨g49, g50⟩ := and_e g48
  obtain ⟨g51, g52⟩ := and_e g50
  obtain ⟨g53, g54⟩ := and_e g52
  obtain ⟨g55, g56⟩ := and_e g54
  obtain ⟨w0, w1, w2, w3, w4, w5, rfl⟩ : ∃ w0 w1 w2 w3 w4 w5 : Value, args = #[w0, w1, w2, w3, w4, w5] := by
    have hs : args.size = 6 := by simpa [Cond.value, given_1] using g45
    obtain ⟨L⟩ := args
    match L, hs with
    | [w0, w1, w2, w3, w4, w5], _ => exact ⟨w0, w1, w2, w3, w4, w5, rfl⟩
  have hw := fun d (hd : d ∈ tables_1) => atoms_spec (ws := Jvm.Cond.code x code maxLocals ret :: tables_1) hat d (List.mem_cons_of_mem _ hd)
  have hfit : Fit s := fun {y c} hc i hi => by
    obtain ⟨ha, rfl⟩ := Array.getElem?_eq_some_iff.mp hc
    have q := List.all_eq_true.mp ((Array.all_eq_true_iff_forall_mem.mp hF) _ (Array.getElem_mem ha)) i (List.mem_range.mpr hi)
    simpa [Array.getElem?_eq_getElem hi] using q
  obtain ⟨i0, ei0⟩ := is_v g47
  obtain rfl : w0 = (.int i0) := Option.some.inj ei0
  obtain ⟨i1, ei1⟩ := is_v g49
  obtain rfl : w1 = (.int i1) := Option.some.inj ei1
  obtain ⟨i2, ei2⟩ := is_v g51
  obtain rfl : w2 = (.int i2) := Option.some.inj ei2
  obtain ⟨i3, ei3⟩ := is_v g53
  obtain rfl : w3 = (.int i3) := Option.some.inj ei3
  obtain ⟨i4, ei4⟩ := is_v g55
  obtain rfl : w4 = (.int i4) := Option.some.inj ei4
  obtain ⟨i5, ei5⟩ := is_v g56
  obtain rfl : w5 = (.int i5) := Option.some.inj ei5
  obtain ⟨n, o, h1, h2, h3, _, L, rfl, ⟨rfl, N⟩, hq⟩ := rm0 l s _ hw tables_1 i0 i1 i2 i3 i4 i5 s.heap s.heap.size (Nat.le_refl _) p e ha hc hk s m _ below hf ((Spec.applies_iff_loose hf).mp happ).1 ⟨rfl, State.Warmed39.refl s, rfl⟩ trivial
  refine ⟨n, _, h1, h2, h3, hpost _ _ _ _ _ _ ⟨Cond.after_iff.mpr rfl, Cond.after_iff.mpr (eq_i res_at (Term.int_eval (1)) rfl), trivial⟩ ⟨hq.1, hq.2.1, (hq.2.2.sift fun y hy => Or.inr (N y hy)).mono (by decide) (by decide)⟩⟩
theorem main_1_1 : Claimed_1_1 := comes_1 fun _ _ _ _ _ _ h hF => ⟨h.1, hF⟩
theorem main_1_2 : Claimed_1_2 := comes_1 fun _ _ _ _ _ _ h hF => ⟨h.2.1, hF⟩
end Jvm.Pilot.@@N@@
namespace Jvm.Pilot.@@N@@
open Jvm Jvm.ClassFile Sem Op Lib Jvm.Free Jvm.Stand Jvm.Pilot.@@N@@.Jvm.D
/-! MADE BY PROGRAM (witnessworld.py) out of the Statement's table words and the real class files: 22 classes; the members and pool entries that the words name. The judged class is class 1, her method 1. -/
namespace start1
open Jvm.ClassFile
def u (s : String) : CpInfo := .utf8 (stringToUtf16 s)
/-- a pool by its gaps: so many unusable entries, then the entry; so many at the end -/
def gap : Nat → List CpInfo → List CpInfo
  | 0, r => r
  | n + 1, r => .unusable :: gap n r
def poolList (es : List (Nat × CpInfo)) (last : Nat) : List CpInfo := es.foldr (fun e r => gap e.1 (e.2 :: r)) (gap last [])
def pool (es : List (Nat × CpInfo)) (last : Nat) : Array CpInfo := ⟨poolList es last⟩
def fileOf (pool : Array CpInfo) (this : Nat) (attrs : Array Attribute := #[]) (ms : Array MethodInfo := #[]) (fl : Nat := 33) (sup : Nat := 0) (ifs : Array Nat := #[]) (fds : Array FieldInfo := #[]) : ClassFile where
  minorVersion := 0
  majorVersion := 65
  constantPool := pool
  accessFlags := fl
  thisClass := this
  superClass := sup
  interfaces := ifs
  fields := fds
  methods := ms
  attributes := attrs
def plain (name : String) (sup : Option ClassId) : Class where
  name := name
  kind := .ordinary
  loader := none
  accessFlags := 33
  super := sup
  interfaces := #[]
  cf := none
  fields := #[]
  methods := #[]
  instanceTypes := #[]
  staticTypes := #[]
  resolved := #[]
  callSites := []
  init := .initialized
  statics := none
  mirror := none

def pool0 : Array CpInfo := pool [(5, u "<init>"), (0, u "()V"), (1, .class_ 10), (1, u "java/lang/Object")] 113

def k0c0 : Code := { maxStack := 0, maxLocals := 1, code := object_method_1_code, exceptionTable := #[], attributes := #[] }
def k0m0 : Method := { name := "<init>", desc := "()V", sig := { parameters := [], returnType := none }, accessFlags := 1, code := some k0c0 }
/-- java/lang/Object -/
def k0 : Class := { plain "java/lang/Object" none with
  accessFlags := 33
  interfaces := #[]
  cf := some (fileOf pool0 8 #[] #[{ accessFlags := 1, nameIndex := 5, descriptorIndex := 6, attributes := #[] }] 33 0 #[] #[])
  fields := #[]
  methods := #[k0m0]
  instanceTypes := #[]
  staticTypes := #[]
  resolved := Array.replicate 124 none
  statics := none }

def pool1 : Array CpInfo := pool [(2, .class_ 4), (1, u "java/lang/Object"), (0, u "<init>"), (0, u "()V"), (0, .class_ 8), (0, u "com/example/interstice/interstice/CsvScanner$Batch"), (0, .methodref 7 10), (0, .nameAndType 5 11), (0, u "(I)V"), (0, .methodref 7 13), (0, .nameAndType 14 11), (0, u "startRecord"), (0, .methodref 7 16), (0, .nameAndType 17 18), (0, u "addField"), (0, u "(IILjava/lang/String;)V"), (0, .fieldref 7 20), (0, .nameAndType 21 22), (0, u "records"), (0, u "I"), (0, .fieldref 7 24), (0, .nameAndType 25 22), (0, u "fields"), (0, .fieldref 7 27), (0, .nameAndType 28 29), (0, u "bytes"), (0, u "[B"), (0, .fieldref 7 31), (0, .nameAndType 32 33), (0, u "lines"), (0, u "[I"), (0, .fieldref 7 35), (0, .nameAndType 36 33), (0, u "firstFields"), (0, .fieldref 7 38), (0, .nameAndType 39 33), (0, u "starts"), (0, .fieldref 7 41), (0, .nameAndType 42 33), (0, u "lengths"), (0, .fieldref 7 44), (0, .nameAndType 45 46), (0, u "texts"), (0, u "[Ljava/lang/String;"), (0, .methodref 7 48), (0, .nameAndType 49 50), (0, u "clear"), (0, u "()Lcom/example/interstice/interstice/CsvScanner$Batch;"), (0, .class_ 52), (0, u "com/example/interstice/interstice/BatchClearPinLaw"), (2, u "law"), (0, u "(IIIIII)Z")] 10

def k1m0 : Method := { name := "<init>", desc := "()V", sig := { parameters := [], returnType := none }, accessFlags := 1, code := none }
def k1c1 : Code := { maxStack := 4, maxLocals := 15, code := code, exceptionTable := #[], attributes := #[] }
def k1m1 : Method := { name := "law", desc := "(IIIIII)Z", sig := { parameters := [.int, .int, .int, .int, .int, .int], returnType := some .boolean }, accessFlags := 9, code := some k1c1 }
/-- com/example/interstice/interstice/BatchClearPinLaw -/
def k1 : Class := { plain "com/example/interstice/interstice/BatchClearPinLaw" (some 0) with
  accessFlags := 49
  interfaces := #[]
  cf := some (fileOf pool1 51 #[] #[{ accessFlags := 1, nameIndex := 5, descriptorIndex := 6, attributes := #[] }, { accessFlags := 9, nameIndex := 55, descriptorIndex := 56, attributes := #[] }] 49 2 #[] #[])
  fields := #[]
  methods := #[k1m0, k1m1]
  instanceTypes := #[]
  staticTypes := #[]
  resolved := Array.replicate 67 none
  statics := none }

def pool2 : Array CpInfo := pool [(1, .methodref 2 3), (0, .class_ 4), (0, .nameAndType 5 6), (0, u "java/lang/Object"), (0, u "<init>"), (0, u "()V"), (0, .fieldref 8 9), (0, .class_ 10), (0, .nameAndType 11 12), (0, u "com/example/interstice/interstice/CsvScanner$Batch"), (0, u "lines"), (0, u "[I"), (0, .fieldref 8 14), (0, .nameAndType 15 12), (0, u "firstFields"), (0, .fieldref 8 17), (0, .nameAndType 18 12), (0, u "starts"), (0, .fieldref 8 20), (0, .nameAndType 21 12), (0, u "lengths"), (0, .class_ 23), (0, u "java/lang/String"), (0, .fieldref 8 25), (0, .nameAndType 26 27), (0, u "texts"), (0, u "[Ljava/lang/String;"), (0, .class_ 29), (0, u "java/time/Instant"), (0, .fieldref 8 31), (0, .nameAndType 32 33), (0, u "instants"), (0, u "[Ljava/time/Instant;"), (0, .fieldref 8 35), (0, .nameAndType 36 37), (0, u "decimals"), (0, u "[D"), (0, .fieldref 8 39), (0, .nameAndType 40 41), (0, u "sameSeries"), (0, u "[Z"), (0, .fieldref 8 43), (0, .nameAndType 44 45), (0, u "bytes"), (0, u "[B"), (0, .fieldref 8 47), (0, .nameAndType 48 49), (0, u "records"), (0, u "I"), (0, .fieldref 8 51), (0, .nameAndType 52 49), (0, u "fields"), (10, u "columns"), (0, u "Lcom/example/interstice/interstice/CsvReadAhead$Columns;"), (0, u "last"), (0, u "Z"), (0, u "failure"), (0, u "Ljava/lang/Throwable;"), (0, u "failureLine"), (0, u "(I)V"), (2, u "clear"), (0, u "()Lcom/example/interstice/interstice/CsvScanner$Batch;"), (0, u "startRecord"), (1, u "addField"), (0, u "(IILjava/lang/String;)V"), (3, .class_ 83), (0, u "com/example/interstice/interstice/CsvScanner")] 7

def k2c0 : Code := { maxStack := 2, maxLocals := 2, code := prog_16_method_1_code, exceptionTable := #[], attributes := #[] }
def k2m0 : Method := { name := "<init>", desc := "(I)V", sig := { parameters := [.int], returnType := none }, accessFlags := 0, code := some k2c0 }
def k2c1 : Code := { maxStack := 2, maxLocals := 1, code := prog_16_method_2_code, exceptionTable := #[], attributes := #[] }
def k2m1 : Method := { name := "clear", desc := "()Lcom/example/interstice/interstice/CsvScanner$Batch;", sig := { parameters := [], returnType := some (.object "com/example/interstice/interstice/CsvScanner$Batch") }, accessFlags := 0, code := some k2c1 }
def k2c2 : Code := { maxStack := 4, maxLocals := 3, code := prog_16_method_3_code, exceptionTable := #[], attributes := #[] }
def k2m2 : Method := { name := "startRecord", desc := "(I)V", sig := { parameters := [.int], returnType := none }, accessFlags := 0, code := some k2c2 }
def k2c3 : Code := { maxStack := 4, maxLocals := 4, code := prog_16_method_4_code, exceptionTable := #[], attributes := #[] }
def k2m3 : Method := { name := "addField", desc := "(IILjava/lang/String;)V", sig := { parameters := [.int, .int, (.object "java/lang/String")], returnType := none }, accessFlags := 0, code := some k2c3 }
/-- com/example/interstice/interstice/CsvScanner$Batch -/
def k2 : Class := { plain "com/example/interstice/interstice/CsvScanner$Batch" (some 0) with
  accessFlags := 48
  interfaces := #[]
  cf := some (fileOf pool2 8 #[.nestHost 82] #[{ accessFlags := 0, nameIndex := 5, descriptorIndex := 70, attributes := #[] }, { accessFlags := 0, nameIndex := 73, descriptorIndex := 74, attributes := #[] }, { accessFlags := 0, nameIndex := 75, descriptorIndex := 70, attributes := #[] }, { accessFlags := 0, nameIndex := 77, descriptorIndex := 78, attributes := #[] }] 48 2 #[] #[{ accessFlags := 0, nameIndex := 44, descriptorIndex := 45, attributes := #[] }, { accessFlags := 0, nameIndex := 48, descriptorIndex := 49, attributes := #[] }, { accessFlags := 0, nameIndex := 11, descriptorIndex := 12, attributes := #[] }, { accessFlags := 0, nameIndex := 15, descriptorIndex := 12, attributes := #[] }, { accessFlags := 0, nameIndex := 52, descriptorIndex := 49, attributes := #[] }, { accessFlags := 0, nameIndex := 18, descriptorIndex := 12, attributes := #[] }, { accessFlags := 0, nameIndex := 21, descriptorIndex := 12, attributes := #[] }, { accessFlags := 0, nameIndex := 26, descriptorIndex := 27, attributes := #[] }, { accessFlags := 0, nameIndex := 63, descriptorIndex := 64, attributes := #[] }, { accessFlags := 0, nameIndex := 32, descriptorIndex := 33, attributes := #[] }, { accessFlags := 0, nameIndex := 36, descriptorIndex := 37, attributes := #[] }, { accessFlags := 0, nameIndex := 40, descriptorIndex := 41, attributes := #[] }, { accessFlags := 0, nameIndex := 65, descriptorIndex := 66, attributes := #[] }, { accessFlags := 0, nameIndex := 67, descriptorIndex := 68, attributes := #[] }, { accessFlags := 0, nameIndex := 69, descriptorIndex := 49, attributes := #[] }])
  fields := #[{ name := "bytes", type := (.array .byte), accessFlags := 0, slot := 0, constantValue := 0 }, { name := "records", type := .int, accessFlags := 0, slot := 1, constantValue := 0 }, { name := "lines", type := (.array .int), accessFlags := 0, slot := 2, constantValue := 0 }, { name := "firstFields", type := (.array .int), accessFlags := 0, slot := 3, constantValue := 0 }, { name := "fields", type := .int, accessFlags := 0, slot := 4, constantValue := 0 }, { name := "starts", type := (.array .int), accessFlags := 0, slot := 5, constantValue := 0 }, { name := "lengths", type := (.array .int), accessFlags := 0, slot := 6, constantValue := 0 }, { name := "texts", type := (.array (.object "java/lang/String")), accessFlags := 0, slot := 7, constantValue := 0 }, { name := "columns", type := (.object "com/example/interstice/interstice/CsvReadAhead$Columns"), accessFlags := 0, slot := 8, constantValue := 0 }, { name := "instants", type := (.array (.object "java/time/Instant")), accessFlags := 0, slot := 9, constantValue := 0 }, { name := "decimals", type := (.array .double), accessFlags := 0, slot := 10, constantValue := 0 }, { name := "sameSeries", type := (.array .boolean), accessFlags := 0, slot := 11, constantValue := 0 }, { name := "last", type := .boolean, accessFlags := 0, slot := 12, constantValue := 0 }, { name := "failure", type := (.object "java/lang/Throwable"), accessFlags := 0, slot := 13, constantValue := 0 }, { name := "failureLine", type := .int, accessFlags := 0, slot := 14, constantValue := 0 }]
  methods := #[k2m0, k2m1, k2m2, k2m3]
  instanceTypes := #[(.array .byte), .int, (.array .int), (.array .int), .int, (.array .int), (.array .int), (.array (.object "java/lang/String")), (.object "com/example/interstice/interstice/CsvReadAhead$Columns"), (.array (.object "java/time/Instant")), (.array .double), (.array .boolean), .boolean, (.object "java/lang/Throwable"), .int]
  staticTypes := #[]
  resolved := Array.replicate 91 none
  statics := none }

def pool3 : Array CpInfo := pool [(1, .class_ 2), (0, u "java/io/Serializable"), (0, .class_ 4), (0, u "java/lang/Object")] 2

/-- java/io/Serializable -/
def k3 : Class := { plain "java/io/Serializable" (some 0) with
  accessFlags := 1537
  interfaces := #[]
  cf := some (fileOf pool3 1 #[] #[] 1537 3 #[] #[])
  fields := #[]
  methods := #[]
  instanceTypes := #[]
  staticTypes := #[]
  resolved := Array.replicate 7 none
  statics := none }

def pool4 : Array CpInfo := pool [(1, .class_ 2), (0, u "java/lang/Comparable"), (0, .class_ 4), (0, u "java/lang/Object")] 7

/-- java/lang/Comparable -/
def k4 : Class := { plain "java/lang/Comparable" (some 0) with
  accessFlags := 1537
  interfaces := #[]
  cf := some (fileOf pool4 1 #[] #[] 1537 3 #[] #[])
  fields := #[]
  methods := #[]
  instanceTypes := #[]
  staticTypes := #[]
  resolved := Array.replicate 12 none
  statics := none }

def pool5 : Array CpInfo := pool [(2, .class_ 4), (1, u "java/lang/CharSequence"), (42, .class_ 48), (0, u "java/lang/CharSequence$1CodePointIterator"), (10, .class_ 60), (0, u "java/lang/CharSequence$1CharIterator"), (5, .class_ 67), (0, u "java/lang/Object")] 63

/-- java/lang/CharSequence -/
def k5 : Class := { plain "java/lang/CharSequence" (some 0) with
  accessFlags := 1537
  interfaces := #[]
  cf := some (fileOf pool5 2 #[.nestMembers #[47, 59]] #[] 1537 66 #[] #[])
  fields := #[]
  methods := #[]
  instanceTypes := #[]
  staticTypes := #[]
  resolved := Array.replicate 131 none
  statics := none }

def pool6 : Array CpInfo := pool [(1, .class_ 2), (0, u "java/lang/constant/Constable"), (0, .class_ 4), (0, u "java/lang/Object")] 6

/-- java/lang/constant/Constable -/
def k6 : Class := { plain "java/lang/constant/Constable" (some 0) with
  accessFlags := 1537
  interfaces := #[]
  cf := some (fileOf pool6 1 #[] #[] 1537 3 #[] #[])
  fields := #[]
  methods := #[]
  instanceTypes := #[]
  staticTypes := #[]
  resolved := Array.replicate 11 none
  statics := none }

def pool7 : Array CpInfo := pool [(1, .class_ 2), (0, u "java/lang/constant/ConstantDesc"), (0, .class_ 4), (0, u "java/lang/Object")] 32

/-- java/lang/constant/ConstantDesc -/
def k7 : Class := { plain "java/lang/constant/ConstantDesc" (some 0) with
  accessFlags := 1537
  interfaces := #[]
  cf := some (fileOf pool7 1 #[] #[] 1537 3 #[] #[])
  fields := #[]
  methods := #[]
  instanceTypes := #[]
  staticTypes := #[]
  resolved := Array.replicate 37 none
  statics := none }

def pool8 : Array CpInfo := pool [(2, .class_ 4), (1, u "java/lang/Object"), (0, u "<init>"), (0, u "()V"), (3, .class_ 12), (1, u "java/lang/String"), (0, u "value"), (0, u "[B"), (2, u "coder"), (0, u "B"), (2, u "hash"), (0, u "I"), (2, u "hashIsZero"), (0, u "Z"), (13, u "COMPACT_STRINGS"), (534, .class_ 576), (0, u "java/lang/CharSequence"), (22, u "CASE_INSENSITIVE_ORDER"), (0, u "Ljava/util/Comparator;"), (500, u "serialPersistentFields"), (0, u "[Ljava/io/ObjectStreamField;"), (0, .class_ 1104), (0, u "java/lang/String$CaseInsensitiveComparator"), (1, .class_ 1107), (0, u "java/io/Serializable"), (0, .class_ 1109), (0, u "java/lang/Comparable"), (0, .class_ 1111), (0, u "java/lang/constant/Constable"), (0, .class_ 1113), (0, u "java/lang/constant/ConstantDesc"), (2, u "serialVersionUID"), (0, u "J"), (3, u "REPL"), (0, u "C"), (2, u "LATIN1"), (1, u "UTF16")] 323

def k8m0 : Method := { name := "<init>", desc := "()V", sig := { parameters := [], returnType := none }, accessFlags := 1, code := none }
/-- java/lang/String -/
def k8 : Class := { plain "java/lang/String" (some 0) with
  accessFlags := 49
  interfaces := #[3, 4, 5, 6, 7]
  cf := some (fileOf pool8 10 #[.nestMembers #[1103]] #[{ accessFlags := 1, nameIndex := 5, descriptorIndex := 6, attributes := #[] }] 49 2 #[1106, 1108, 575, 1110, 1112] #[{ accessFlags := 18, nameIndex := 13, descriptorIndex := 14, attributes := #[] }, { accessFlags := 18, nameIndex := 17, descriptorIndex := 18, attributes := #[] }, { accessFlags := 2, nameIndex := 21, descriptorIndex := 22, attributes := #[] }, { accessFlags := 2, nameIndex := 25, descriptorIndex := 26, attributes := #[] }, { accessFlags := 26, nameIndex := 1116, descriptorIndex := 1117, attributes := #[] }, { accessFlags := 24, nameIndex := 40, descriptorIndex := 26, attributes := #[] }, { accessFlags := 26, nameIndex := 1101, descriptorIndex := 1102, attributes := #[] }, { accessFlags := 26, nameIndex := 1121, descriptorIndex := 1122, attributes := #[] }, { accessFlags := 25, nameIndex := 599, descriptorIndex := 600, attributes := #[] }, { accessFlags := 24, nameIndex := 1125, descriptorIndex := 18, attributes := #[] }, { accessFlags := 24, nameIndex := 1127, descriptorIndex := 18, attributes := #[] }])
  fields := #[{ name := "value", type := (.array .byte), accessFlags := 18, slot := 0, constantValue := 0 }, { name := "coder", type := .byte, accessFlags := 18, slot := 1, constantValue := 0 }, { name := "hash", type := .int, accessFlags := 2, slot := 2, constantValue := 0 }, { name := "hashIsZero", type := .boolean, accessFlags := 2, slot := 3, constantValue := 0 }, { name := "serialVersionUID", type := .long, accessFlags := 26, slot := 0, constantValue := 0 }, { name := "COMPACT_STRINGS", type := .boolean, accessFlags := 24, slot := 1, constantValue := 0 }, { name := "serialPersistentFields", type := (.array (.object "java/io/ObjectStreamField")), accessFlags := 26, slot := 2, constantValue := 0 }, { name := "REPL", type := .char, accessFlags := 26, slot := 3, constantValue := 0 }, { name := "CASE_INSENSITIVE_ORDER", type := (.object "java/util/Comparator"), accessFlags := 25, slot := 4, constantValue := 0 }, { name := "LATIN1", type := .byte, accessFlags := 24, slot := 5, constantValue := 0 }, { name := "UTF16", type := .byte, accessFlags := 24, slot := 6, constantValue := 0 }]
  methods := #[k8m0]
  instanceTypes := #[(.array .byte), .byte, .int, .boolean]
  staticTypes := #[.long, .boolean, (.array (.object "java/io/ObjectStreamField")), .char, (.object "java/util/Comparator"), .byte, .byte]
  resolved := Array.replicate 1451 none
  statics := none }

def pool9 : Array CpInfo := pool [(4, .class_ 6), (1, u "java/time/temporal/TemporalAccessor"), (95, .class_ 103), (0, u "java/lang/Object")] 21

/-- java/time/temporal/TemporalAccessor -/
def k9 : Class := { plain "java/time/temporal/TemporalAccessor" (some 0) with
  accessFlags := 1537
  interfaces := #[]
  cf := some (fileOf pool9 4 #[] #[] 1537 102 #[] #[])
  fields := #[]
  methods := #[]
  instanceTypes := #[]
  staticTypes := #[]
  resolved := Array.replicate 125 none
  statics := none }

def pool10 : Array CpInfo := pool [(22, .class_ 24), (1, u "java/time/temporal/Temporal"), (2, .class_ 28), (0, u "java/lang/Object"), (0, .class_ 30), (0, u "java/time/temporal/TemporalAccessor")] 25

/-- java/time/temporal/Temporal -/
def k10 : Class := { plain "java/time/temporal/Temporal" (some 0) with
  accessFlags := 1537
  interfaces := #[9]
  cf := some (fileOf pool10 22 #[] #[] 1537 27 #[29] #[])
  fields := #[]
  methods := #[]
  instanceTypes := #[]
  staticTypes := #[]
  resolved := Array.replicate 56 none
  statics := none }

def pool11 : Array CpInfo := pool [(1, .class_ 2), (0, u "java/time/temporal/TemporalAdjuster"), (0, .class_ 4), (0, u "java/lang/Object")] 6

/-- java/time/temporal/TemporalAdjuster -/
def k11 : Class := { plain "java/time/temporal/TemporalAdjuster" (some 0) with
  accessFlags := 1537
  interfaces := #[]
  cf := some (fileOf pool11 1 #[] #[] 1537 3 #[] #[])
  fields := #[]
  methods := #[]
  instanceTypes := #[]
  staticTypes := #[]
  resolved := Array.replicate 11 none
  statics := none }

def pool12 : Array CpInfo := pool [(21, .class_ 23), (1, u "java/time/Instant"), (99, u "EPOCH"), (0, u "Ljava/time/Instant;"), (13, .class_ 139), (0, u "java/lang/Object"), (2, u "seconds"), (0, u "J"), (2, u "nanos"), (0, u "I"), (28, .class_ 178), (1, u "java/time/temporal/Temporal"), (3, .class_ 184), (1, u "java/time/Instant$1"), (23, .class_ 210), (1, u "java/time/temporal/TemporalAdjuster"), (212, u "MIN"), (4, u "MAX"), (0, .class_ 430), (0, u "java/lang/Comparable"), (0, .class_ 432), (0, u "java/io/Serializable"), (0, u "MIN_SECOND"), (1, u "MAX_SECOND"), (0, u "serialVersionUID")] 142

/-- java/time/Instant -/
def k12 : Class := { plain "java/time/Instant" (some 0) with
  accessFlags := 49
  interfaces := #[10, 11, 4, 3]
  cf := some (fileOf pool12 21 #[.nestMembers #[182]] #[] 49 138 #[176, 208, 429, 431] #[{ accessFlags := 25, nameIndex := 123, descriptorIndex := 124, attributes := #[] }, { accessFlags := 26, nameIndex := 433, descriptorIndex := 143, attributes := #[] }, { accessFlags := 26, nameIndex := 435, descriptorIndex := 143, attributes := #[] }, { accessFlags := 25, nameIndex := 423, descriptorIndex := 124, attributes := #[] }, { accessFlags := 25, nameIndex := 428, descriptorIndex := 124, attributes := #[] }, { accessFlags := 26, nameIndex := 436, descriptorIndex := 143, attributes := #[] }, { accessFlags := 18, nameIndex := 142, descriptorIndex := 143, attributes := #[] }, { accessFlags := 18, nameIndex := 146, descriptorIndex := 147, attributes := #[] }])
  fields := #[{ name := "EPOCH", type := (.object "java/time/Instant"), accessFlags := 25, slot := 0, constantValue := 0 }, { name := "MIN_SECOND", type := .long, accessFlags := 26, slot := 1, constantValue := 0 }, { name := "MAX_SECOND", type := .long, accessFlags := 26, slot := 2, constantValue := 0 }, { name := "MIN", type := (.object "java/time/Instant"), accessFlags := 25, slot := 3, constantValue := 0 }, { name := "MAX", type := (.object "java/time/Instant"), accessFlags := 25, slot := 4, constantValue := 0 }, { name := "serialVersionUID", type := .long, accessFlags := 26, slot := 5, constantValue := 0 }, { name := "seconds", type := .long, accessFlags := 18, slot := 0, constantValue := 0 }, { name := "nanos", type := .int, accessFlags := 18, slot := 1, constantValue := 0 }]
  methods := #[]
  instanceTypes := #[.long, .int]
  staticTypes := #[(.object "java/time/Instant"), .long, .long, (.object "java/time/Instant"), (.object "java/time/Instant"), .long]
  resolved := Array.replicate 579 none
  statics := none }

def pool13 : Array CpInfo := pool [(1, u "java/lang/Cloneable"), (0, .class_ 1), (0, u "java/lang/Object"), (0, .class_ 3)] 3

/-- java/lang/Cloneable -/
def k13 : Class := { plain "java/lang/Cloneable" (some 0) with
  accessFlags := 1537
  interfaces := #[]
  cf := some (fileOf pool13 2 #[] #[] 1537 4 #[] #[])
  fields := #[]
  methods := #[]
  instanceTypes := #[]
  staticTypes := #[]
  resolved := Array.replicate 8 none
  statics := none }

/-- the primitive boolean -/
def k14 : Class := { plain "boolean" none with kind := .primitive 'Z', accessFlags := 0x411 }
/-- [Z -/
def k15 : Class := { plain "[Z" (some 0) with kind := .array 14 .boolean, interfaces := #[13, 3], accessFlags := 1041 }

/-- the primitive byte -/
def k16 : Class := { plain "byte" none with kind := .primitive 'B', accessFlags := 0x411 }
/-- [B -/
def k17 : Class := { plain "[B" (some 0) with kind := .array 16 .byte, interfaces := #[13, 3], accessFlags := 1041 }

/-- the primitive int -/
def k18 : Class := { plain "int" none with kind := .primitive 'I', accessFlags := 0x411 }
/-- [I -/
def k19 : Class := { plain "[I" (some 0) with kind := .array 18 .int, interfaces := #[13, 3], accessFlags := 1041 }

/-- [Ljava/lang/String; -/
def k20 : Class := { plain "[Ljava/lang/String;" (some 0) with kind := .array 8 (.object "java/lang/String"), interfaces := #[13, 3], accessFlags := 1041 }

/-- [Ljava/time/Instant; -/
def k21 : Class := { plain "[Ljava/time/Instant;" (some 0) with kind := .array 12 (.object "java/time/Instant"), interfaces := #[13, 3], accessFlags := 1041 }

/-- the primitive double -/
def k22 : Class := { plain "double" none with kind := .primitive 'D', accessFlags := 0x411 }
/-- [D -/
def k23 : Class := { plain "[D" (some 0) with kind := .array 22 .double, interfaces := #[13, 3], accessFlags := 1041 }

def heap : Heap := #[]
def classes : Array Class := #[k0, k1, k2, k3, k4, k5, k6, k7, k8, k9, k10, k11, k12, k13, k14, k15, k16, k17, k18, k19, k20, k21, k22, k23]
def interned : List (Array UInt16 × Addr) := []
def slotsUsed : Nat := 0
def theMethod : MethodId := ⟨1, 1⟩
def args0 : Array Value := #[.int 16, .int 2, .int 3, .int 4, .int 5, .int 1]
def aboutOver (below : List Frame) : State where
  vm := { classes := classes, interned := interned.toArray }
  heap := heap
  slotsUsed := slotsUsed
  threads := #[{ frames := .invoking theMethod args0 :: below }]
def below0 : List Frame := [.native { method := ⟨0, 0⟩, args := #[] }]
def about1 : State := aboutOver below0
def p0 : Program := .bare "" "" ""
def e0 : Env := launch0.env 0 0 0
theorem w_frames : about1.frames = Frame.invoking theMethod args0 :: below0 := rfl
set_option maxRecDepth 65536 in
theorem w_args : argsFit about1.vm theMethod args0 = true := by decide +kernel
set_option maxRecDepth 65536 in
theorem w_heap : heapFits about1 = true := by decide +kernel
set_option maxRecDepth 65536 in
theorem w_runnable : about1.curStatus? = some .runnable := by decide +kernel
set_option maxRecDepth 65536 in
theorem w_alone : about1.alone = true := by decide +kernel
set_option maxRecDepth 65536 in
theorem w_named : about1.methodNamed? x = some theMethod := by decide +kernel
set_option maxRecDepth 65536 in
theorem w_hears : about1.hears theMethod below0 = true := by decide +kernel
set_option maxRecDepth 65536 in
theorem w_ripe : about1.ripe theMethod args0 below0 = true := by decide +kernel
theorem w_running : about1.status = .running := rfl
set_option maxRecDepth 65536 in
theorem w_room : about1.hasRoom e0.platform room_1 = true :=
  launch0.hasRoom_least _ room_1 (by decide +kernel) (by decide +kernel) (by decide +kernel) (by decide +kernel) (by decide +kernel) (by decide +kernel)
theorem allAtoms_all (ts : List Jvm.Cond) (a : Array Jvm.Value) (st : Jvm.State) : (allAtoms ts).before a st = ts.all (fun c => c.before a st) := by
  induction ts with
  | nil => rfl
  | cons c t ih =>
    show (Jvm.Cond.and c (allAtoms t)).before a st = _
    rw [Jvm.Cond.before_and, ih, List.all_cons]
def words1 : List Jvm.Cond := Jvm.Cond.code x code maxLocals ret :: tables_1
/-- a 'code' word, met by the world's own term for the bytes: nothing is compared byte by byte -/
theorem code_word {y : MethodName} {bytes : ByteArray} {mx : Nat} {rt : Option FieldType} {a : Array Value} {s : State} {m : MethodId} {meth : Method} {c : Code} (h1 : s.methodNamed? y = some m) (h2 : s.vm.method? m = some meth) (h3 : meth.code = some c) (h4 : c.code = bytes)
    (h5 : (c.maxLocals == mx && c.exceptionTable.isEmpty && decide (c.maxStack ≤ mostOperands) && decide (meth.sig.returnType = rt) && !meth.locks && decide (parseMethodDescriptor y.desc = some meth.sig)) = true) : (Jvm.Cond.code y bytes mx rt).before a s = true := by
  simp only [Bool.and_eq_true, beq_iff_eq, Bool.not_eq_true', decide_eq_true_eq] at h5
  obtain ⟨⟨⟨⟨⟨g1, g2⟩, g3⟩, g4⟩, g5⟩, g6⟩ := h5
  simp [Cond.before, Cond.holds, Cond.value, h1, h2, h3, h4, g1, g2, g3, g4, g5, g6]
def isCode : Jvm.Cond → Bool
  | .code _ _ _ _ => true
  | _ => false
theorem all_split {L : List Jvm.Cond} {P : Jvm.Cond → Bool} (h1 : L.all (fun c => isCode c || P c) = true) (h2 : ∀ c ∈ L.filter isCode, P c = true) : L.all P = true := by
  refine List.all_eq_true.mpr fun c hc => ?_
  have h := List.all_eq_true.mp h1 c hc
  rcases Bool.eq_false_or_eq_true (isCode c) with hi | hi
  · exact h2 c (List.mem_filter.mpr ⟨hc, hi⟩)
  · simpa [hi] using h
set_option maxRecDepth 65536 in
theorem w_c0 : (Jvm.Cond.code x code maxLocals ret).before args0 about1 = true := code_word (m := ⟨1, 1⟩) (meth := k1m1) (c := k1c1) (by decide +kernel) rfl rfl rfl (by decide +kernel)
set_option maxRecDepth 65536 in
theorem w_c1 : (Jvm.Cond.code ({ cls := "com/example/interstice/interstice/CsvScanner$Batch", name := "<init>", desc := "(I)V" } : Jvm.MethodName) prog_16_method_1_code (2 : Nat) (Option.none : Option Jvm.ClassFile.FieldType)).before args0 about1 = true := code_word (m := ⟨2, 0⟩) (meth := k2m0) (c := k2c0) (by decide +kernel) rfl rfl rfl (by decide +kernel)
set_option maxRecDepth 65536 in
theorem w_c2 : (Jvm.Cond.code ({ cls := "java/lang/Object", name := "<init>", desc := "()V" } : Jvm.MethodName) object_method_1_code (1 : Nat) (Option.none : Option Jvm.ClassFile.FieldType)).before args0 about1 = true := code_word (m := ⟨0, 0⟩) (meth := k0m0) (c := k0c0) (by decide +kernel) rfl rfl rfl (by decide +kernel)
set_option maxRecDepth 65536 in
theorem w_c3 : (Jvm.Cond.code ({ cls := "com/example/interstice/interstice/CsvScanner$Batch", name := "startRecord", desc := "(I)V" } : Jvm.MethodName) prog_16_method_3_code (3 : Nat) (Option.none : Option Jvm.ClassFile.FieldType)).before args0 about1 = true := code_word (m := ⟨2, 2⟩) (meth := k2m2) (c := k2c2) (by decide +kernel) rfl rfl rfl (by decide +kernel)
set_option maxRecDepth 65536 in
theorem w_c4 : (Jvm.Cond.code ({ cls := "com/example/interstice/interstice/CsvScanner$Batch", name := "addField", desc := "(IILjava/lang/String;)V" } : Jvm.MethodName) prog_16_method_4_code (4 : Nat) (Option.none : Option Jvm.ClassFile.FieldType)).before args0 about1 = true := code_word (m := ⟨2, 3⟩) (meth := k2m3) (c := k2c3) (by decide +kernel) rfl rfl rfl (by decide +kernel)
set_option maxRecDepth 65536 in
theorem w_c5 : (Jvm.Cond.code ({ cls := "com/example/interstice/interstice/CsvScanner$Batch", name := "clear", desc := "()Lcom/example/interstice/interstice/CsvScanner$Batch;" } : Jvm.MethodName) prog_16_method_2_code (1 : Nat) (Option.some (Jvm.ClassFile.FieldType.object "com/example/interstice/interstice/CsvScanner$Batch"))).before args0 about1 = true := code_word (m := ⟨2, 1⟩) (meth := k2m1) (c := k2c1) (by decide +kernel) rfl rfl rfl (by decide +kernel)
def codes1 : List Jvm.Cond := [Jvm.Cond.code x code maxLocals ret, Jvm.Cond.code ({ cls := "com/example/interstice/interstice/CsvScanner$Batch", name := "<init>", desc := "(I)V" } : Jvm.MethodName) prog_16_method_1_code (2 : Nat) (Option.none : Option Jvm.ClassFile.FieldType), Jvm.Cond.code ({ cls := "java/lang/Object", name := "<init>", desc := "()V" } : Jvm.MethodName) object_method_1_code (1 : Nat) (Option.none : Option Jvm.ClassFile.FieldType), Jvm.Cond.code ({ cls := "com/example/interstice/interstice/CsvScanner$Batch", name := "startRecord", desc := "(I)V" } : Jvm.MethodName) prog_16_method_3_code (3 : Nat) (Option.none : Option Jvm.ClassFile.FieldType), Jvm.Cond.code ({ cls := "com/example/interstice/interstice/CsvScanner$Batch", name := "addField", desc := "(IILjava/lang/String;)V" } : Jvm.MethodName) prog_16_method_4_code (4 : Nat) (Option.none : Option Jvm.ClassFile.FieldType), Jvm.Cond.code ({ cls := "com/example/interstice/interstice/CsvScanner$Batch", name := "clear", desc := "()Lcom/example/interstice/interstice/CsvScanner$Batch;" } : Jvm.MethodName) prog_16_method_2_code (1 : Nat) (Option.some (Jvm.ClassFile.FieldType.object "com/example/interstice/interstice/CsvScanner$Batch"))]
set_option maxRecDepth 65536 in
theorem codes_eq : words1.filter isCode = codes1 := rfl
theorem w_codes : ∀ c ∈ words1.filter isCode, c.before args0 about1 = true := by
  rw [codes_eq]
  intro c hc
  simp only [codes1, List.mem_cons, List.not_mem_nil, or_false] at hc
  rcases hc with rfl | rfl | rfl | rfl | rfl | rfl
  · exact w_c0
  · exact w_c1
  · exact w_c2
  · exact w_c3
  · exact w_c4
  · exact w_c5
set_option maxRecDepth 65536 in
theorem w_t1 : (words1.take 24).all (fun c => isCode c || c.before args0 about1) = true := by decide +kernel
set_option maxRecDepth 65536 in
theorem w_t2 : ((words1.drop 24).take 24).all (fun c => isCode c || c.before args0 about1) = true := by decide +kernel
set_option maxRecDepth 65536 in
theorem w_t3 : ((words1.drop 24).drop 24).all (fun c => isCode c || c.before args0 about1) = true := by decide +kernel
theorem w_tables : (allAtoms (Jvm.Cond.code x code maxLocals ret :: tables_1)).before args0 about1 = true := by
  rw [allAtoms_all]
  show words1.all (fun c => c.before args0 about1) = true
  refine all_split ?_ w_codes
  rw [← List.take_append_drop 24 words1, List.all_append, w_t1, ← List.take_append_drop 24 (words1.drop 24), List.all_append, w_t2, w_t3]
  rfl
set_option maxRecDepth 65536 in
theorem w_case : (Jvm.Cond.and given_1 narrow_1).before args0 about1 = true := by decide +kernel
theorem w_applies : (headSpec (Jvm.Cond.code x code maxLocals ret :: tables_1) room_1).applies x e0.platform about1 = true :=
  (Spec.applies_iff w_frames).mpr ⟨w_running, w_runnable, w_alone, w_named, w_hears, w_ripe, w_room, w_tables⟩
theorem atStart : AtStart classFile x code maxLocals ret World_1 tables_1 room_1 Calls_1 rest_1 Pre_1 launch0 p0 e0 about1 theMethod args0 below0 :=
  ⟨lists_1, trivial, launch0.admits_env _ _ _, launch0.least_env, fairChoices_fair.cas, fairChoices_fair.clock, w_frames, w_args, w_heap, w_applies, trivial, trivial, w_case⟩
end start1
theorem witness_1 : WitnessClaimed_1 := ⟨start1.p0, start1.e0, start1.about1, start1.theMethod, start1.args0, start1.below0, start1.atStart⟩
end Jvm.Pilot.@@N@@

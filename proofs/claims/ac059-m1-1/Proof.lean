import JvmDerived
import JvmDerived.Pilot.@@N@@Statement
import JvmDerived.Pilot.@@N@@Code
set_option linter.unusedVariables false
set_option linter.unusedSimpArgs false
namespace Jvm.RoadKit
open Sem ClassFile Op Lib Jvm.Stand Jvm.Free Jvm.LawKit
section New
variable {p : Program} {l : Launch} {e : Env} {R : Room} {s : State} {m : MethodId} {args : Array Value} {below : List Frame} {meth : Method} {c : Code} {T : State} {locs : List Loc} {cells slots : Nat}
theorem retI (X : Stand p l e R s m args below meth c T locs cells slots) (hx : p.tables.exec = Jvm.exec) {pc : Nat} {Ls : Array Slot} {z : Int32} {rest : List Value} (hret : meth.sig.returnType = some .int) (hd : decode c.code pc = .ok (.ireturn, 1)) {fs : List Frame}
    (hl : ∀ (f : JFrame) (acts : List Action), f.method = m → f.locked = none → f.entered = [] → (doReturn e (T.setTop f) acts (some (.int z))).1 = T.setFrames fs) : Steps p.tables e below (T.setTop (mkF m pc Ls (.int z :: rest))) (T.setFrames fs) := by
  have hm' : T.vm.method? m = some meth := X.method'
  have hn : narrow .int (.int z) = .int z := rfl
  show Steps p.tables e below (T.setTop { method := m, pc := pc, locals := Ls, stack := _ :: rest, locked := none }) _
  jvm_step X.here [X.here.top, hx, hd, hm', hret, hn]
  first | (intro acts; rw [hl _ acts rfl rfl rfl]) | rw [hl _ _ rfl rfl rfl]
  exact Steps.refl _
end New
end Jvm.RoadKit
namespace Jvm.RoadKit
open Sem ClassFile Op Lib Jvm.Stand Jvm.Free Jvm.LawKit
theorem own_staKeep0 {Z : State} {h h' : Heap} {C n d : String} {v : Value} (F : Sta Z h C n d v) (K : Keep h h' []) : Sta Z h' C n d v := by
  obtain ⟨cf, i, k, f, st, cell, h1, h2, h3, h4, h5, r⟩ := F
  exact ⟨cf, i, k, f, st, cell, h1, h2, h3, h4, K.2.1 _ _ h5 nin0, r⟩
theorem Arr.keep {Z : State} {h h' : Heap} {a : Addr} {c : Cell} {ty : FieldType} {ws : List Addr} (F : Arr Z h a c ty) (K : Keep h h' ws) (q : a ∉ ws) : Arr Z h' a c ty := ⟨K.2.1 _ _ F.1 q, F.2⟩
theorem own_narR {v : Value} (h : v.isRef = true) {t : FieldType} (ht : refKind t = true) : narrow t v = v := by rcases ref_cases h with rfl | ⟨a, rfl⟩ <;> cases t <;> first | rfl | cases ht
theorem own_fitR {v : Value} (h : v.isRef = true) {t : FieldType} (ht : refKind t = true) : fits t v = true := by rcases ref_cases h with rfl | ⟨a, rfl⟩ <;> cases t <;> first | rfl | cases ht
end Jvm.RoadKit
namespace Jvm.Pilot.@@N@@
open Jvm Jvm.ClassFile Sem Op Lib Jvm.Free Jvm.Stand Jvm.LawKit Jvm.RoadKit Bundle Jvm.Pilot.@@N@@.Jvm.D
def Q2 (Z : State) (a1 : Addr) (p2 p3 : Int32) (a4 : Addr) (h0 : Heap) (n0 : Nat) (v : Option Value) (h : Heap) (L : List Loc) : Prop := v = none ∧ Fr n0 L ∧ Keep h0 h [a1] ∧ Exa Z h a1 "com/example/lineweave/lineweave/explore/State$ThreadState" ∧ Fld Z h a1 "com/example/lineweave/lineweave/explore/State$ThreadState" "callsMade" "I" (.int p2) ∧ Fld Z h a1 "com/example/lineweave/lineweave/explore/State$ThreadState" "method" "Lcom/example/lineweave/lineweave/language/Procedure;" .null ∧ Fld Z h a1 "com/example/lineweave/lineweave/explore/State$ThreadState" "next" "I" (.int p3) ∧ Fld Z h a1 "com/example/lineweave/lineweave/explore/State$ThreadState" "locals" "[Lcom/example/lineweave/lineweave/language/Value;" (.ref a4)
theorem d2_0 : decode prog_24_method_1_code 0 = .ok (.aload_n 0, 1) := by decide +kernel
theorem d2_1 : decode prog_24_method_1_code 1 = .ok (.invokespecial 1, 3) := by decide +kernel
theorem d2_4 : decode prog_24_method_1_code 4 = .ok (.aload_n 0, 1) := by decide +kernel
theorem d2_5 : decode prog_24_method_1_code 5 = .ok (.iload_n 1, 1) := by decide +kernel
theorem d2_6 : decode prog_24_method_1_code 6 = .ok (.putfield 7, 3) := by decide +kernel
theorem d2_9 : decode prog_24_method_1_code 9 = .ok (.aload_n 0, 1) := by decide +kernel
theorem d2_10 : decode prog_24_method_1_code 10 = .ok (.aload_n 2, 1) := by decide +kernel
theorem d2_11 : decode prog_24_method_1_code 11 = .ok (.putfield 13, 3) := by decide +kernel
theorem d2_14 : decode prog_24_method_1_code 14 = .ok (.aload_n 0, 1) := by decide +kernel
theorem d2_15 : decode prog_24_method_1_code 15 = .ok (.iload_n 3, 1) := by decide +kernel
theorem d2_16 : decode prog_24_method_1_code 16 = .ok (.putfield 17, 3) := by decide +kernel
theorem d2_19 : decode prog_24_method_1_code 19 = .ok (.aload_n 0, 1) := by decide +kernel
theorem d2_20 : decode prog_24_method_1_code 20 = .ok (.aload 4, 2) := by decide +kernel
theorem d2_22 : decode prog_24_method_1_code 22 = .ok (.putfield 20, 3) := by decide +kernel
theorem d2_25 : decode prog_24_method_1_code 25 = .ok (.return_, 1) := by decide +kernel
theorem pn_2 : plainName "com/example/lineweave/lineweave/explore/State$ThreadState" = true := by first | (simp [plainName, overriddenIn]; done) | decide +kernel
theorem ef_2 (m : MethodId) (x0 : Addr) (x1 : Int32) (x3 : Int32) (x4 : Addr) : entryFrame m #[(.ref x0), (.int x1), .null, (.int x3), (.ref x4)] 5 = mkF m 0 #[.val (.ref x0), .val (.int x1), .val .null, .val (.int x3), .val (.ref x4)] [] := by first | (simp [entryFrame, mkF, argsToLocals, Value.category]; done) | rfl
set_option maxRecDepth 65536 in
set_option maxHeartbeats 40000000 in
theorem rm2 (l : Launch) (Z : State) (a0 : Array Value) (hw : ∀ d ∈ tables_1, d.before a0 Z = true) (ws : List Jvm.Cond) (a1 : Addr) (p2 p3 : Int32) (a4 : Addr) (u1 u2 u3 u4 : Value) (h0 : Heap) (n0 : Nat) (Z0 : n0 ≤ h0.size) (E1 : Exa Z h0 a1 "com/example/lineweave/lineweave/explore/State$ThreadState") (g1 : n0 ≤ a1) (F_callsMade : Fld Z h0 a1 "com/example/lineweave/lineweave/explore/State$ThreadState" "callsMade" "I" u1) (F_method : Fld Z h0 a1 "com/example/lineweave/lineweave/explore/State$ThreadState" "method" "Lcom/example/lineweave/lineweave/language/Procedure;" u2) (F_next : Fld Z h0 a1 "com/example/lineweave/lineweave/explore/State$ThreadState" "next" "I" u3) (F_locals : Fld Z h0 a1 "com/example/lineweave/lineweave/explore/State$ThreadState" "locals" "[Lcom/example/lineweave/lineweave/language/Value;" u4) :
    MetFree l (⟨"com/example/lineweave/lineweave/explore/State$ThreadState", "<init>", "(ILcom/example/lineweave/lineweave/language/Procedure;I[Lcom/example/lineweave/lineweave/language/Value;)V"⟩ : MethodName) (head1 (Jvm.Cond.code (⟨"com/example/lineweave/lineweave/explore/State$ThreadState", "<init>", "(ILcom/example/lineweave/lineweave/language/Procedure;I[Lcom/example/lineweave/lineweave/language/Value;)V"⟩ : MethodName) prog_24_method_1_code 5 none :: ws) ({ frames := 1, cells := 0, slots := 0, locals := 12 } : Room)) (fun a U => a = #[(.ref a1), (.int p2), .null, (.int p3), (.ref a4)] ∧ Z.Warmed39 U.vm ∧ U.heap = h0) (fun _ _ _ _ _ => True) (fun _ U o U' => ∃ v L, o = .returned v ∧ Q2 Z a1 p2 p3 a4 h0 n0 v U'.heap L ∧ FrameEnd U o U' L ({ frames := 1, cells := 0, slots := 0, locals := 12 } : Room).cells ({ frames := 1, cells := 0, slots := 0, locals := 12 } : Room).slots) := by
  refine MetFree.of_bodySF (plainFor_of_name pn_2) hisR ?_
  intro p e s m args below meth c s₁ Bd hml0 hP hK
  obtain ⟨rfl, hZ, hh⟩ := hP
  have hx := Bd.exec
  have hby := Bd.bytes
  have hml : c.maxLocals = 5 := hml0
  have hown : s.vm.findClass "com/example/lineweave/lineweave/explore/State$ThreadState" = some m.cls := findClass_of_methodNamed Bd.named
  have hnm := (name_of_methodNamed Bd.named Bd.method).1
  have X0 : Stand p l e ({ frames := 1, cells := 0, slots := 0, locals := 12 } : Room) s m #[(.ref a1), (.int p2), .null, (.int p3), (.ref a4)] below meth c s₁ [] 0 0 := Stand.of_body Bd
  have e0 : s₁.heap = h0 := by rw [← hh, Bd.state]; rfl
  have N0 := Fr.nil n0
  have J0 : ∀ t, Steps p.tables e below (s₁.setTop (mkF m 0 #[.val (.ref a1), .val (.int p2), .val .null, .val (.int p3), .val (.ref a4)] [])) t → Steps p.tables e below (s₁.setTop (entryFrame m #[(.ref a1), (.int p2), .null, (.int p3), (.ref a4)] 5)) t := fun t k => castTop (ef_2 m a1 p2 p3 a4) k
  obtain ⟨T1, X1, e1, st1⟩ := initO X0 hx hZ hown (hw _ (List.mem_of_getElem? (i := 11) rfl)) (hw _ (List.mem_of_getElem? (i := 12) rfl)) (hw _ (List.mem_of_getElem? (i := 13) rfl)) e0 (g := (mkF m 1 #[.val (.ref a1), .val (.int p2), .val .null, .val (.int p3), .val (.ref a4)] [(.ref a1)])) rfl (by rw [hml]; rfl) rfl (hb hby d2_1) (by decide) (W := 0) (by show 2 * 0 + _ ≤ _; exact Nat.le_of_eq rfl) (by decide)
  obtain ⟨T2, h2, X2, e2, W2, st2⟩ := putF X1 hx hZ hown (host := "") (Or.inl (hw _ (List.mem_of_getElem? (i := 14) rfl))) Via.refl e1 F_callsMade E1 (Or.inr ⟨(hw _ (List.mem_of_getElem? (i := 15) rfl)), rfl, hnm⟩) (hw _ (List.mem_of_getElem? (i := 5) rfl)) (ty := .int) (by decide) rfl rfl (g := (mkF m 6 #[.val (.ref a1), .val (.int p2), .val .null, .val (.int p3), .val (.ref a4)] [(.int p2), (.ref a1)])) rfl rfl (hb hby d2_6)
  have Fw2 := F_callsMade.same W2
  have N2 := Fr.snoc X2 N0 g1
  obtain ⟨T3, h3, X3, e3, W3, st3⟩ := putF X2 hx hZ hown (host := "") (Or.inl (hw _ (List.mem_of_getElem? (i := 16) rfl))) Via.refl e2 (F_method.other W2 (Or.inr (slot_ne (Or.inr (hw _ (List.mem_of_getElem? (i := 17) rfl))) (Or.inr (hw _ (List.mem_of_getElem? (i := 15) rfl))) (by decide) (t := (.object "com/example/lineweave/lineweave/language/Procedure")) (t' := .int) (by decide) (by decide)))) (E1.wr W2) (Or.inr ⟨(hw _ (List.mem_of_getElem? (i := 17) rfl)), rfl, hnm⟩) (hw _ (List.mem_of_getElem? (i := 5) rfl)) (ty := (.object "com/example/lineweave/lineweave/language/Procedure")) (by decide) rfl rfl (g := (mkF m 11 #[.val (.ref a1), .val (.int p2), .val .null, .val (.int p3), .val (.ref a4)] [.null, (.ref a1)])) rfl rfl (hb hby d2_11)
  have Fw3 := (F_method.other W2 (Or.inr (slot_ne (Or.inr (hw _ (List.mem_of_getElem? (i := 17) rfl))) (Or.inr (hw _ (List.mem_of_getElem? (i := 15) rfl))) (by decide) (t := (.object "com/example/lineweave/lineweave/language/Procedure")) (t' := .int) (by decide) (by decide)))).same W3
  have N3 := Fr.snoc X3 N2 g1
  obtain ⟨T4, h4, X4, e4, W4, st4⟩ := putF X3 hx hZ hown (host := "") (Or.inl (hw _ (List.mem_of_getElem? (i := 18) rfl))) Via.refl e3 ((F_next.other W2 (Or.inr (slot_ne (Or.inr (hw _ (List.mem_of_getElem? (i := 19) rfl))) (Or.inr (hw _ (List.mem_of_getElem? (i := 15) rfl))) (by decide) (t := .int) (t' := .int) (by decide) (by decide)))).other W3 (Or.inr (slot_ne (Or.inr (hw _ (List.mem_of_getElem? (i := 19) rfl))) (Or.inr (hw _ (List.mem_of_getElem? (i := 17) rfl))) (by decide) (t := .int) (t' := (.object "com/example/lineweave/lineweave/language/Procedure")) (by decide) (by decide)))) ((E1.wr W2).wr W3) (Or.inr ⟨(hw _ (List.mem_of_getElem? (i := 19) rfl)), rfl, hnm⟩) (hw _ (List.mem_of_getElem? (i := 5) rfl)) (ty := .int) (by decide) rfl rfl (g := (mkF m 16 #[.val (.ref a1), .val (.int p2), .val .null, .val (.int p3), .val (.ref a4)] [(.int p3), (.ref a1)])) rfl rfl (hb hby d2_16)
  have Fw4 := ((F_next.other W2 (Or.inr (slot_ne (Or.inr (hw _ (List.mem_of_getElem? (i := 19) rfl))) (Or.inr (hw _ (List.mem_of_getElem? (i := 15) rfl))) (by decide) (t := .int) (t' := .int) (by decide) (by decide)))).other W3 (Or.inr (slot_ne (Or.inr (hw _ (List.mem_of_getElem? (i := 19) rfl))) (Or.inr (hw _ (List.mem_of_getElem? (i := 17) rfl))) (by decide) (t := .int) (t' := (.object "com/example/lineweave/lineweave/language/Procedure")) (by decide) (by decide)))).same W4
  have N4 := Fr.snoc X4 N3 g1
  obtain ⟨T5, h5, X5, e5, W5, st5⟩ := putF X4 hx hZ hown (host := "") (Or.inl (hw _ (List.mem_of_getElem? (i := 20) rfl))) Via.refl e4 (((F_locals.other W2 (Or.inr (slot_ne (Or.inr (hw _ (List.mem_of_getElem? (i := 21) rfl))) (Or.inr (hw _ (List.mem_of_getElem? (i := 15) rfl))) (by decide) (t := (.array (.object "com/example/lineweave/lineweave/language/Value"))) (t' := .int) (by decide) (by decide)))).other W3 (Or.inr (slot_ne (Or.inr (hw _ (List.mem_of_getElem? (i := 21) rfl))) (Or.inr (hw _ (List.mem_of_getElem? (i := 17) rfl))) (by decide) (t := (.array (.object "com/example/lineweave/lineweave/language/Value"))) (t' := (.object "com/example/lineweave/lineweave/language/Procedure")) (by decide) (by decide)))).other W4 (Or.inr (slot_ne (Or.inr (hw _ (List.mem_of_getElem? (i := 21) rfl))) (Or.inr (hw _ (List.mem_of_getElem? (i := 19) rfl))) (by decide) (t := (.array (.object "com/example/lineweave/lineweave/language/Value"))) (t' := .int) (by decide) (by decide)))) (((E1.wr W2).wr W3).wr W4) (Or.inr ⟨(hw _ (List.mem_of_getElem? (i := 21) rfl)), rfl, hnm⟩) (hw _ (List.mem_of_getElem? (i := 5) rfl)) (ty := (.array (.object "com/example/lineweave/lineweave/language/Value"))) (by decide) rfl rfl (g := (mkF m 22 #[.val (.ref a1), .val (.int p2), .val .null, .val (.int p3), .val (.ref a4)] [(.ref a4), (.ref a1)])) rfl rfl (hb hby d2_22)
  have Fw5 := (((F_locals.other W2 (Or.inr (slot_ne (Or.inr (hw _ (List.mem_of_getElem? (i := 21) rfl))) (Or.inr (hw _ (List.mem_of_getElem? (i := 15) rfl))) (by decide) (t := (.array (.object "com/example/lineweave/lineweave/language/Value"))) (t' := .int) (by decide) (by decide)))).other W3 (Or.inr (slot_ne (Or.inr (hw _ (List.mem_of_getElem? (i := 21) rfl))) (Or.inr (hw _ (List.mem_of_getElem? (i := 17) rfl))) (by decide) (t := (.array (.object "com/example/lineweave/lineweave/language/Value"))) (t' := (.object "com/example/lineweave/lineweave/language/Procedure")) (by decide) (by decide)))).other W4 (Or.inr (slot_ne (Or.inr (hw _ (List.mem_of_getElem? (i := 21) rfl))) (Or.inr (hw _ (List.mem_of_getElem? (i := 19) rfl))) (by decide) (t := (.array (.object "com/example/lineweave/lineweave/language/Value"))) (t' := .int) (by decide) (by decide)))).same W5
  have N5 := Fr.snoc X5 N4 g1
  obtain ⟨fs, hr, hrun, hended, hW, hsame⟩ := X5.leave (v := none) (fun _ => rfl)
  refine ⟨_, _, J0 _ ?_, hrun, hended, _, _, rfl, ?_, ⟨_, rfl⟩, hW, hsame.mono (by decide) (by decide)⟩
  · show Steps p.tables e below (s₁.setTop (mkF m 0 #[.val (.ref a1), .val (.int p2), .val .null, .val (.int p3), .val (.ref a4)] [])) _
    refine XS.aloadN X0.here hx rfl (hb hby d2_0) rfl rfl ?_
    show Steps p.tables e below (s₁.setTop (mkF m 1 #[.val (.ref a1), .val (.int p2), .val .null, .val (.int p3), .val (.ref a4)] [(.ref a1)])) _
    refine st1 _ ?_
    show Steps p.tables e below (T1.setTop (mkF m 4 #[.val (.ref a1), .val (.int p2), .val .null, .val (.int p3), .val (.ref a4)] [])) _
    refine XS.aloadN X1.here hx rfl (hb hby d2_4) rfl rfl ?_
    show Steps p.tables e below (T1.setTop (mkF m 5 #[.val (.ref a1), .val (.int p2), .val .null, .val (.int p3), .val (.ref a4)] [(.ref a1)])) _
    refine XS.iloadN X1.here hx rfl (hb hby d2_5) rfl ?_
    show Steps p.tables e below (T1.setTop (mkF m 6 #[.val (.ref a1), .val (.int p2), .val .null, .val (.int p3), .val (.ref a4)] [(.int p2), (.ref a1)])) _
    refine st2 _ ?_
    show Steps p.tables e below (T2.setTop (mkF m 9 #[.val (.ref a1), .val (.int p2), .val .null, .val (.int p3), .val (.ref a4)] [])) _
    refine XS.aloadN X2.here hx rfl (hb hby d2_9) rfl rfl ?_
    show Steps p.tables e below (T2.setTop (mkF m 10 #[.val (.ref a1), .val (.int p2), .val .null, .val (.int p3), .val (.ref a4)] [(.ref a1)])) _
    refine XS.aloadN X2.here hx rfl (hb hby d2_10) rfl rfl ?_
    show Steps p.tables e below (T2.setTop (mkF m 11 #[.val (.ref a1), .val (.int p2), .val .null, .val (.int p3), .val (.ref a4)] [.null, (.ref a1)])) _
    refine st3 _ ?_
    show Steps p.tables e below (T3.setTop (mkF m 14 #[.val (.ref a1), .val (.int p2), .val .null, .val (.int p3), .val (.ref a4)] [])) _
    refine XS.aloadN X3.here hx rfl (hb hby d2_14) rfl rfl ?_
    show Steps p.tables e below (T3.setTop (mkF m 15 #[.val (.ref a1), .val (.int p2), .val .null, .val (.int p3), .val (.ref a4)] [(.ref a1)])) _
    refine XS.iloadN X3.here hx rfl (hb hby d2_15) rfl ?_
    show Steps p.tables e below (T3.setTop (mkF m 16 #[.val (.ref a1), .val (.int p2), .val .null, .val (.int p3), .val (.ref a4)] [(.int p3), (.ref a1)])) _
    refine st4 _ ?_
    show Steps p.tables e below (T4.setTop (mkF m 19 #[.val (.ref a1), .val (.int p2), .val .null, .val (.int p3), .val (.ref a4)] [])) _
    refine XS.aloadN X4.here hx rfl (hb hby d2_19) rfl rfl ?_
    show Steps p.tables e below (T4.setTop (mkF m 20 #[.val (.ref a1), .val (.int p2), .val .null, .val (.int p3), .val (.ref a4)] [(.ref a1)])) _
    refine XS.aload X4.here hx rfl (hb hby d2_20) rfl rfl ?_
    show Steps p.tables e below (T4.setTop (mkF m 22 #[.val (.ref a1), .val (.int p2), .val .null, .val (.int p3), .val (.ref a4)] [(.ref a4), (.ref a1)])) _
    refine st5 _ ?_
    show Steps p.tables e below (T5.setTop (mkF m 25 #[.val (.ref a1), .val (.int p2), .val .null, .val (.int p3), .val (.ref a4)] [])) _
    exact X5.returnOut hx Bd.returns (hb hby d2_25) hr
  · show Q2 Z a1 p2 p3 a4 h0 n0 _ T5.heap _
    rw [e5]
    exact ⟨rfl, N5, (((((Keep.refl h0 [a1]).wr W2 (Or.inl (List.mem_of_getElem? (i := 0) rfl))).wr W3 (Or.inl (List.mem_of_getElem? (i := 0) rfl))).wr W4 (Or.inl (List.mem_of_getElem? (i := 0) rfl))).wr W5 (Or.inl (List.mem_of_getElem? (i := 0) rfl))), ((((E1.wr W2).wr W3).wr W4).wr W5), (((Fw2.other W3 (Or.inr (slot_ne (Or.inr (hw _ (List.mem_of_getElem? (i := 15) rfl))) (Or.inr (hw _ (List.mem_of_getElem? (i := 17) rfl))) (by decide) (t := .int) (t' := (.object "com/example/lineweave/lineweave/language/Procedure")) (by decide) (by decide)))).other W4 (Or.inr (slot_ne (Or.inr (hw _ (List.mem_of_getElem? (i := 15) rfl))) (Or.inr (hw _ (List.mem_of_getElem? (i := 19) rfl))) (by decide) (t := .int) (t' := .int) (by decide) (by decide)))).other W5 (Or.inr (slot_ne (Or.inr (hw _ (List.mem_of_getElem? (i := 15) rfl))) (Or.inr (hw _ (List.mem_of_getElem? (i := 21) rfl))) (by decide) (t := .int) (t' := (.array (.object "com/example/lineweave/lineweave/language/Value"))) (by decide) (by decide)))), ((Fw3.other W4 (Or.inr (slot_ne (Or.inr (hw _ (List.mem_of_getElem? (i := 17) rfl))) (Or.inr (hw _ (List.mem_of_getElem? (i := 19) rfl))) (by decide) (t := (.object "com/example/lineweave/lineweave/language/Procedure")) (t' := .int) (by decide) (by decide)))).other W5 (Or.inr (slot_ne (Or.inr (hw _ (List.mem_of_getElem? (i := 17) rfl))) (Or.inr (hw _ (List.mem_of_getElem? (i := 21) rfl))) (by decide) (t := (.object "com/example/lineweave/lineweave/language/Procedure")) (t' := (.array (.object "com/example/lineweave/lineweave/language/Value"))) (by decide) (by decide)))), (Fw4.other W5 (Or.inr (slot_ne (Or.inr (hw _ (List.mem_of_getElem? (i := 19) rfl))) (Or.inr (hw _ (List.mem_of_getElem? (i := 21) rfl))) (by decide) (t := .int) (t' := (.array (.object "com/example/lineweave/lineweave/language/Value"))) (by decide) (by decide)))), Fw5⟩
def Q1 (Z : State) (p1 : Int32) (w3 : Addr) (h0 : Heap) (n0 : Nat) (v : Option Value) (h : Heap) (L : List Loc) : Prop := ∃ b, v = some (.ref b) ∧ Fr n0 L ∧ h0.size ≤ b ∧ Keep h0 h [] ∧ Exa Z h b "com/example/lineweave/lineweave/explore/State$ThreadState" ∧ Fld Z h b "com/example/lineweave/lineweave/explore/State$ThreadState" "callsMade" "I" (.int p1) ∧ Fld Z h b "com/example/lineweave/lineweave/explore/State$ThreadState" "method" "Lcom/example/lineweave/lineweave/language/Procedure;" .null ∧ Fld Z h b "com/example/lineweave/lineweave/explore/State$ThreadState" "next" "I" (.int 0) ∧ Fld Z h b "com/example/lineweave/lineweave/explore/State$ThreadState" "locals" "[Lcom/example/lineweave/lineweave/language/Value;" (.ref w3)
theorem d1_0 : decode prog_24_method_3_code 0 = .ok (.new 8, 3) := by decide +kernel
theorem d1_3 : decode prog_24_method_3_code 3 = .ok (.dup, 1) := by decide +kernel
theorem d1_4 : decode prog_24_method_3_code 4 = .ok (.iload_n 0, 1) := by decide +kernel
theorem d1_5 : decode prog_24_method_3_code 5 = .ok (.aconst_null, 1) := by decide +kernel
theorem d1_6 : decode prog_24_method_3_code 6 = .ok (.iconst 0, 1) := by decide +kernel
theorem d1_7 : decode prog_24_method_3_code 7 = .ok (.getstatic 33, 3) := by decide +kernel
theorem d1_10 : decode prog_24_method_3_code 10 = .ok (.invokespecial 30, 3) := by decide +kernel
theorem pd_24 : parseMethodDescriptor "(ILcom/example/lineweave/lineweave/language/Procedure;I[Lcom/example/lineweave/lineweave/language/Value;)V" = some ⟨[.int, (.object "com/example/lineweave/lineweave/language/Procedure"), .int, (.array (.object "com/example/lineweave/lineweave/language/Value"))], none⟩ := by decide +kernel
theorem d1_13 : decode prog_24_method_3_code 13 = .ok (.areturn, 1) := by decide +kernel
theorem ef_1 (m : MethodId) (x0 : Int32) : entryFrame m #[(.int x0)] 1 = mkF m 0 #[.val (.int x0)] [] := by first | (simp [entryFrame, mkF, argsToLocals, Value.category]; done) | rfl
set_option maxRecDepth 65536 in
set_option maxHeartbeats 40000000 in
theorem rm1 (l : Launch) (Z : State) (a0 : Array Value) (hw : ∀ d ∈ tables_1, d.before a0 Z = true) (ws : List Jvm.Cond) (p1 : Int32) (w3 : Addr) (h0 : Heap) (n0 : Nat) (Z0 : n0 ≤ h0.size) (S : Sta Z h0 "com/example/lineweave/lineweave/explore/State$ThreadState" "NO_LOCALS" "[Lcom/example/lineweave/lineweave/language/Value;" (.ref w3)) :
    MetFree l (⟨"com/example/lineweave/lineweave/explore/State$ThreadState", "between", "(I)Lcom/example/lineweave/lineweave/explore/State$ThreadState;"⟩ : MethodName) (head1 (Jvm.Cond.code (⟨"com/example/lineweave/lineweave/explore/State$ThreadState", "between", "(I)Lcom/example/lineweave/lineweave/explore/State$ThreadState;"⟩ : MethodName) prog_24_method_3_code 1 (some (.object "com/example/lineweave/lineweave/explore/State$ThreadState")) :: ws) ({ frames := 2, cells := 1, slots := 4, locals := 29 } : Room)) (fun a U => a = #[(.int p1)] ∧ Z.Warmed39 U.vm ∧ U.heap = h0) (fun _ _ _ _ _ => True) (fun _ U o U' => ∃ v L, o = .returned v ∧ Q1 Z p1 w3 h0 n0 v U'.heap L ∧ FrameEnd U o U' L ({ frames := 2, cells := 1, slots := 4, locals := 29 } : Room).cells ({ frames := 2, cells := 1, slots := 4, locals := 29 } : Room).slots) := by
  refine MetFree.of_bodySF (plainFor_of_name pn_2) hisR ?_
  intro p e s m args below meth c s₁ Bd hml0 hP hK
  obtain ⟨rfl, hZ, hh⟩ := hP
  have hx := Bd.exec
  have hby := Bd.bytes
  have hml : c.maxLocals = 1 := hml0
  have hown : s.vm.findClass "com/example/lineweave/lineweave/explore/State$ThreadState" = some m.cls := findClass_of_methodNamed Bd.named
  have hnm := (name_of_methodNamed Bd.named Bd.method).1
  have X0 : Stand p l e ({ frames := 2, cells := 1, slots := 4, locals := 29 } : Room) s m #[(.int p1)] below meth c s₁ [] 0 0 := Stand.of_body Bd
  have e0 : s₁.heap = h0 := by rw [← hh, Bd.state]; rfl
  have N0 := Fr.nil n0
  have J0 : ∀ t, Steps p.tables e below (s₁.setTop (mkF m 0 #[.val (.int p1)] [])) t → Steps p.tables e below (s₁.setTop (entryFrame m #[(.int p1)] 1)) t := fun t k => castTop (ef_1 m p1) k
  obtain ⟨T1, h1, X1, e1, E1, A1, D1, -, st1⟩ := newO X0 hx hZ hown (hw _ (List.mem_of_getElem? (i := 4) rfl)) (hw _ (List.mem_of_getElem? (i := 5) rfl)) (hw _ (List.mem_of_getElem? (i := 2) rfl)) e0 (g := (mkF m 0 #[.val (.int p1)] [])) rfl (hb hby d1_0) (by decide) (by decide)
  obtain ⟨b1, g1⟩ : ∃ z, z = h0.size := ⟨_, rfl⟩
  rw [← g1] at A1 D1 st1
  have F1_callsMade : Fld Z h1 b1 "com/example/lineweave/lineweave/explore/State$ThreadState" "callsMade" "I" (.int (0 : Int32)) := D1 (Or.inr (hw _ (List.mem_of_getElem? (i := 15) rfl))) (ty := .int) (by decide)
  have F1_method : Fld Z h1 b1 "com/example/lineweave/lineweave/explore/State$ThreadState" "method" "Lcom/example/lineweave/lineweave/language/Procedure;" .null := D1 (Or.inr (hw _ (List.mem_of_getElem? (i := 17) rfl))) (ty := (.object "com/example/lineweave/lineweave/language/Procedure")) (by decide)
  have F1_next : Fld Z h1 b1 "com/example/lineweave/lineweave/explore/State$ThreadState" "next" "I" (.int (0 : Int32)) := D1 (Or.inr (hw _ (List.mem_of_getElem? (i := 19) rfl))) (ty := .int) (by decide)
  have F1_locals : Fld Z h1 b1 "com/example/lineweave/lineweave/explore/State$ThreadState" "locals" "[Lcom/example/lineweave/lineweave/language/Value;" .null := D1 (Or.inr (hw _ (List.mem_of_getElem? (i := 21) rfl))) (ty := (.array (.object "com/example/lineweave/lineweave/language/Value"))) (by decide)
  obtain ⟨T2, X2, e2, st2⟩ := getS2 X1 hx hZ hown (host := "") (Or.inl (hw _ (List.mem_of_getElem? (i := 6) rfl))) Via.refl e1 (S.ext E1) (g := (mkF m 7 #[.val (.int p1)] [(.int (0 : Int32)), .null, (.int p1), (.ref b1), (.ref b1)])) rfl (hb hby d1_7)
  obtain ⟨_, _, ⟨T3, L3, k3, n3⟩, -, X3, ⟨Lc3, hQ3, l3, y3, z3⟩, st3⟩ := X2.specialBack hx (y := (⟨"com/example/lineweave/lineweave/explore/State$ThreadState", "<init>", "(ILcom/example/lineweave/lineweave/language/Procedure;I[Lcom/example/lineweave/lineweave/language/Value;)V"⟩ : MethodName)) rfl hown (mvT hZ (hw _ (List.mem_of_getElem? (i := 8) rfl))) (mvT hZ (hw _ (List.mem_of_getElem? (i := 9) rfl))) (mvT hZ (hw _ (List.mem_of_getElem? (i := 10) rfl))) (by decide) (backOf (W := 1) (rm2 l Z a0 hw [] b1 p1 (0 : Int32) w3 _ _ _ _ h1 n0 (Nat.le_trans Z0 E1.1) A1 (Nat.le_trans Z0 (Nat.le_of_eq g1.symm)) F1_callsMade F1_method F1_next F1_locals) hZ (hw _ (List.mem_of_getElem? (i := 10) rfl)) (hw _ (List.mem_of_getElem? (i := 2) rfl)) (by decide) (by decide)) (g := (mkF m 10 #[.val (.int p1)] [(.ref w3), (.int (0 : Int32)), .null, (.int p1), (.ref b1), (.ref b1)])) rfl (by rw [hml]; rfl) (Steps.refl _) (a := b1) (argsL := [(.int p1), .null, (.int (0 : Int32)), (.ref w3)]) (rest := [(.ref b1)]) (lenOf pd_24 rfl) rfl (by show 2 * 0 + _ ≤ _; exact Nat.le_of_eq rfl) (hb hby d1_10) (fun _ _ => ⟨rfl, e2, (by decide : 1 + 0 ≤ _), (by decide : 4 + 0 ≤ _)⟩)
  dsimp only [Pt.U, Pt.locs, Pt.cells, Pt.slots] at X3 l3 y3 z3 st3 hQ3
  subst l3 y3 z3
  obtain ⟨rfl, N3q, K3, E3q, F3_callsMade, F3_method, F3_next, F3_locals⟩ := hQ3
  have N3 := Fr.app N0 N3q
  obtain ⟨fs, hr, hrun, hended, hW, hsame⟩ := X3.leave (v := some (.ref b1)) (fun h => by rw [Bd.returns] at h; cases h)
  refine ⟨_, _, J0 _ ?_, hrun, hended, _, _, rfl, ?_, ⟨_, rfl⟩, hW, hsame.mono (by decide) (by decide)⟩
  · show Steps p.tables e below (s₁.setTop (mkF m 0 #[.val (.int p1)] [])) _
    refine st1 _ ?_
    show Steps p.tables e below (T1.setTop (mkF m 3 #[.val (.int p1)] [(.ref b1)])) _
    refine XS.dup X1.here hx rfl (hb hby d1_3) rfl rfl ?_
    show Steps p.tables e below (T1.setTop (mkF m 4 #[.val (.int p1)] [(.ref b1), (.ref b1)])) _
    refine XS.iloadN X1.here hx rfl (hb hby d1_4) rfl ?_
    show Steps p.tables e below (T1.setTop (mkF m 5 #[.val (.int p1)] [(.int p1), (.ref b1), (.ref b1)])) _
    refine XS.aconstNull X1.here hx rfl (hb hby d1_5) ?_
    show Steps p.tables e below (T1.setTop (mkF m 6 #[.val (.int p1)] [.null, (.int p1), (.ref b1), (.ref b1)])) _
    refine XS.iconst X1.here hx rfl (hb hby d1_6) ?_
    show Steps p.tables e below (T1.setTop (mkF m 7 #[.val (.int p1)] [(.int (0 : Int32)), .null, (.int p1), (.ref b1), (.ref b1)])) _
    refine st2 _ ?_
    show Steps p.tables e below (T2.setTop (mkF m 10 #[.val (.int p1)] [(.ref w3), (.int (0 : Int32)), .null, (.int p1), (.ref b1), (.ref b1)])) _
    refine st3.trans ?_
    show Steps p.tables e below (T3.setTop (mkF m 13 #[.val (.int p1)] [(.ref b1)])) _
    jvm_step X3.here [X3.here.top, hx, (hb hby d1_13), X3.method', Bd.returns, Value.isRef, FieldType.isReference]
    first | (intro acts; rw [hr _ acts rfl rfl rfl]) | rw [hr _ _ rfl rfl rfl]
    exact Steps.refl _
  · show Q1 Z p1 w3 h0 n0 _ T3.heap _
    exact ⟨b1, rfl, N3, (Nat.le_trans (Nat.le_refl h0.size) (Nat.le_of_eq g1.symm)), (((Keep.refl h0 []).ext E1).trans K3 (allS (Or.inr (Nat.le_trans (Nat.le_refl h0.size) (Nat.le_of_eq g1.symm))) all0)), E3q, F3_callsMade, F3_method, F3_next, F3_locals⟩
def Q5 (h0 : Heap) (n0 : Nat) (v : Option Value) (h : Heap) (L : List Loc) : Prop := v = some (.int 0) ∧ Fr n0 L ∧ h = h0
theorem d5_0 : decode prog_24_method_4_code 0 = .ok (.aload_n 0, 1) := by decide +kernel
theorem d5_1 : decode prog_24_method_4_code 1 = .ok (.getfield 13, 3) := by decide +kernel
theorem d5_4 : decode prog_24_method_4_code 4 = .ok (.ifnull 7, 3) := by decide +kernel
theorem d5_11 : decode prog_24_method_4_code 11 = .ok (.iconst 0, 1) := by decide +kernel
theorem d5_12 : decode prog_24_method_4_code 12 = .ok (.ireturn, 1) := by decide +kernel
theorem ef_5 (m : MethodId) (x0 : Addr) : entryFrame m #[(.ref x0)] 1 = mkF m 0 #[.val (.ref x0)] [] := by first | (simp [entryFrame, mkF, argsToLocals, Value.category]; done) | rfl
set_option maxRecDepth 65536 in
set_option maxHeartbeats 40000000 in
theorem rm5 (l : Launch) (Z : State) (a0 : Array Value) (hw : ∀ d ∈ tables_1, d.before a0 Z = true) (ws : List Jvm.Cond) (a1 : Addr) (h0 : Heap) (n0 : Nat) (Z0 : n0 ≤ h0.size) (F_method : Fld Z h0 a1 "com/example/lineweave/lineweave/explore/State$ThreadState" "method" "Lcom/example/lineweave/lineweave/language/Procedure;" .null) :
    MetFree l (⟨"com/example/lineweave/lineweave/explore/State$ThreadState", "inCall", "()Z"⟩ : MethodName) (head1 (Jvm.Cond.code (⟨"com/example/lineweave/lineweave/explore/State$ThreadState", "inCall", "()Z"⟩ : MethodName) prog_24_method_4_code 1 (some .boolean) :: ws) ({ frames := 0, cells := 0, slots := 0, locals := 0 } : Room)) (fun a U => a = #[(.ref a1)] ∧ Z.Warmed39 U.vm ∧ U.heap = h0) (fun _ _ _ _ _ => True) (fun _ U o U' => ∃ v L, o = .returned v ∧ Q5 h0 n0 v U'.heap L ∧ FrameEnd U o U' L ({ frames := 0, cells := 0, slots := 0, locals := 0 } : Room).cells ({ frames := 0, cells := 0, slots := 0, locals := 0 } : Room).slots) := by
  refine MetFree.of_bodySF (plainFor_of_name pn_2) hisR ?_
  intro p e s m args below meth c s₁ Bd hml0 hP hK
  obtain ⟨rfl, hZ, hh⟩ := hP
  have hx := Bd.exec
  have hby := Bd.bytes
  have hml : c.maxLocals = 1 := hml0
  have hown : s.vm.findClass "com/example/lineweave/lineweave/explore/State$ThreadState" = some m.cls := findClass_of_methodNamed Bd.named
  have hnm := (name_of_methodNamed Bd.named Bd.method).1
  have X0 : Stand p l e ({ frames := 0, cells := 0, slots := 0, locals := 0 } : Room) s m #[(.ref a1)] below meth c s₁ [] 0 0 := Stand.of_body Bd
  have e0 : s₁.heap = h0 := by rw [← hh, Bd.state]; rfl
  have N0 := Fr.nil n0
  have J0 : ∀ t, Steps p.tables e below (s₁.setTop (mkF m 0 #[.val (.ref a1)] [])) t → Steps p.tables e below (s₁.setTop (entryFrame m #[(.ref a1)] 1)) t := fun t k => castTop (ef_5 m a1) k
  obtain ⟨T1, X1, e1, st1⟩ := getF X0 hx hZ hown (host := "") (Or.inl (hw _ (List.mem_of_getElem? (i := 16) rfl))) Via.refl e0 F_method (g := (mkF m 1 #[.val (.ref a1)] [(.ref a1)])) rfl rfl (hb hby d5_1)
  obtain ⟨fs, hr, hrun, hended, hW, hsame⟩ := X1.leave (v := some (.int (0 : Int32))) (fun h => by rw [Bd.returns] at h; cases h)
  refine ⟨_, _, J0 _ ?_, hrun, hended, _, _, rfl, ?_, ⟨_, rfl⟩, hW, hsame.mono (by decide) (by decide)⟩
  · show Steps p.tables e below (s₁.setTop (mkF m 0 #[.val (.ref a1)] [])) _
    refine XS.aloadN X0.here hx rfl (hb hby d5_0) rfl rfl ?_
    show Steps p.tables e below (s₁.setTop (mkF m 1 #[.val (.ref a1)] [(.ref a1)])) _
    refine st1 _ ?_
    show Steps p.tables e below (T1.setTop (mkF m 4 #[.val (.ref a1)] [.null])) _
    refine XS.ifnullYes X1.here hx rfl (pc0 := 4) (pc' := 11) rfl (hb hby d5_4) rfl (by decide) (by decide) ?_
    show Steps p.tables e below (T1.setTop (mkF m 11 #[.val (.ref a1)] [])) _
    refine XS.iconst X1.here hx rfl (hb hby d5_11) ?_
    show Steps p.tables e below (T1.setTop (mkF m 12 #[.val (.ref a1)] [(.int (0 : Int32))])) _
    exact retN X1 hx (t := .boolean) Bd.returns (by simp) (hb hby d5_12) hr
  · show Q5 h0 n0 _ T1.heap _
    rw [e1]
    exact ⟨rfl, N0, rfl⟩
def Q4 (h0 : Heap) (n0 : Nat) (v : Option Value) (h : Heap) (L : List Loc) : Prop := v = some (.int 1) ∧ Fr n0 L ∧ h = h0
theorem d4_0 : decode method_2_code 0 = .ok (.aload_n 0, 1) := by decide +kernel
theorem d4_1 : decode method_2_code 1 = .ok (.ifnull 51, 3) := by decide +kernel
theorem d4_4 : decode method_2_code 4 = .ok (.aload_n 0, 1) := by decide +kernel
theorem d4_5 : decode method_2_code 5 = .ok (.getfield 7, 3) := by decide +kernel
theorem d4_8 : decode method_2_code 8 = .ok (.iload_n 1, 1) := by decide +kernel
theorem d4_9 : decode method_2_code 9 = .ok (.if_icmp .ne 43, 3) := by decide +kernel
theorem d4_12 : decode method_2_code 12 = .ok (.aload_n 0, 1) := by decide +kernel
theorem d4_13 : decode method_2_code 13 = .ok (.getfield 13, 3) := by decide +kernel
theorem d4_16 : decode method_2_code 16 = .ok (.ifnonnull 36, 3) := by decide +kernel
theorem d4_19 : decode method_2_code 19 = .ok (.aload_n 0, 1) := by decide +kernel
theorem d4_20 : decode method_2_code 20 = .ok (.invokevirtual 17, 3) := by decide +kernel
theorem pd_44 : parseMethodDescriptor "()Z" = some ⟨[], some .boolean⟩ := by decide +kernel
theorem d4_23 : decode method_2_code 23 = .ok (.ifCond .ne 29, 3) := by decide +kernel
theorem d4_26 : decode method_2_code 26 = .ok (.aload_n 0, 1) := by decide +kernel
theorem d4_27 : decode method_2_code 27 = .ok (.getfield 21, 3) := by decide +kernel
theorem d4_30 : decode method_2_code 30 = .ok (.ifCond .ne 22, 3) := by decide +kernel
theorem d4_33 : decode method_2_code 33 = .ok (.aload_n 0, 1) := by decide +kernel
theorem d4_34 : decode method_2_code 34 = .ok (.getfield 24, 3) := by decide +kernel
theorem d4_37 : decode method_2_code 37 = .ok (.ifnull 15, 3) := by decide +kernel
theorem d4_40 : decode method_2_code 40 = .ok (.aload_n 0, 1) := by decide +kernel
theorem d4_41 : decode method_2_code 41 = .ok (.getfield 24, 3) := by decide +kernel
theorem d4_44 : decode method_2_code 44 = .ok (.arraylength, 1) := by decide +kernel
theorem d4_45 : decode method_2_code 45 = .ok (.ifCond .ne 7, 3) := by decide +kernel
theorem d4_48 : decode method_2_code 48 = .ok (.iconst 1, 1) := by decide +kernel
theorem d4_49 : decode method_2_code 49 = .ok (.goto 4, 3) := by decide +kernel
theorem d4_53 : decode method_2_code 53 = .ok (.ireturn, 1) := by decide +kernel
theorem pn_4 : plainName "com/example/lineweave/lineweave/explore/ThreadStateBetweenPinLaw" = true := by first | (simp [plainName, overriddenIn]; done) | decide +kernel
theorem ef_4 (m : MethodId) (x0 : Addr) (x1 : Int32) : entryFrame m #[(.ref x0), (.int x1)] 2 = mkF m 0 #[.val (.ref x0), .val (.int x1)] [] := by first | (simp [entryFrame, mkF, argsToLocals, Value.category]; done) | rfl
set_option maxRecDepth 65536 in
set_option maxHeartbeats 40000000 in
theorem rm4 (l : Launch) (Z : State) (a0 : Array Value) (hw : ∀ d ∈ tables_1, d.before a0 Z = true) (ws : List Jvm.Cond) (a1 : Addr) (p2 : Int32) (w : Addr) (c0 : Cell) (h0 : Heap) (n0 : Nat) (Z0 : n0 ≤ h0.size) (E1 : Exa Z h0 a1 "com/example/lineweave/lineweave/explore/State$ThreadState") (F_callsMade : Fld Z h0 a1 "com/example/lineweave/lineweave/explore/State$ThreadState" "callsMade" "I" (.int p2)) (F_method : Fld Z h0 a1 "com/example/lineweave/lineweave/explore/State$ThreadState" "method" "Lcom/example/lineweave/lineweave/language/Procedure;" .null) (F_next : Fld Z h0 a1 "com/example/lineweave/lineweave/explore/State$ThreadState" "next" "I" (.int 0)) (F_locals : Fld Z h0 a1 "com/example/lineweave/lineweave/explore/State$ThreadState" "locals" "[Lcom/example/lineweave/lineweave/language/Value;" (.ref w)) (Ar : Arr Z h0 w c0 (.object "com/example/lineweave/lineweave/language/Value")) (Sz : c0.slots.size = (0 : Int32).toNatClampNeg) :
    MetFree l (⟨"com/example/lineweave/lineweave/explore/ThreadStateBetweenPinLaw", "idle", "(Lcom/example/lineweave/lineweave/explore/State$ThreadState;I)Z"⟩ : MethodName) (head1 (Jvm.Cond.code (⟨"com/example/lineweave/lineweave/explore/ThreadStateBetweenPinLaw", "idle", "(Lcom/example/lineweave/lineweave/explore/State$ThreadState;I)Z"⟩ : MethodName) method_2_code 2 (some .boolean) :: ws) ({ frames := 1, cells := 0, slots := 0, locals := 12 } : Room)) (fun a U => a = #[(.ref a1), (.int p2)] ∧ Z.Warmed39 U.vm ∧ U.heap = h0) (fun _ _ _ _ _ => True) (fun _ U o U' => ∃ v L, o = .returned v ∧ Q4 h0 n0 v U'.heap L ∧ FrameEnd U o U' L ({ frames := 1, cells := 0, slots := 0, locals := 12 } : Room).cells ({ frames := 1, cells := 0, slots := 0, locals := 12 } : Room).slots) := by
  refine MetFree.of_bodySF (plainFor_of_name pn_4) hisR ?_
  intro p e s m args below meth c s₁ Bd hml0 hP hK
  obtain ⟨rfl, hZ, hh⟩ := hP
  have hx := Bd.exec
  have hby := Bd.bytes
  have hml : c.maxLocals = 2 := hml0
  have hown : s.vm.findClass "com/example/lineweave/lineweave/explore/ThreadStateBetweenPinLaw" = some m.cls := findClass_of_methodNamed Bd.named
  have hnm := (name_of_methodNamed Bd.named Bd.method).1
  have X0 : Stand p l e ({ frames := 1, cells := 0, slots := 0, locals := 12 } : Room) s m #[(.ref a1), (.int p2)] below meth c s₁ [] 0 0 := Stand.of_body Bd
  have e0 : s₁.heap = h0 := by rw [← hh, Bd.state]; rfl
  have N0 := Fr.nil n0
  have J0 : ∀ t, Steps p.tables e below (s₁.setTop (mkF m 0 #[.val (.ref a1), .val (.int p2)] [])) t → Steps p.tables e below (s₁.setTop (entryFrame m #[(.ref a1), (.int p2)] 2)) t := fun t k => castTop (ef_4 m a1 p2) k
  obtain ⟨T1, X1, e1, st1⟩ := getF X0 hx hZ hown (host := "") (Or.inl (hw _ (List.mem_of_getElem? (i := 26) rfl))) Via.refl e0 F_callsMade (g := (mkF m 5 #[.val (.ref a1), .val (.int p2)] [(.ref a1)])) rfl rfl (hb hby d4_5)
  obtain ⟨T2, X2, e2, st2⟩ := getF X1 hx hZ hown (host := "") (Or.inl (hw _ (List.mem_of_getElem? (i := 27) rfl))) Via.refl e1 F_method (g := (mkF m 13 #[.val (.ref a1), .val (.int p2)] [(.ref a1)])) rfl rfl (hb hby d4_13)
  obtain ⟨cq3, kq3, q3a, q3b, q3c⟩ := isOf hZ e2 E1
  obtain ⟨_, _, ⟨T3, L3, k3, n3⟩, -, X3, ⟨Lc3, hQ3, l3, y3, z3⟩, st3⟩ := X2.virtualBack hx (y := (⟨"com/example/lineweave/lineweave/explore/State$ThreadState", "inCall", "()Z"⟩ : MethodName)) (z := (⟨"com/example/lineweave/lineweave/explore/State$ThreadState", "inCall", "()Z"⟩ : MethodName)) hown (mvT hZ (hw _ (List.mem_of_getElem? (i := 28) rfl))) (mvT hZ (hw _ (List.mem_of_getElem? (i := 29) rfl))) (notFace_of_selects (args := #[]) (mvT hZ (hw _ (List.mem_of_getElem? (i := 31) rfl)))) (mvT hZ (hw _ (List.mem_of_getElem? (i := 31) rfl))) (mvT hZ (hw _ (List.mem_of_getElem? (i := 30) rfl))) (by decide) (backOf (W := 0) (rm5 l Z a0 hw [] a1 h0 n0 Z0 F_method) hZ (hw _ (List.mem_of_getElem? (i := 32) rfl)) (hw _ (List.mem_of_getElem? (i := 2) rfl)) (by decide) (by decide)) q3a q3c (g := (mkF m 20 #[.val (.ref a1), .val (.int p2)] [(.ref a1)])) rfl (by rw [hml]; rfl) (Steps.refl _) (argsL := []) (rest := []) (lenOf pd_44 rfl) rfl (by show 2 * 0 + _ ≤ _; exact Nat.le_of_eq rfl) (hb hby d4_20) (fun _ _ => ⟨rfl, e2, (by decide : 0 + 0 ≤ _), (by decide : 0 + 0 ≤ _)⟩)
  dsimp only [Pt.U, Pt.locs, Pt.cells, Pt.slots] at X3 l3 y3 z3 st3 hQ3
  subst l3 y3 z3
  obtain ⟨rfl, N3q, e3⟩ := hQ3
  have N3 := Fr.app N0 N3q
  obtain ⟨T4, X4, e4, st4⟩ := getF X3 hx hZ hown (host := "") (Or.inl (hw _ (List.mem_of_getElem? (i := 33) rfl))) Via.refl e3 F_next (g := (mkF m 27 #[.val (.ref a1), .val (.int p2)] [(.ref a1)])) rfl rfl (hb hby d4_27)
  obtain ⟨T5, X5, e5, st5⟩ := getF X4 hx hZ hown (host := "") (Or.inl (hw _ (List.mem_of_getElem? (i := 34) rfl))) Via.refl e4 F_locals (g := (mkF m 34 #[.val (.ref a1), .val (.int p2)] [(.ref a1)])) rfl rfl (hb hby d4_34)
  obtain ⟨T6, X6, e6, st6⟩ := getF X5 hx hZ hown (host := "") (Or.inl (hw _ (List.mem_of_getElem? (i := 34) rfl))) Via.refl e5 F_locals (g := (mkF m 41 #[.val (.ref a1), .val (.int p2)] [(.ref a1)])) rfl rfl (hb hby d4_41)
  obtain ⟨fs, hr, hrun, hended, hW, hsame⟩ := X6.leave (v := some (.int (1 : Int32))) (fun h => by rw [Bd.returns] at h; cases h)
  refine ⟨_, _, J0 _ ?_, hrun, hended, _, _, rfl, ?_, ⟨_, rfl⟩, hW, hsame.mono (by decide) (by decide)⟩
  · show Steps p.tables e below (s₁.setTop (mkF m 0 #[.val (.ref a1), .val (.int p2)] [])) _
    refine XS.aloadN X0.here hx rfl (hb hby d4_0) rfl rfl ?_
    show Steps p.tables e below (s₁.setTop (mkF m 1 #[.val (.ref a1), .val (.int p2)] [(.ref a1)])) _
    refine XS.ifnullNo X0.here hx rfl (hb hby d4_1) rfl ?_
    show Steps p.tables e below (s₁.setTop (mkF m 4 #[.val (.ref a1), .val (.int p2)] [])) _
    refine XS.aloadN X0.here hx rfl (hb hby d4_4) rfl rfl ?_
    show Steps p.tables e below (s₁.setTop (mkF m 5 #[.val (.ref a1), .val (.int p2)] [(.ref a1)])) _
    refine st1 _ ?_
    show Steps p.tables e below (T1.setTop (mkF m 8 #[.val (.ref a1), .val (.int p2)] [(.int p2)])) _
    refine XS.iloadN X1.here hx rfl (hb hby d4_8) rfl ?_
    show Steps p.tables e below (T1.setTop (mkF m 9 #[.val (.ref a1), .val (.int p2)] [(.int p2), (.int p2)])) _
    refine XS.icmpNo X1.here hx rfl (hb hby d4_9) rfl (teq rfl).2 ?_
    show Steps p.tables e below (T1.setTop (mkF m 12 #[.val (.ref a1), .val (.int p2)] [])) _
    refine XS.aloadN X1.here hx rfl (hb hby d4_12) rfl rfl ?_
    show Steps p.tables e below (T1.setTop (mkF m 13 #[.val (.ref a1), .val (.int p2)] [(.ref a1)])) _
    refine st2 _ ?_
    show Steps p.tables e below (T2.setTop (mkF m 16 #[.val (.ref a1), .val (.int p2)] [.null])) _
    refine XS.ifnonnullNo X2.here hx rfl (hb hby d4_16) rfl ?_
    show Steps p.tables e below (T2.setTop (mkF m 19 #[.val (.ref a1), .val (.int p2)] [])) _
    refine XS.aloadN X2.here hx rfl (hb hby d4_19) rfl rfl ?_
    show Steps p.tables e below (T2.setTop (mkF m 20 #[.val (.ref a1), .val (.int p2)] [(.ref a1)])) _
    refine st3.trans ?_
    show Steps p.tables e below (T3.setTop (mkF m 23 #[.val (.ref a1), .val (.int p2)] [(.int (0 : Int32))])) _
    refine XS.ifNo X3.here hx rfl (hb hby d4_23) rfl ((if0 _ _).trans (teq rfl).2) ?_
    show Steps p.tables e below (T3.setTop (mkF m 26 #[.val (.ref a1), .val (.int p2)] [])) _
    refine XS.aloadN X3.here hx rfl (hb hby d4_26) rfl rfl ?_
    show Steps p.tables e below (T3.setTop (mkF m 27 #[.val (.ref a1), .val (.int p2)] [(.ref a1)])) _
    refine st4 _ ?_
    show Steps p.tables e below (T4.setTop (mkF m 30 #[.val (.ref a1), .val (.int p2)] [(.int (0 : Int32))])) _
    refine XS.ifNo X4.here hx rfl (hb hby d4_30) rfl ((if0 _ _).trans (teq rfl).2) ?_
    show Steps p.tables e below (T4.setTop (mkF m 33 #[.val (.ref a1), .val (.int p2)] [])) _
    refine XS.aloadN X4.here hx rfl (hb hby d4_33) rfl rfl ?_
    show Steps p.tables e below (T4.setTop (mkF m 34 #[.val (.ref a1), .val (.int p2)] [(.ref a1)])) _
    refine st5 _ ?_
    show Steps p.tables e below (T5.setTop (mkF m 37 #[.val (.ref a1), .val (.int p2)] [(.ref w)])) _
    refine XS.ifnullNo X5.here hx rfl (hb hby d4_37) rfl ?_
    show Steps p.tables e below (T5.setTop (mkF m 40 #[.val (.ref a1), .val (.int p2)] [])) _
    refine XS.aloadN X5.here hx rfl (hb hby d4_40) rfl rfl ?_
    show Steps p.tables e below (T5.setTop (mkF m 41 #[.val (.ref a1), .val (.int p2)] [(.ref a1)])) _
    refine st6 _ ?_
    show Steps p.tables e below (T6.setTop (mkF m 44 #[.val (.ref a1), .val (.int p2)] [(.ref w)])) _
    refine X6.arraylength hx (by rw [e6]; exact (Ar).1) (State.isArrayOf_alike hZ.alike (Ar).2.1) (g := (mkF m 44 #[.val (.ref a1), .val (.int p2)] [(.ref w)])) rfl rfl (hb hby d4_44) _ ?_
    rw [len_of Sz (by decide)]
    show Steps p.tables e below (T6.setTop (mkF m 45 #[.val (.ref a1), .val (.int p2)] [(.int (0 : Int32))])) _
    refine XS.ifNo X6.here hx rfl (hb hby d4_45) rfl ((if0 _ _).trans (teq rfl).2) ?_
    show Steps p.tables e below (T6.setTop (mkF m 48 #[.val (.ref a1), .val (.int p2)] [])) _
    refine XS.iconst X6.here hx rfl (hb hby d4_48) ?_
    show Steps p.tables e below (T6.setTop (mkF m 49 #[.val (.ref a1), .val (.int p2)] [(.int (1 : Int32))])) _
    refine XS.goto X6.here hx rfl (pc0 := 49) (pc' := 53) rfl (hb hby d4_49) (by decide) (by decide) ?_
    show Steps p.tables e below (T6.setTop (mkF m 53 #[.val (.ref a1), .val (.int p2)] [(.int (1 : Int32))])) _
    exact retN X6 hx (t := .boolean) Bd.returns (by simp) (hb hby d4_53) hr
  · show Q4 h0 n0 _ T6.heap _
    rw [e6]
    exact ⟨rfl, N3, rfl⟩
theorem d6_0 : decode prog_24_method_6_code 0 = .ok (.aload_n 0, 1) := by decide +kernel
theorem d6_1 : decode prog_24_method_6_code 1 = .ok (.getfield 7, 3) := by decide +kernel
theorem d6_4 : decode prog_24_method_6_code 4 = .ok (.invokestatic 48, 3) := by decide +kernel
theorem pd_64 : parseMethodDescriptor "(I)Lcom/example/lineweave/lineweave/explore/State$ThreadState;" = some ⟨[.int], some (.object "com/example/lineweave/lineweave/explore/State$ThreadState")⟩ := by decide +kernel
theorem d6_7 : decode prog_24_method_6_code 7 = .ok (.areturn, 1) := by decide +kernel
set_option maxRecDepth 65536 in
set_option maxHeartbeats 40000000 in
theorem rm6 (l : Launch) (Z : State) (a0 : Array Value) (hw : ∀ d ∈ tables_1, d.before a0 Z = true) (ws : List Jvm.Cond) (a1 : Addr) (p1 : Int32) (w3 : Addr) (h0 : Heap) (n0 : Nat) (Z0 : n0 ≤ h0.size) (F_callsMade : Fld Z h0 a1 "com/example/lineweave/lineweave/explore/State$ThreadState" "callsMade" "I" (.int p1)) (S : Sta Z h0 "com/example/lineweave/lineweave/explore/State$ThreadState" "NO_LOCALS" "[Lcom/example/lineweave/lineweave/language/Value;" (.ref w3)) :
    MetFree l (⟨"com/example/lineweave/lineweave/explore/State$ThreadState", "returned", "()Lcom/example/lineweave/lineweave/explore/State$ThreadState;"⟩ : MethodName) (head1 (Jvm.Cond.code (⟨"com/example/lineweave/lineweave/explore/State$ThreadState", "returned", "()Lcom/example/lineweave/lineweave/explore/State$ThreadState;"⟩ : MethodName) prog_24_method_6_code 1 (some (.object "com/example/lineweave/lineweave/explore/State$ThreadState")) :: ws) ({ frames := 3, cells := 1, slots := 4, locals := 41 } : Room)) (fun a U => a = #[(.ref a1)] ∧ Z.Warmed39 U.vm ∧ U.heap = h0) (fun _ _ _ _ _ => True) (fun _ U o U' => ∃ v L, o = .returned v ∧ Q1 Z p1 w3 h0 n0 v U'.heap L ∧ FrameEnd U o U' L ({ frames := 3, cells := 1, slots := 4, locals := 41 } : Room).cells ({ frames := 3, cells := 1, slots := 4, locals := 41 } : Room).slots) := by
  refine MetFree.of_bodySF (plainFor_of_name pn_2) hisR ?_
  intro p e s m args below meth c s₁ Bd hml0 hP hK
  obtain ⟨rfl, hZ, hh⟩ := hP
  have hx := Bd.exec
  have hby := Bd.bytes
  have hml : c.maxLocals = 1 := hml0
  have hown : s.vm.findClass "com/example/lineweave/lineweave/explore/State$ThreadState" = some m.cls := findClass_of_methodNamed Bd.named
  have hnm := (name_of_methodNamed Bd.named Bd.method).1
  have X0 : Stand p l e ({ frames := 3, cells := 1, slots := 4, locals := 41 } : Room) s m #[(.ref a1)] below meth c s₁ [] 0 0 := Stand.of_body Bd
  have e0 : s₁.heap = h0 := by rw [← hh, Bd.state]; rfl
  have N0 := Fr.nil n0
  have J0 : ∀ t, Steps p.tables e below (s₁.setTop (mkF m 0 #[.val (.ref a1)] [])) t → Steps p.tables e below (s₁.setTop (entryFrame m #[(.ref a1)] 1)) t := fun t k => castTop (ef_5 m a1) k
  obtain ⟨T1, X1, e1, st1⟩ := getF X0 hx hZ hown (host := "") (Or.inl (hw _ (List.mem_of_getElem? (i := 14) rfl))) Via.refl e0 F_callsMade (g := (mkF m 1 #[.val (.ref a1)] [(.ref a1)])) rfl rfl (hb hby d6_1)
  obtain ⟨_, _, ⟨T2, L2, k2, n2⟩, -, X2, ⟨Lc2, hQ2, l2, y2, z2⟩, st2⟩ := Jvm.LawKit.callS X1 hx (y := (⟨"com/example/lineweave/lineweave/explore/State$ThreadState", "between", "(I)Lcom/example/lineweave/lineweave/explore/State$ThreadState;"⟩ : MethodName)) hown (mvT hZ (hw _ (List.mem_of_getElem? (i := 40) rfl))) (mvT hZ (hw _ (List.mem_of_getElem? (i := 1) rfl))) (mvT hZ (hw _ (List.mem_of_getElem? (i := 2) rfl))) (mvT hZ (hw _ (List.mem_of_getElem? (i := 3) rfl))) (by decide) (backOf (W := 0) (rm1 l Z a0 hw [] p1 w3 h0 n0 Z0 S) hZ (hw _ (List.mem_of_getElem? (i := 3) rfl)) (hw _ (List.mem_of_getElem? (i := 2) rfl)) (by decide) (by decide)) (g := (mkF m 4 #[.val (.ref a1)] [(.int p1)])) rfl (by rw [hml]; rfl) (argsL := [(.int p1)]) (rest := []) (lenOf pd_64 rfl) rfl (by show 2 * 0 + _ ≤ _; exact Nat.le_of_eq rfl) (hb hby d6_4) (fun _ _ => ⟨rfl, e1, (by decide : 0 + 1 ≤ _), (by decide : 0 + 4 ≤ _)⟩)
  dsimp only [Pt.U, Pt.locs, Pt.cells, Pt.slots] at X2 l2 y2 z2 st2 hQ2
  subst l2 y2 z2
  obtain ⟨b2, rfl, N2q, hQ2⟩ := hQ2
  have N2 := Fr.app N0 N2q
  obtain ⟨fs, hr, hrun, hended, hW, hsame⟩ := X2.leave (v := some (.ref b2)) (fun h => by rw [Bd.returns] at h; cases h)
  refine ⟨_, _, J0 _ ?_, hrun, hended, _, _, rfl, ?_, ⟨_, rfl⟩, hW, hsame.mono (by decide) (by decide)⟩
  · show Steps p.tables e below (s₁.setTop (mkF m 0 #[.val (.ref a1)] [])) _
    refine XS.aloadN X0.here hx rfl (hb hby d6_0) rfl rfl ?_
    show Steps p.tables e below (s₁.setTop (mkF m 1 #[.val (.ref a1)] [(.ref a1)])) _
    refine st1 _ ?_
    show Steps p.tables e below (T1.setTop (mkF m 4 #[.val (.ref a1)] [(.int p1)])) _
    refine st2 _ ?_
    show Steps p.tables e below (T2.setTop (mkF m 7 #[.val (.ref a1)] [(.ref b2)])) _
    jvm_step X2.here [X2.here.top, hx, (hb hby d6_7), X2.method', Bd.returns, Value.isRef, FieldType.isReference]
    first | (intro acts; rw [hr _ acts rfl rfl rfl]) | rw [hr _ _ rfl rfl rfl]
    exact Steps.refl _
  · show Q1 Z p1 w3 h0 n0 _ T2.heap _
    exact ⟨b2, rfl, N2, hQ2⟩
def Q0 (h0 : Heap) (n0 : Nat) (v : Option Value) (h : Heap) (L : List Loc) : Prop := v = some (.int 1) ∧ Fr n0 L
theorem pd_66 : parseMethodDescriptor "(Lcom/example/lineweave/lineweave/explore/State$ThreadState;I)Z" = some ⟨[(.object "com/example/lineweave/lineweave/explore/State$ThreadState"), .int], some .boolean⟩ := by decide +kernel
theorem pd_67 : parseMethodDescriptor "()Lcom/example/lineweave/lineweave/explore/State$ThreadState;" = some ⟨[], some (.object "com/example/lineweave/lineweave/explore/State$ThreadState")⟩ := by decide +kernel
theorem ef_0 (m : MethodId) (x0 : Int32) : entryFrame m #[(.int x0)] maxLocals = mkF m 0 #[.val (.int x0), .unset, .unset, .unset] [] := by first | (simp [entryFrame, mkF, argsToLocals, Value.category, maxLocals]; done) | rfl
set_option maxRecDepth 65536 in
set_option maxHeartbeats 40000000 in
theorem rm0 (l : Launch) (Z : State) (a0 : Array Value) (hw : ∀ d ∈ tables_1, d.before a0 Z = true) (ws : List Jvm.Cond) (p1 : Int32) (w : Addr) (c0 : Cell) (h0 : Heap) (n0 : Nat) (Z0 : n0 ≤ h0.size) (S : Sta Z h0 "com/example/lineweave/lineweave/explore/State$ThreadState" "NO_LOCALS" "[Lcom/example/lineweave/lineweave/language/Value;" (.ref w)) (Ar : Arr Z h0 w c0 (.object "com/example/lineweave/lineweave/language/Value")) (Sz : c0.slots.size = (0 : Int32).toNatClampNeg) :
    MetFree l x (head1 (Jvm.Cond.code x code maxLocals ret :: ws) room_1) (fun a U => a = #[(.int p1)] ∧ Z.Warmed39 U.vm ∧ U.heap = h0) (fun _ _ _ _ _ => True) (fun _ U o U' => ∃ v L, o = .returned v ∧ Q0 h0 n0 v U'.heap L ∧ FrameEnd U o U' L room_1.cells room_1.slots) := by
  refine MetFree.of_bodySF (plainFor_of_name pn_4) hisR ?_
  intro p e s m args below meth c s₁ Bd hml0 hP hK
  obtain ⟨rfl, hZ, hh⟩ := hP
  have hx := Bd.exec
  have hby := Bd.bytes
  have hml : c.maxLocals = 4 := hml0
  have hown : s.vm.findClass "com/example/lineweave/lineweave/explore/ThreadStateBetweenPinLaw" = some m.cls := findClass_of_methodNamed Bd.named
  have hnm := (name_of_methodNamed Bd.named Bd.method).1
  have X0 : Stand p l e room_1 s m #[(.int p1)] below meth c s₁ [] 0 0 := Stand.of_body Bd
  have e0 : s₁.heap = h0 := by rw [← hh, Bd.state]; rfl
  have N0 := Fr.nil n0
  have J0 : ∀ t, Steps p.tables e below (s₁.setTop (mkF m 0 #[.val (.int p1), .unset, .unset, .unset] [])) t → Steps p.tables e below (s₁.setTop (entryFrame m #[(.int p1)] maxLocals)) t := fun t k => castTop (ef_0 m p1) k
  obtain ⟨_, _, ⟨T1, L1, k1, n1⟩, -, X1, ⟨Lc1, hQ1, l1, y1, z1⟩, st1⟩ := Jvm.LawKit.callS X0 hx (y := (⟨"com/example/lineweave/lineweave/explore/State$ThreadState", "between", "(I)Lcom/example/lineweave/lineweave/explore/State$ThreadState;"⟩ : MethodName)) hown (mvT hZ (hw _ (List.mem_of_getElem? (i := 0) rfl))) (mvT hZ (hw _ (List.mem_of_getElem? (i := 1) rfl))) (mvT hZ (hw _ (List.mem_of_getElem? (i := 2) rfl))) (mvT hZ (hw _ (List.mem_of_getElem? (i := 3) rfl))) (by decide) (backOf (W := 0) (rm1 l Z a0 hw [] p1 w h0 n0 Z0 S) hZ (hw _ (List.mem_of_getElem? (i := 3) rfl)) (hw _ (List.mem_of_getElem? (i := 2) rfl)) (by decide) (by decide)) (g := (mkF m 1 #[.val (.int p1), .unset, .unset, .unset] [(.int p1)])) rfl (by rw [hml]; rfl) (argsL := [(.int p1)]) (rest := []) (lenOf pd_64 rfl) rfl (by show 2 * 0 + _ ≤ _; exact Nat.le_of_eq rfl) (hb hby at_1) (fun _ _ => ⟨rfl, e0, (by decide : 0 + 1 ≤ _), (by decide : 0 + 4 ≤ _)⟩)
  dsimp only [Pt.U, Pt.locs, Pt.cells, Pt.slots] at X1 l1 y1 z1 st1 hQ1
  subst l1 y1 z1
  obtain ⟨b1, rfl, N1q, g1q, K1, E1q, F1_callsMade, F1_method, F1_next, F1_locals⟩ := hQ1
  have N1 := Fr.app N0 N1q
  obtain ⟨_, _, ⟨T2, L2, k2, n2⟩, -, X2, ⟨Lc2, hQ2, l2, y2, z2⟩, st2⟩ := Jvm.LawKit.callS X1 hx (y := (⟨"com/example/lineweave/lineweave/explore/ThreadStateBetweenPinLaw", "idle", "(Lcom/example/lineweave/lineweave/explore/State$ThreadState;I)Z"⟩ : MethodName)) hown (mvT hZ (hw _ (List.mem_of_getElem? (i := 22) rfl))) (mvT hZ (hw _ (List.mem_of_getElem? (i := 23) rfl))) (mvT hZ (hw _ (List.mem_of_getElem? (i := 24) rfl))) (mvT hZ (hw _ (List.mem_of_getElem? (i := 25) rfl))) (by decide) (backOf (W := 0) (rm4 l Z a0 hw [] b1 p1 w c0 T1.heap n0 (Nat.le_trans Z0 K1.1) E1q F1_callsMade F1_method F1_next F1_locals (Ar.keep K1 nin0) Sz) hZ (hw _ (List.mem_of_getElem? (i := 25) rfl)) (hw _ (List.mem_of_getElem? (i := 24) rfl)) (by decide) (by decide)) (g := (mkF m 7 #[.val (.int p1), .val (.ref b1), .unset, .unset] [(.int p1), (.ref b1)])) rfl (by rw [hml]; rfl) (argsL := [(.ref b1), (.int p1)]) (rest := []) (lenOf pd_66 rfl) rfl (by show 2 * 0 + _ ≤ _; exact Nat.le_of_eq rfl) (hb hby at_7) (fun _ _ => ⟨rfl, rfl, (by decide : 1 + 0 ≤ _), (by decide : 4 + 0 ≤ _)⟩)
  dsimp only [Pt.U, Pt.locs, Pt.cells, Pt.slots] at X2 l2 y2 z2 st2 hQ2
  subst l2 y2 z2
  obtain ⟨rfl, N2q, e2⟩ := hQ2
  have N2 := Fr.app N1 N2q
  obtain ⟨cq3, kq3, q3a, q3b, q3c⟩ := isOf hZ e2 E1q
  obtain ⟨_, _, ⟨T3, L3, k3, n3⟩, -, X3, ⟨Lc3, hQ3, l3, y3, z3⟩, st3⟩ := X2.virtualBack hx (y := (⟨"com/example/lineweave/lineweave/explore/State$ThreadState", "returned", "()Lcom/example/lineweave/lineweave/explore/State$ThreadState;"⟩ : MethodName)) (z := (⟨"com/example/lineweave/lineweave/explore/State$ThreadState", "returned", "()Lcom/example/lineweave/lineweave/explore/State$ThreadState;"⟩ : MethodName)) hown (mvT hZ (hw _ (List.mem_of_getElem? (i := 35) rfl))) (mvT hZ (hw _ (List.mem_of_getElem? (i := 36) rfl))) (notFace_of_selects (args := #[]) (mvT hZ (hw _ (List.mem_of_getElem? (i := 38) rfl)))) (mvT hZ (hw _ (List.mem_of_getElem? (i := 38) rfl))) (mvT hZ (hw _ (List.mem_of_getElem? (i := 37) rfl))) (by decide) (backOf (W := 0) (rm6 l Z a0 hw [] b1 p1 w T1.heap n0 (Nat.le_trans Z0 K1.1) F1_callsMade (own_staKeep0 S K1)) hZ (hw _ (List.mem_of_getElem? (i := 39) rfl)) (hw _ (List.mem_of_getElem? (i := 2) rfl)) (by decide) (by decide)) q3a q3c (g := (mkF m 18 #[.val (.int p1), .val (.ref b1), .val (.int (1 : Int32)), .unset] [(.ref b1)])) rfl (by rw [hml]; rfl) (Steps.refl _) (argsL := []) (rest := []) (lenOf pd_67 rfl) rfl (by show 2 * 0 + _ ≤ _; exact Nat.le_of_eq rfl) (hb hby at_18) (fun _ _ => ⟨rfl, e2, (by decide : 1 + 1 ≤ _), (by decide : 4 + 4 ≤ _)⟩)
  dsimp only [Pt.U, Pt.locs, Pt.cells, Pt.slots] at X3 l3 y3 z3 st3 hQ3
  subst l3 y3 z3
  obtain ⟨b3, rfl, N3q, g3q, K3, E3q, F3_callsMade, F3_method, F3_next, F3_locals⟩ := hQ3
  have N3 := Fr.app N2 N3q
  obtain ⟨_, _, ⟨T4, L4, k4, n4⟩, -, X4, ⟨Lc4, hQ4, l4, y4, z4⟩, st4⟩ := Jvm.LawKit.callS X3 hx (y := (⟨"com/example/lineweave/lineweave/explore/ThreadStateBetweenPinLaw", "idle", "(Lcom/example/lineweave/lineweave/explore/State$ThreadState;I)Z"⟩ : MethodName)) hown (mvT hZ (hw _ (List.mem_of_getElem? (i := 22) rfl))) (mvT hZ (hw _ (List.mem_of_getElem? (i := 23) rfl))) (mvT hZ (hw _ (List.mem_of_getElem? (i := 24) rfl))) (mvT hZ (hw _ (List.mem_of_getElem? (i := 25) rfl))) (by decide) (backOf (W := 0) (rm4 l Z a0 hw [] b3 p1 w c0 T3.heap n0 (Nat.le_trans (Nat.le_trans Z0 K1.1) K3.1) E3q F3_callsMade F3_method F3_next F3_locals ((Ar.keep K1 nin0).keep K3 nin0) Sz) hZ (hw _ (List.mem_of_getElem? (i := 25) rfl)) (hw _ (List.mem_of_getElem? (i := 24) rfl)) (by decide) (by decide)) (g := (mkF m 24 #[.val (.int p1), .val (.ref b1), .val (.int (1 : Int32)), .val (.ref b3)] [(.int p1), (.ref b3)])) rfl (by rw [hml]; rfl) (argsL := [(.ref b3), (.int p1)]) (rest := []) (lenOf pd_66 rfl) rfl (by show 2 * 0 + _ ≤ _; exact Nat.le_of_eq rfl) (hb hby at_24) (fun _ _ => ⟨rfl, rfl, (by decide : 2 + 0 ≤ _), (by decide : 8 + 0 ≤ _)⟩)
  dsimp only [Pt.U, Pt.locs, Pt.cells, Pt.slots] at X4 l4 y4 z4 st4 hQ4
  subst l4 y4 z4
  obtain ⟨rfl, N4q, e4⟩ := hQ4
  have N4 := Fr.app N3 N4q
  obtain ⟨fs, hr, hrun, hended, hW, hsame⟩ := X4.leave (v := some (.int (1 : Int32))) (fun h => by rw [Bd.returns] at h; cases h)
  refine ⟨_, _, J0 _ ?_, hrun, hended, _, _, rfl, ?_, ⟨_, rfl⟩, hW, hsame.mono (by decide) (by decide)⟩
  · show Steps p.tables e below (s₁.setTop (mkF m 0 #[.val (.int p1), .unset, .unset, .unset] [])) _
    refine XS.iloadN X0.here hx rfl (hb hby at_0) rfl ?_
    show Steps p.tables e below (s₁.setTop (mkF m 1 #[.val (.int p1), .unset, .unset, .unset] [(.int p1)])) _
    refine st1 _ ?_
    show Steps p.tables e below (T1.setTop (mkF m 4 #[.val (.int p1), .unset, .unset, .unset] [(.ref b1)])) _
    refine XS.astoreN X1.here hx rfl (hb hby at_4) rfl rfl (l' := #[.val (.int p1), .val (.ref b1), .unset, .unset]) rfl ?_
    show Steps p.tables e below (T1.setTop (mkF m 5 #[.val (.int p1), .val (.ref b1), .unset, .unset] [])) _
    refine XS.aloadN X1.here hx rfl (hb hby at_5) rfl rfl ?_
    show Steps p.tables e below (T1.setTop (mkF m 6 #[.val (.int p1), .val (.ref b1), .unset, .unset] [(.ref b1)])) _
    refine XS.iloadN X1.here hx rfl (hb hby at_6) rfl ?_
    show Steps p.tables e below (T1.setTop (mkF m 7 #[.val (.int p1), .val (.ref b1), .unset, .unset] [(.int p1), (.ref b1)])) _
    refine st2 _ ?_
    show Steps p.tables e below (T2.setTop (mkF m 10 #[.val (.int p1), .val (.ref b1), .unset, .unset] [(.int (1 : Int32))])) _
    refine XS.istoreN X2.here hx rfl (hb hby at_10) rfl (l' := #[.val (.int p1), .val (.ref b1), .val (.int (1 : Int32)), .unset]) rfl ?_
    show Steps p.tables e below (T2.setTop (mkF m 11 #[.val (.int p1), .val (.ref b1), .val (.int (1 : Int32)), .unset] [])) _
    refine XS.iloadN X2.here hx rfl (hb hby at_11) rfl ?_
    show Steps p.tables e below (T2.setTop (mkF m 12 #[.val (.int p1), .val (.ref b1), .val (.int (1 : Int32)), .unset] [(.int (1 : Int32))])) _
    refine XS.ifYes X2.here hx rfl (pc0 := 12) (pc' := 17) rfl (hb hby at_12) rfl ((if0 _ _).trans (feq (by decide)).2) (by decide) (by decide) ?_
    show Steps p.tables e below (T2.setTop (mkF m 17 #[.val (.int p1), .val (.ref b1), .val (.int (1 : Int32)), .unset] [])) _
    refine XS.aloadN X2.here hx rfl (hb hby at_17) rfl rfl ?_
    show Steps p.tables e below (T2.setTop (mkF m 18 #[.val (.int p1), .val (.ref b1), .val (.int (1 : Int32)), .unset] [(.ref b1)])) _
    refine st3.trans ?_
    show Steps p.tables e below (T3.setTop (mkF m 21 #[.val (.int p1), .val (.ref b1), .val (.int (1 : Int32)), .unset] [(.ref b3)])) _
    refine XS.astoreN X3.here hx rfl (hb hby at_21) rfl rfl (l' := #[.val (.int p1), .val (.ref b1), .val (.int (1 : Int32)), .val (.ref b3)]) rfl ?_
    show Steps p.tables e below (T3.setTop (mkF m 22 #[.val (.int p1), .val (.ref b1), .val (.int (1 : Int32)), .val (.ref b3)] [])) _
    refine XS.aloadN X3.here hx rfl (hb hby at_22) rfl rfl ?_
    show Steps p.tables e below (T3.setTop (mkF m 23 #[.val (.int p1), .val (.ref b1), .val (.int (1 : Int32)), .val (.ref b3)] [(.ref b3)])) _
    refine XS.iloadN X3.here hx rfl (hb hby at_23) rfl ?_
    show Steps p.tables e below (T3.setTop (mkF m 24 #[.val (.int p1), .val (.ref b1), .val (.int (1 : Int32)), .val (.ref b3)] [(.int p1), (.ref b3)])) _
    refine st4 _ ?_
    show Steps p.tables e below (T4.setTop (mkF m 27 #[.val (.int p1), .val (.ref b1), .val (.int (1 : Int32)), .val (.ref b3)] [(.int (1 : Int32))])) _
    exact retN X4 hx (t := .boolean) Bd.returns (by simp) (hb hby at_27) hr
  · show Q0 h0 n0 _ T4.heap _
    rw [e4]
    exact ⟨rfl, N4⟩
theorem own_eqf {args : Array Value} {first s : State} {o : Option Outcome} {idx : List Nat} {t : Term} {k : Int32} (h : (Jvm.Cond.eq t (Term.int k)).value args first o s idx = some true) : t.eval args first o idx s = some (.int k) := by
  obtain ⟨x, y, h1, h2, h3, -⟩ := cmp_v (Or.inl h)
  cases h2
  cases x <;> simp [Kin, Value.isRef] at h3
  rename_i z
  have q := gotT (Cond.eq_ints h1 (Term.int_eval k)) h
  rw [h1, q]
/-- two objects whose field holds unlike ints are two -/
theorem own_apart {args : Array Value} {s : State} {t t' : Term} {C n d : String} {a b : Addr} {j k : Int32} (ha : t.eval args s none [] s = some (.ref a)) (hb : t'.eval args s none [] s = some (.ref b)) (h : (Jvm.Cond.eq (Term.field t C n d) (Term.int j)).value args s none s [] = some true) (h' : (Jvm.Cond.eq (Term.field t' C n d) (Term.int k)).value args s none s [] = some true) (hne : j ≠ k) : ¬ (a = b) := fun e => by
  subst e
  have q := own_eqf h
  have q' := own_eqf h'
  rw [fld_at ha] at q
  rw [fld_at hb] at q'
  exact hne (Value.int.inj (Option.some.inj (q.symm.trans q')))
/-- what a case says of an object's int field -/
theorem own_fld {args : Array Value} {s : State} {t : Term} {C n d : String} {a : Addr} {j : Int32} (ha : t.eval args s none [] s = some (.ref a)) (h : (Jvm.Cond.eq (Term.field t C n d) (Term.int j)).value args s none s [] = some true) : Fld s s.heap a C n d (.int j) := by
  have q := own_eqf h
  rw [fld_at ha] at q
  exact Fld.start q
theorem own_len {args : Array Value} {s : State} {t : Term} {w : Addr} {c0 : Cell} {z : Int32} (hv : t.eval args s none [] s = some (.ref w)) (hc : s.heap[w]? = some c0) (h : (Jvm.Cond.eq (Term.length t) (Term.int z)).value args s none s [] = some true) : c0.slots.size < 2 ^ 31 ∧ c0.slots.size.toInt32 = z := by
  have q := own_eqf h
  simp only [Term.eval, Option.bind_eq_bind, Option.bind_eq_some_iff] at q
  obtain ⟨v, e1, q⟩ := q
  cases hv.symm.trans e1
  simp only [Option.bind_eq_some_iff] at q
  obtain ⟨c, e2, q⟩ := q
  have e3 : c = c0 := by
    simp only [State.arrayAt?, Option.bind_eq_bind, Option.bind_eq_some_iff] at e2
    obtain ⟨c', hc', k, hk, e2⟩ := e2
    cases hc.symm.trans hc'
    split at e2
    · cases e2
    · split at e2
      · exact (Option.some.inj e2).symm
      · cases e2
  subst e3
  split at q
  · rename_i hl
    exact ⟨hl, by simpa using q⟩
  · cases q
theorem own_len0 {args : Array Value} {s : State} {t : Term} {w : Addr} {c0 : Cell} (hv : t.eval args s none [] s = some (.ref w)) (hc : s.heap[w]? = some c0) (h : (Jvm.Cond.eq (Term.length t) (Term.int 0)).value args s none s [] = some true) : c0.slots.size = (0 : Int32).toNatClampNeg := by
  obtain ⟨h1, h2⟩ := own_len hv hc h
  have q := len_toInt h1
  rw [h2] at q
  have e : (0 : Int32).toInt = 0 := by decide
  show c0.slots.size = 0
  omega
set_option maxRecDepth 65536 in
set_option maxHeartbeats 40000000 in
theorem comes_1 {Post : Tables → Env → Array Value → State → Outcome → State → Prop} (hpost : ∀ tb e args s v u, (limb_1_1.after args s (.returned v) u = true ∧ limb_1_2.after args s (.returned v) u = true ∧ True) → FrameEnd s (.returned v) u (Jvm.fieldLocs frame_1_writes args s ++ Jvm.arrayLocs frame_1_arrays args s ++ Jvm.staticLocs frame_1_statics s) 16 128 → Post tb e args s (.returned v) u) :
    ArmFor flags0 classFile x code maxLocals ret World_1 tables_1 room_1 Calls_1 rest_1 Pre_1 Post := by
  intro l hfl _ _ p e ha hc hk s m args below hf hA hF happ hP
  obtain ⟨hcalls, hrest, hpre⟩ := hP
  obtain ⟨-, -, -, hnamed, -, -, -, hat⟩ := (Spec.applies_iff hf).mp happ
  obtain ⟨hg, hn⟩ := and_e (Cond.before_iff.mp (show (Jvm.Cond.and given_1 narrow_1).before args s = true from hpre))
  obtain ⟨g6, g7⟩ := and_e hg
  obtain ⟨w0, rfl⟩ : ∃ w0 : Value, args = #[w0] := by
    have hs : args.size = 1 := by simpa [Cond.value, given_1] using g6
    obtain ⟨L⟩ := args
    match L, hs with
    | [w0], _ => exact ⟨w0, rfl⟩
  have hw := fun d (hd : d ∈ tables_1) => atoms_spec (ws := Jvm.Cond.code x code maxLocals ret :: tables_1) hat d (List.mem_cons_of_mem _ hd)
  have hfit : Fit s := fun {y c} hc i hi => by
    obtain ⟨ha, rfl⟩ := Array.getElem?_eq_some_iff.mp hc
    have q := List.all_eq_true.mp ((Array.all_eq_true_iff_forall_mem.mp hF) _ (Array.getElem_mem ha)) i (List.mem_range.mpr hi)
    simpa [Array.getElem?_eq_getElem hi] using q
  obtain ⟨i0, ei0⟩ := is_v g7
  obtain rfl : w0 = (.int i0) := Option.some.inj ei0
  obtain ⟨n1, n2⟩ := and_e hn
  obtain ⟨w, vw⟩ := arr_v n1
  obtain ⟨c0, Ar⟩ := Arr.start vw n1
  have S := Sta.start vw (Or.inr ⟨(hw _ (List.mem_of_getElem? (i := 2) rfl)), (hw _ (List.mem_of_getElem? (i := 7) rfl))⟩)
  have Sz := own_len0 vw Ar.1 n2
  obtain ⟨n, o, h1, h2, h3, _, L, rfl, ⟨rfl, N⟩, hq⟩ := rm0 l s _ hw tables_1 i0 w c0 s.heap s.heap.size (Nat.le_refl _) S Ar Sz p e ha hc hk s m _ below hf ((Spec.applies_iff_loose hf).mp happ).1 ⟨rfl, State.Warmed39.refl s, rfl⟩ trivial
  refine ⟨n, _, h1, h2, h3, hpost _ _ _ _ _ _ ⟨Cond.after_iff.mpr rfl, Cond.after_iff.mpr (eq_i res_at (Term.int_eval (1)) rfl), trivial⟩ ⟨hq.1, hq.2.1, (hq.2.2.sift fun y hy => Or.inr (N y hy)).mono (by decide) (by decide)⟩⟩
theorem main_1_1 : Claimed_1_1 := comes_1 fun _ _ _ _ _ _ h hF => ⟨h.1, hF⟩
theorem main_1_2 : Claimed_1_2 := comes_1 fun _ _ _ _ _ _ h hF => ⟨h.2.1, hF⟩
end Jvm.Pilot.@@N@@
namespace Jvm.Pilot.@@N@@
open Jvm Jvm.ClassFile Sem Op Lib Jvm.Free Jvm.Stand Jvm.Pilot.@@N@@.Jvm.D
/-! MADE BY PROGRAM (witnessworld.py) out of the Statement's table words and the real class files: 11 classes; the members and pool entries that the words name. The judged class is class 1, her method 2. -/
namespace start1
open Jvm.ClassFile
def u (s : String) : CpInfo := .utf8 (stringToUtf16 s)
/-- a pool by its gaps: so many unusable entries, then the entry; so many at the end -/
def gap : Nat → List CpInfo → List CpInfo
  | 0, r => r
  | n + 1, r => .unusable :: gap n r
def poolList (es : List (Nat × CpInfo)) (last : Nat) : List CpInfo := es.foldr (fun e r => gap e.1 (e.2 :: r)) (gap last [])
def pool (es : List (Nat × CpInfo)) (last : Nat) : Array CpInfo := ⟨poolList es last⟩
def fileOf (pool : Array CpInfo) (this : Nat) (attrs : Array Attribute := #[]) (ms : Array MethodInfo := #[]) (fl : Nat := 33) (sup : Nat := 0) (ifs : Array Nat := #[]) (fds : Array FieldInfo := #[]) : ClassFile where
  minorVersion := 0
  majorVersion := 65
  constantPool := pool
  accessFlags := fl
  thisClass := this
  superClass := sup
  interfaces := ifs
  fields := fds
  methods := ms
  attributes := attrs
def plain (name : String) (sup : Option ClassId) : Class where
  name := name
  kind := .ordinary
  loader := none
  accessFlags := 33
  super := sup
  interfaces := #[]
  cf := none
  fields := #[]
  methods := #[]
  instanceTypes := #[]
  staticTypes := #[]
  resolved := #[]
  callSites := []
  init := .initialized
  statics := none
  mirror := none

def pool0 : Array CpInfo := pool [(5, u "<init>"), (0, u "()V"), (1, .class_ 10), (1, u "java/lang/Object")] 113

def k0c0 : Code := { maxStack := 0, maxLocals := 1, code := object_method_1_code, exceptionTable := #[], attributes := #[] }
def k0m0 : Method := { name := "<init>", desc := "()V", sig := { parameters := [], returnType := none }, accessFlags := 1, code := some k0c0 }
/-- java/lang/Object -/
def k0 : Class := { plain "java/lang/Object" none with
  accessFlags := 33
  interfaces := #[]
  cf := some (fileOf pool0 8 #[] #[{ accessFlags := 1, nameIndex := 5, descriptorIndex := 6, attributes := #[] }] 33 0 #[] #[])
  fields := #[]
  methods := #[k0m0]
  instanceTypes := #[]
  staticTypes := #[]
  resolved := Array.replicate 124 none
  statics := none }

def pool1 : Array CpInfo := pool [(2, .class_ 4), (1, u "java/lang/Object"), (0, u "<init>"), (0, u "()V"), (0, .fieldref 8 9), (0, .class_ 10), (0, .nameAndType 11 12), (0, u "com/example/lineweave/lineweave/explore/State$ThreadState"), (0, u "callsMade"), (0, u "I"), (0, .fieldref 8 14), (0, .nameAndType 15 16), (0, u "method"), (0, u "Lcom/example/lineweave/lineweave/language/Procedure;"), (0, .methodref 8 18), (0, .nameAndType 19 20), (0, u "inCall"), (0, u "()Z"), (0, .fieldref 8 22), (0, .nameAndType 23 12), (0, u "next"), (0, .fieldref 8 25), (0, .nameAndType 26 27), (0, u "locals"), (0, u "[Lcom/example/lineweave/lineweave/language/Value;"), (0, .methodref 8 29), (0, .nameAndType 30 31), (0, u "between"), (0, u "(I)Lcom/example/lineweave/lineweave/explore/State$ThreadState;"), (0, .methodref 33 34), (0, .class_ 35), (0, .nameAndType 36 37), (0, u "com/example/lineweave/lineweave/explore/ThreadStateBetweenPinLaw"), (0, u "idle"), (0, u "(Lcom/example/lineweave/lineweave/explore/State$ThreadState;I)Z"), (0, .methodref 8 39), (0, .nameAndType 40 41), (0, u "returned"), (0, u "()Lcom/example/lineweave/lineweave/explore/State$ThreadState;"), (3, u "law"), (0, u "(I)Z")] 6

def k1m0 : Method := { name := "<init>", desc := "()V", sig := { parameters := [], returnType := none }, accessFlags := 1, code := none }
def k1c1 : Code := { maxStack := 2, maxLocals := 2, code := method_2_code, exceptionTable := #[], attributes := #[] }
def k1m1 : Method := { name := "idle", desc := "(Lcom/example/lineweave/lineweave/explore/State$ThreadState;I)Z", sig := { parameters := [(.object "com/example/lineweave/lineweave/explore/State$ThreadState"), .int], returnType := some .boolean }, accessFlags := 10, code := some k1c1 }
def k1c2 : Code := { maxStack := 2, maxLocals := 4, code := code, exceptionTable := #[], attributes := #[] }
def k1m2 : Method := { name := "law", desc := "(I)Z", sig := { parameters := [.int], returnType := some .boolean }, accessFlags := 9, code := some k1c2 }
/-- com/example/lineweave/lineweave/explore/ThreadStateBetweenPinLaw -/
def k1 : Class := { plain "com/example/lineweave/lineweave/explore/ThreadStateBetweenPinLaw" (some 0) with
  accessFlags := 49
  interfaces := #[]
  cf := some (fileOf pool1 33 #[] #[{ accessFlags := 1, nameIndex := 5, descriptorIndex := 6, attributes := #[] }, { accessFlags := 10, nameIndex := 36, descriptorIndex := 37, attributes := #[] }, { accessFlags := 9, nameIndex := 45, descriptorIndex := 46, attributes := #[] }] 49 2 #[] #[])
  fields := #[]
  methods := #[k1m0, k1m1, k1m2]
  instanceTypes := #[]
  staticTypes := #[]
  resolved := Array.replicate 53 none
  statics := none }

def pool2 : Array CpInfo := pool [(1, .methodref 2 3), (0, .class_ 4), (0, .nameAndType 5 6), (0, u "java/lang/Object"), (0, u "<init>"), (0, u "()V"), (0, .fieldref 8 9), (0, .class_ 10), (0, .nameAndType 11 12), (0, u "com/example/lineweave/lineweave/explore/State$ThreadState"), (0, u "callsMade"), (0, u "I"), (0, .fieldref 8 14), (0, .nameAndType 15 16), (0, u "method"), (0, u "Lcom/example/lineweave/lineweave/language/Procedure;"), (0, .fieldref 8 18), (0, .nameAndType 19 12), (0, u "next"), (0, .fieldref 8 21), (0, .nameAndType 22 23), (0, u "locals"), (0, u "[Lcom/example/lineweave/lineweave/language/Value;"), (6, .methodref 8 31), (0, .nameAndType 5 32), (0, u "(ILcom/example/lineweave/lineweave/language/Procedure;I[Lcom/example/lineweave/lineweave/language/Value;)V"), (0, .fieldref 8 34), (0, .nameAndType 35 23), (0, u "NO_LOCALS"), (12, .methodref 8 49), (0, .nameAndType 50 51), (0, u "between"), (0, u "(I)Lcom/example/lineweave/lineweave/explore/State$ThreadState;"), (6, u "inCall"), (0, u "()Z"), (3, u "returned"), (0, u "()Lcom/example/lineweave/lineweave/explore/State$ThreadState;"), (4, .class_ 70), (0, u "com/example/lineweave/lineweave/explore/State")] 2

def k2c0 : Code := { maxStack := 2, maxLocals := 5, code := prog_24_method_1_code, exceptionTable := #[], attributes := #[] }
def k2m0 : Method := { name := "<init>", desc := "(ILcom/example/lineweave/lineweave/language/Procedure;I[Lcom/example/lineweave/lineweave/language/Value;)V", sig := { parameters := [.int, (.object "com/example/lineweave/lineweave/language/Procedure"), .int, (.array (.object "com/example/lineweave/lineweave/language/Value"))], returnType := none }, accessFlags := 0, code := some k2c0 }
def k2c1 : Code := { maxStack := 6, maxLocals := 1, code := prog_24_method_3_code, exceptionTable := #[], attributes := #[] }
def k2m1 : Method := { name := "between", desc := "(I)Lcom/example/lineweave/lineweave/explore/State$ThreadState;", sig := { parameters := [.int], returnType := some (.object "com/example/lineweave/lineweave/explore/State$ThreadState") }, accessFlags := 8, code := some k2c1 }
def k2c2 : Code := { maxStack := 1, maxLocals := 1, code := prog_24_method_4_code, exceptionTable := #[], attributes := #[] }
def k2m2 : Method := { name := "inCall", desc := "()Z", sig := { parameters := [], returnType := some .boolean }, accessFlags := 0, code := some k2c2 }
def k2c3 : Code := { maxStack := 1, maxLocals := 1, code := prog_24_method_6_code, exceptionTable := #[], attributes := #[] }
def k2m3 : Method := { name := "returned", desc := "()Lcom/example/lineweave/lineweave/explore/State$ThreadState;", sig := { parameters := [], returnType := some (.object "com/example/lineweave/lineweave/explore/State$ThreadState") }, accessFlags := 0, code := some k2c3 }
/-- com/example/lineweave/lineweave/explore/State$ThreadState -/
def k2 : Class := { plain "com/example/lineweave/lineweave/explore/State$ThreadState" (some 0) with
  accessFlags := 48
  interfaces := #[]
  cf := some (fileOf pool2 8 #[.nestHost 69] #[{ accessFlags := 0, nameIndex := 5, descriptorIndex := 32, attributes := #[] }, { accessFlags := 8, nameIndex := 50, descriptorIndex := 51, attributes := #[] }, { accessFlags := 0, nameIndex := 58, descriptorIndex := 59, attributes := #[] }, { accessFlags := 0, nameIndex := 63, descriptorIndex := 64, attributes := #[] }] 48 2 #[] #[{ accessFlags := 26, nameIndex := 35, descriptorIndex := 23, attributes := #[] }, { accessFlags := 16, nameIndex := 11, descriptorIndex := 12, attributes := #[] }, { accessFlags := 16, nameIndex := 15, descriptorIndex := 16, attributes := #[] }, { accessFlags := 16, nameIndex := 19, descriptorIndex := 12, attributes := #[] }, { accessFlags := 16, nameIndex := 22, descriptorIndex := 23, attributes := #[] }])
  fields := #[{ name := "NO_LOCALS", type := (.array (.object "com/example/lineweave/lineweave/language/Value")), accessFlags := 26, slot := 0, constantValue := 0 }, { name := "callsMade", type := .int, accessFlags := 16, slot := 0, constantValue := 0 }, { name := "method", type := (.object "com/example/lineweave/lineweave/language/Procedure"), accessFlags := 16, slot := 1, constantValue := 0 }, { name := "next", type := .int, accessFlags := 16, slot := 2, constantValue := 0 }, { name := "locals", type := (.array (.object "com/example/lineweave/lineweave/language/Value")), accessFlags := 16, slot := 3, constantValue := 0 }]
  methods := #[k2m0, k2m1, k2m2, k2m3]
  instanceTypes := #[.int, (.object "com/example/lineweave/lineweave/language/Procedure"), .int, (.array (.object "com/example/lineweave/lineweave/language/Value"))]
  staticTypes := #[(.array (.object "com/example/lineweave/lineweave/language/Value"))]
  resolved := Array.replicate 73 none
  statics := some 0 }

def pool3 : Array CpInfo := pool [(2, .class_ 4), (1, u "com/example/lineweave/lineweave/language/Value$Int"), (3, .class_ 10), (1, u "com/example/lineweave/lineweave/language/Value$Bool"), (5, .class_ 17), (0, u "com/example/lineweave/lineweave/language/Value$Opaque"), (1, .class_ 21), (1, u "com/example/lineweave/lineweave/language/Value"), (42, .class_ 65), (0, u "com/example/lineweave/lineweave/language/Value$Seq"), (76, u "NIL"), (0, u "Lcom/example/lineweave/lineweave/language/Value;"), (47, .class_ 192), (0, u "com/example/lineweave/lineweave/language/Value$Ref"), (14, .class_ 208), (0, u "com/example/lineweave/lineweave/language/Value$Nil"), (1, .class_ 211), (0, u "java/lang/Object")] 61

/-- com/example/lineweave/lineweave/language/Value -/
def k3 : Class := { plain "com/example/lineweave/lineweave/language/Value" (some 0) with
  accessFlags := 1537
  interfaces := #[]
  cf := some (fileOf pool3 19 #[.nestMembers #[64, 191, 207, 8, 16, 2]] #[] 1537 210 #[] #[{ accessFlags := 25, nameIndex := 142, descriptorIndex := 143, attributes := #[] }])
  fields := #[{ name := "NIL", type := (.object "com/example/lineweave/lineweave/language/Value"), accessFlags := 25, slot := 0, constantValue := 0 }]
  methods := #[]
  instanceTypes := #[]
  staticTypes := #[(.object "com/example/lineweave/lineweave/language/Value")]
  resolved := Array.replicate 273 none
  statics := none }

def pool4 : Array CpInfo := pool [(1, u "java/lang/Cloneable"), (0, .class_ 1), (0, u "java/lang/Object"), (0, .class_ 3)] 3

/-- java/lang/Cloneable -/
def k4 : Class := { plain "java/lang/Cloneable" (some 0) with
  accessFlags := 1537
  interfaces := #[]
  cf := some (fileOf pool4 2 #[] #[] 1537 4 #[] #[])
  fields := #[]
  methods := #[]
  instanceTypes := #[]
  staticTypes := #[]
  resolved := Array.replicate 8 none
  statics := none }

def pool5 : Array CpInfo := pool [(1, u "java/io/Serializable"), (0, .class_ 1), (0, u "java/lang/Object"), (0, .class_ 3)] 3

/-- java/io/Serializable -/
def k5 : Class := { plain "java/io/Serializable" (some 0) with
  accessFlags := 1537
  interfaces := #[]
  cf := some (fileOf pool5 2 #[] #[] 1537 4 #[] #[])
  fields := #[]
  methods := #[]
  instanceTypes := #[]
  staticTypes := #[]
  resolved := Array.replicate 8 none
  statics := none }

/-- the primitive byte -/
def k6 : Class := { plain "byte" none with kind := .primitive 'B', accessFlags := 0x411 }
/-- [B -/
def k7 : Class := { plain "[B" (some 0) with kind := .array 6 .byte, interfaces := #[4, 5], accessFlags := 1041 }

/-- the primitive int -/
def k8 : Class := { plain "int" none with kind := .primitive 'I', accessFlags := 0x411 }
/-- [I -/
def k9 : Class := { plain "[I" (some 0) with kind := .array 8 .int, interfaces := #[4, 5], accessFlags := 1041 }

/-- [Lcom/example/lineweave/lineweave/language/Value; -/
def k10 : Class := { plain "[Lcom/example/lineweave/lineweave/language/Value;" (some 0) with kind := .array 3 (.object "com/example/lineweave/lineweave/language/Value"), interfaces := #[4, 5], accessFlags := 1041 }

def heap : Heap := #[{ cls := 2, slots := #[.ref 1], vm := .statics 2 },
  { cls := 10, slots := #[], vm := .none }]
def classes : Array Class := #[k0, k1, k2, k3, k4, k5, k6, k7, k8, k9, k10]
def interned : List (Array UInt16 × Addr) := []
def slotsUsed : Nat := 1
def theMethod : MethodId := ⟨1, 2⟩
def args0 : Array Value := #[.int 5]
def aboutOver (below : List Frame) : State where
  vm := { classes := classes, interned := interned.toArray }
  heap := heap
  slotsUsed := slotsUsed
  threads := #[{ frames := .invoking theMethod args0 :: below }]
def below0 : List Frame := [.native { method := ⟨0, 0⟩, args := #[] }]
def about1 : State := aboutOver below0
def p0 : Program := .bare "" "" ""
def e0 : Env := launch0.env 0 0 0
theorem w_frames : about1.frames = Frame.invoking theMethod args0 :: below0 := rfl
set_option maxRecDepth 65536 in
theorem w_args : argsFit about1.vm theMethod args0 = true := by decide +kernel
set_option maxRecDepth 65536 in
theorem w_heap : heapFits about1 = true := by decide +kernel
set_option maxRecDepth 65536 in
theorem w_runnable : about1.curStatus? = some .runnable := by decide +kernel
set_option maxRecDepth 65536 in
theorem w_alone : about1.alone = true := by decide +kernel
set_option maxRecDepth 65536 in
theorem w_named : about1.methodNamed? x = some theMethod := by decide +kernel
set_option maxRecDepth 65536 in
theorem w_hears : about1.hears theMethod below0 = true := by decide +kernel
set_option maxRecDepth 65536 in
theorem w_ripe : about1.ripe theMethod args0 below0 = true := by decide +kernel
theorem w_running : about1.status = .running := rfl
set_option maxRecDepth 65536 in
theorem w_room : about1.hasRoom e0.platform room_1 = true :=
  launch0.hasRoom_least _ room_1 (by decide +kernel) (by decide +kernel) (by decide +kernel) (by decide +kernel) (by decide +kernel) (by decide +kernel)
theorem allAtoms_all (ts : List Jvm.Cond) (a : Array Jvm.Value) (st : Jvm.State) : (allAtoms ts).before a st = ts.all (fun c => c.before a st) := by
  induction ts with
  | nil => rfl
  | cons c t ih =>
    show (Jvm.Cond.and c (allAtoms t)).before a st = _
    rw [Jvm.Cond.before_and, ih, List.all_cons]
def words1 : List Jvm.Cond := Jvm.Cond.code x code maxLocals ret :: tables_1
/-- a 'code' word, met by the world's own term for the bytes: nothing is compared byte by byte -/
theorem code_word {y : MethodName} {bytes : ByteArray} {mx : Nat} {rt : Option FieldType} {a : Array Value} {s : State} {m : MethodId} {meth : Method} {c : Code} (h1 : s.methodNamed? y = some m) (h2 : s.vm.method? m = some meth) (h3 : meth.code = some c) (h4 : c.code = bytes)
    (h5 : (c.maxLocals == mx && c.exceptionTable.isEmpty && decide (c.maxStack ≤ mostOperands) && decide (meth.sig.returnType = rt) && !meth.locks && decide (parseMethodDescriptor y.desc = some meth.sig)) = true) : (Jvm.Cond.code y bytes mx rt).before a s = true := by
  simp only [Bool.and_eq_true, beq_iff_eq, Bool.not_eq_true', decide_eq_true_eq] at h5
  obtain ⟨⟨⟨⟨⟨g1, g2⟩, g3⟩, g4⟩, g5⟩, g6⟩ := h5
  simp [Cond.before, Cond.holds, Cond.value, h1, h2, h3, h4, g1, g2, g3, g4, g5, g6]
def isCode : Jvm.Cond → Bool
  | .code _ _ _ _ => true
  | _ => false
theorem all_split {L : List Jvm.Cond} {P : Jvm.Cond → Bool} (h1 : L.all (fun c => isCode c || P c) = true) (h2 : ∀ c ∈ L.filter isCode, P c = true) : L.all P = true := by
  refine List.all_eq_true.mpr fun c hc => ?_
  have h := List.all_eq_true.mp h1 c hc
  rcases Bool.eq_false_or_eq_true (isCode c) with hi | hi
  · exact h2 c (List.mem_filter.mpr ⟨hc, hi⟩)
  · simpa [hi] using h
set_option maxRecDepth 65536 in
theorem w_c0 : (Jvm.Cond.code x code maxLocals ret).before args0 about1 = true := code_word (m := ⟨1, 2⟩) (meth := k1m2) (c := k1c2) (by decide +kernel) rfl rfl rfl (by decide +kernel)
set_option maxRecDepth 65536 in
theorem w_c1 : (Jvm.Cond.code ({ cls := "com/example/lineweave/lineweave/explore/State$ThreadState", name := "between", desc := "(I)Lcom/example/lineweave/lineweave/explore/State$ThreadState;" } : Jvm.MethodName) prog_24_method_3_code (1 : Nat) (Option.some (Jvm.ClassFile.FieldType.object "com/example/lineweave/lineweave/explore/State$ThreadState"))).before args0 about1 = true := code_word (m := ⟨2, 1⟩) (meth := k2m1) (c := k2c1) (by decide +kernel) rfl rfl rfl (by decide +kernel)
set_option maxRecDepth 65536 in
theorem w_c2 : (Jvm.Cond.code ({ cls := "com/example/lineweave/lineweave/explore/State$ThreadState", name := "<init>", desc := "(ILcom/example/lineweave/lineweave/language/Procedure;I[Lcom/example/lineweave/lineweave/language/Value;)V" } : Jvm.MethodName) prog_24_method_1_code (5 : Nat) (Option.none : Option Jvm.ClassFile.FieldType)).before args0 about1 = true := code_word (m := ⟨2, 0⟩) (meth := k2m0) (c := k2c0) (by decide +kernel) rfl rfl rfl (by decide +kernel)
set_option maxRecDepth 65536 in
theorem w_c3 : (Jvm.Cond.code ({ cls := "java/lang/Object", name := "<init>", desc := "()V" } : Jvm.MethodName) object_method_1_code (1 : Nat) (Option.none : Option Jvm.ClassFile.FieldType)).before args0 about1 = true := code_word (m := ⟨0, 0⟩) (meth := k0m0) (c := k0c0) (by decide +kernel) rfl rfl rfl (by decide +kernel)
set_option maxRecDepth 65536 in
theorem w_c4 : (Jvm.Cond.code ({ cls := "com/example/lineweave/lineweave/explore/ThreadStateBetweenPinLaw", name := "idle", desc := "(Lcom/example/lineweave/lineweave/explore/State$ThreadState;I)Z" } : Jvm.MethodName) method_2_code (2 : Nat) (Option.some Jvm.ClassFile.FieldType.boolean)).before args0 about1 = true := code_word (m := ⟨1, 1⟩) (meth := k1m1) (c := k1c1) (by decide +kernel) rfl rfl rfl (by decide +kernel)
set_option maxRecDepth 65536 in
theorem w_c5 : (Jvm.Cond.code ({ cls := "com/example/lineweave/lineweave/explore/State$ThreadState", name := "inCall", desc := "()Z" } : Jvm.MethodName) prog_24_method_4_code (1 : Nat) (Option.some Jvm.ClassFile.FieldType.boolean)).before args0 about1 = true := code_word (m := ⟨2, 2⟩) (meth := k2m2) (c := k2c2) (by decide +kernel) rfl rfl rfl (by decide +kernel)
set_option maxRecDepth 65536 in
theorem w_c6 : (Jvm.Cond.code ({ cls := "com/example/lineweave/lineweave/explore/State$ThreadState", name := "returned", desc := "()Lcom/example/lineweave/lineweave/explore/State$ThreadState;" } : Jvm.MethodName) prog_24_method_6_code (1 : Nat) (Option.some (Jvm.ClassFile.FieldType.object "com/example/lineweave/lineweave/explore/State$ThreadState"))).before args0 about1 = true := code_word (m := ⟨2, 3⟩) (meth := k2m3) (c := k2c3) (by decide +kernel) rfl rfl rfl (by decide +kernel)
def codes1 : List Jvm.Cond := [Jvm.Cond.code x code maxLocals ret, Jvm.Cond.code ({ cls := "com/example/lineweave/lineweave/explore/State$ThreadState", name := "between", desc := "(I)Lcom/example/lineweave/lineweave/explore/State$ThreadState;" } : Jvm.MethodName) prog_24_method_3_code (1 : Nat) (Option.some (Jvm.ClassFile.FieldType.object "com/example/lineweave/lineweave/explore/State$ThreadState")), Jvm.Cond.code ({ cls := "com/example/lineweave/lineweave/explore/State$ThreadState", name := "<init>", desc := "(ILcom/example/lineweave/lineweave/language/Procedure;I[Lcom/example/lineweave/lineweave/language/Value;)V" } : Jvm.MethodName) prog_24_method_1_code (5 : Nat) (Option.none : Option Jvm.ClassFile.FieldType), Jvm.Cond.code ({ cls := "java/lang/Object", name := "<init>", desc := "()V" } : Jvm.MethodName) object_method_1_code (1 : Nat) (Option.none : Option Jvm.ClassFile.FieldType), Jvm.Cond.code ({ cls := "com/example/lineweave/lineweave/explore/ThreadStateBetweenPinLaw", name := "idle", desc := "(Lcom/example/lineweave/lineweave/explore/State$ThreadState;I)Z" } : Jvm.MethodName) method_2_code (2 : Nat) (Option.some Jvm.ClassFile.FieldType.boolean), Jvm.Cond.code ({ cls := "com/example/lineweave/lineweave/explore/State$ThreadState", name := "inCall", desc := "()Z" } : Jvm.MethodName) prog_24_method_4_code (1 : Nat) (Option.some Jvm.ClassFile.FieldType.boolean), Jvm.Cond.code ({ cls := "com/example/lineweave/lineweave/explore/State$ThreadState", name := "returned", desc := "()Lcom/example/lineweave/lineweave/explore/State$ThreadState;" } : Jvm.MethodName) prog_24_method_6_code (1 : Nat) (Option.some (Jvm.ClassFile.FieldType.object "com/example/lineweave/lineweave/explore/State$ThreadState"))]
set_option maxRecDepth 65536 in
theorem codes_eq : words1.filter isCode = codes1 := rfl
theorem w_codes : ∀ c ∈ words1.filter isCode, c.before args0 about1 = true := by
  rw [codes_eq]
  intro c hc
  simp only [codes1, List.mem_cons, List.not_mem_nil, or_false] at hc
  rcases hc with rfl | rfl | rfl | rfl | rfl | rfl | rfl
  · exact w_c0
  · exact w_c1
  · exact w_c2
  · exact w_c3
  · exact w_c4
  · exact w_c5
  · exact w_c6
set_option maxRecDepth 65536 in
theorem w_t1 : (words1.take 24).all (fun c => isCode c || c.before args0 about1) = true := by decide +kernel
set_option maxRecDepth 65536 in
theorem w_t2 : (words1.drop 24).all (fun c => isCode c || c.before args0 about1) = true := by decide +kernel
theorem w_tables : (allAtoms (Jvm.Cond.code x code maxLocals ret :: tables_1)).before args0 about1 = true := by
  rw [allAtoms_all]
  show words1.all (fun c => c.before args0 about1) = true
  refine all_split ?_ w_codes
  rw [← List.take_append_drop 24 words1, List.all_append, w_t1, w_t2]
  rfl
set_option maxRecDepth 65536 in
theorem w_case : (Jvm.Cond.and given_1 narrow_1).before args0 about1 = true := by decide +kernel
theorem w_applies : (headSpec (Jvm.Cond.code x code maxLocals ret :: tables_1) room_1).applies x e0.platform about1 = true :=
  (Spec.applies_iff w_frames).mpr ⟨w_running, w_runnable, w_alone, w_named, w_hears, w_ripe, w_room, w_tables⟩
theorem atStart : AtStart classFile x code maxLocals ret World_1 tables_1 room_1 Calls_1 rest_1 Pre_1 launch0 p0 e0 about1 theMethod args0 below0 :=
  ⟨lists_1, trivial, launch0.admits_env _ _ _, launch0.least_env, fairChoices_fair.cas, fairChoices_fair.clock, w_frames, w_args, w_heap, w_applies, trivial, trivial, w_case⟩
end start1
theorem witness_1 : WitnessClaimed_1 := ⟨start1.p0, start1.e0, start1.about1, start1.theMethod, start1.args0, start1.below0, start1.atStart⟩
end Jvm.Pilot.@@N@@

import JvmDerived
import JvmDerived.Pilot.@@N@@Statement
import JvmDerived.Pilot.@@N@@Code
set_option linter.unusedVariables false
set_option linter.unusedSimpArgs false
@@BLOCK:NumsL.lean.txt@@
@@BLOCK:Masks.lean.txt@@
namespace Jvm.RoadKit
open Sem ClassFile Op Lib Jvm.Stand Jvm.Free Jvm.LawKit
section New
variable {p : Program} {l : Launch} {e : Env} {R : Room} {s : State} {m : MethodId} {args : Array Value} {below : List Frame} {meth : Method} {c : Code} {T : State} {locs : List Loc} {cells slots : Nat}
theorem retI (X : Stand p l e R s m args below meth c T locs cells slots) (hx : p.tables.exec = Jvm.exec) {pc : Nat} {Ls : Array Slot} {z : Int32} {rest : List Value} (hret : meth.sig.returnType = some .int) (hd : decode c.code pc = .ok (.ireturn, 1)) {fs : List Frame}
    (hl : ∀ (f : JFrame) (acts : List Action), f.method = m → f.locked = none → f.entered = [] → (doReturn e (T.setTop f) acts (some (.int z))).1 = T.setFrames fs) : Steps p.tables e below (T.setTop (mkF m pc Ls (.int z :: rest))) (T.setFrames fs) := by
  have hm' : T.vm.method? m = some meth := X.method'
  have hn : narrow .int (.int z) = .int z := rfl
  show Steps p.tables e below (T.setTop { method := m, pc := pc, locals := Ls, stack := _ :: rest, locked := none }) _
  jvm_step X.here [X.here.top, hx, hd, hm', hret, hn]
  first | (intro acts; rw [hl _ acts rfl rfl rfl]) | rw [hl _ _ rfl rfl rfl]
  exact Steps.refl _
theorem retJ (X : Stand p l e R s m args below meth c T locs cells slots) (hx : p.tables.exec = Jvm.exec) {pc : Nat} {Ls : Array Slot} {z : Int64} {rest : List Value} (hret : meth.sig.returnType = some .long) (hd : decode c.code pc = .ok (.lreturn, 1)) {fs : List Frame}
    (hl : ∀ (f : JFrame) (acts : List Action), f.method = m → f.locked = none → f.entered = [] → (doReturn e (T.setTop f) acts (some (.long z))).1 = T.setFrames fs) : Steps p.tables e below (T.setTop (mkF m pc Ls (.long z :: rest))) (T.setFrames fs) := by
  have hm' : T.vm.method? m = some meth := X.method'
  have hn : narrow .long (.long z) = .long z := rfl
  show Steps p.tables e below (T.setTop { method := m, pc := pc, locals := Ls, stack := _ :: rest, locked := none }) _
  jvm_step X.here [X.here.top, hx, hd, hm', hret, hn]
  first | (intro acts; rw [hl _ acts rfl rfl rfl]) | rw [hl _ _ rfl rfl rfl]
  exact Steps.refl _
end New
theorem own_ite {α : Type} {P : Prop} [Decidable P] {f : α → Prop} {a b : α} (ha : f a) (hb : f b) : f (if P then a else b) := by split <;> assumption
theorem own_lc_eq {x y : Int64} : lcmpW x y = 0 ↔ x = y := by rw [lcW]; exact lc_eq x y
theorem own_lc_lt {x y : Int64} : lcmpW x y < 0 ↔ x < y := by rw [lcW]; exact lc_lt x y
theorem own_lc_gt {x y : Int64} : 0 < lcmpW x y ↔ y < x := by rw [lcW]; exact lc_gt x y
end Jvm.RoadKit
namespace Jvm.RoadKit
open Sem ClassFile Op Lib Jvm.Stand Jvm.Free Jvm.LawKit
section Own
variable {Z : State} {h h' : Heap} {a b : Addr} {ty : FieldType} {n j : Int32} {sl : Nat} {v : Value} {ws : List Addr} {α : Type} {mk : α → Value} {g : Nat → α} {w : α}
/-- an array: its kind, its length and, by a function, what it holds -/
def JV (mk : α → Value) (Z : State) (h : Heap) (a : Addr) (ty : FieldType) (n : Int32) (g : Nat → α) : Prop := ∃ c : Cell, Arr Z h a c ty ∧ c.slots.size = n.toNatClampNeg ∧ ¬ n < 0 ∧ ∀ i, i < c.slots.size → c.slots[i]? = some (mk (g i))
def updF (g : Nat → α) (k : Nat) (w : α) : Nat → α := fun i => if i = k then w else g i
theorem JV.lt (F : JV mk Z h a ty n g) : a < h.size := by obtain ⟨c, A, -⟩ := F; exact A.lt
theorem JV.ext (F : JV mk Z h a ty n g) (E : Ext h h') : JV mk Z h' a ty n g := by obtain ⟨c, A, r⟩ := F; exact ⟨c, A.ext E, r⟩
theorem JV.other (F : JV mk Z h b ty n g) (W : Wr h h' a sl v) (q : b ≠ a) : JV mk Z h' b ty n g := by obtain ⟨c, A, r⟩ := F; exact ⟨c, A.other W q, r⟩
theorem JV.keep (F : JV mk Z h a ty n g) (K : Keep h h' ws) (q : a ∉ ws) : JV mk Z h' a ty n g := by obtain ⟨c, A, r⟩ := F; exact ⟨c, ⟨K.2.1 a c A.1 q, A.2⟩, r⟩
theorem JV.new {k : ClassId} (A : Arr Z h a (newA k ty n) ty) (q : ¬ n < 0) (w : α) (hd : defaultValue ty = mk w) : JV mk Z h a ty n (fun _ => w) := by
  obtain ⟨c, A', -, S, N, H, -⟩ := Arv.new A q
  exact ⟨c, A', S, N, fun i hi => by rw [H i hi, hd]; rfl⟩
theorem JV.in (F : JV mk Z h a ty n g) (q : ¬ j < 0 ∧ j < n) : ∃ c : Cell, Arr Z h a c ty ∧ ¬ (j < 0 ∨ c.slots.size ≤ j.toNatClampNeg) ∧ c.slots[j.toNatClampNeg]? = some (mk (g j.toNatClampNeg)) := by
  obtain ⟨c, A, S, N, H⟩ := F
  have hin := inb_of S q
  exact ⟨c, A, hin, H _ (Nat.lt_of_not_le fun y => hin (Or.inr y))⟩
theorem JV.len (F : JV mk Z h a ty n g) : ∃ c : Cell, Arr Z h a c ty ∧ c.slots.size.toInt32 = n := by
  obtain ⟨c, A, S, N, H⟩ := F
  exact ⟨c, A, len_of S N⟩
theorem JV.nn (F : JV mk Z h a ty n g) : ¬ n < 0 := by obtain ⟨c, A, S, N, H⟩ := F; exact N
theorem JV.set (F : JV mk Z h a ty n g) (W : Wr h h' a j.toNatClampNeg (mk w)) : JV mk Z h' a ty n (updF g j.toNatClampNeg w) := by
  obtain ⟨c, A, S, N, H⟩ := F
  refine ⟨_, A.same W, ?_, N, ?_⟩
  · rw [← S]; simp [Cell.setSlot]
  · intro i hi
    have hi' : i < c.slots.size := by simpa [Cell.setSlot] using hi
    obtain ⟨cell, h1, -, h3, rfl⟩ := W
    cases A.1.symm.trans h1
    by_cases e : i = j.toNatClampNeg
    · subst e; simp [Cell.setSlot, updF, hi']
    · rw [show (c.setSlot j.toNatClampNeg (mk w)).slots[i]? = c.slots[i]? from by simp [Cell.setSlot, Array.getElem?_setIfInBounds, Ne.symm e], H i hi']
      simp [updF, e]
end Own
end Jvm.RoadKit
namespace Jvm.Pilot.@@N@@
open Jvm Jvm.ClassFile Sem Op Lib Jvm.Free Jvm.Stand Jvm.LawKit Jvm.RoadKit Bundle Jvm.Pilot.@@N@@.Jvm.D
def Lead (p : Program) (e : Env) (below : List Frame) (A B : State) : Prop := ∀ t, Steps p.tables e below B t → Steps p.tables e below A t
theorem d2_0 : decode jdk_30_method_1_code 0 = .ok (.aload_n 0, 1) := by decide +kernel
theorem d2_1 : decode jdk_30_method_1_code 1 = .ok (.invokespecial 1, 3) := by decide +kernel
theorem d2_4 : decode jdk_30_method_1_code 4 = .ok (.return_, 1) := by decide +kernel
theorem pn_java_lang_Record : plainName "java/lang/Record" = true := by first | (simp [plainName, overriddenIn]; done) | decide +kernel
theorem ef_2 (m : MethodId) (o0 : Addr) : entryFrame m #[(.ref o0)] 1 = mkF m 0 #[.val (.ref o0)] [] := by first | (simp [entryFrame, mkF, argsToLocals, Value.category]; done) | rfl
def Q2 (Z : State) (o0 : Addr)  (h0 : Heap) (n0 : Nat) (v : Option Value) (h : Heap) (L : List Loc) : Prop := v = none ∧ Fr n0 L ∧ h = h0
set_option maxRecDepth 65536 in
set_option maxHeartbeats 40000000 in
theorem rm2 (l : Launch) (Z : State) (a0 : Array Value) (hw : ∀ d ∈ tables_1, d.before a0 Z = true) (ws : List Jvm.Cond) (o0 : Addr)  (h0 : Heap) (n0 : Nat) (Z0 : n0 ≤ h0.size)  :
    MetFree l (⟨"java/lang/Record", "<init>", "()V"⟩ : MethodName) (head1 (Jvm.Cond.code (⟨"java/lang/Record", "<init>", "()V"⟩ : MethodName) jdk_30_method_1_code 1 none :: ws) ({ frames := 1, cells := 0, slots := 0, locals := 12 } : Room)) (fun a U => a = #[(.ref o0)] ∧ Z.Warmed39 U.vm ∧ U.heap = h0) (fun _ _ _ _ _ => True) (fun _ U o U' => ∃ v L, o = .returned v ∧ Q2 Z o0 h0 n0 v U'.heap L ∧ FrameEnd U o U' L ({ frames := 1, cells := 0, slots := 0, locals := 12 } : Room).cells ({ frames := 1, cells := 0, slots := 0, locals := 12 } : Room).slots) := by
  refine MetFree.of_bodySF (plainFor_of_name pn_java_lang_Record) hisR ?_
  intro p e s m args below meth c s₁ Bd hml0 hP hK
  obtain ⟨rfl, hZ, hh⟩ := hP
  have hx := Bd.exec
  have hby := Bd.bytes
  have hml : c.maxLocals = 1 := hml0
  have hown : s.vm.findClass "java/lang/Record" = some m.cls := findClass_of_methodNamed Bd.named
  have hnm := (name_of_methodNamed Bd.named Bd.method).1
  have X0 : Stand p l e ({ frames := 1, cells := 0, slots := 0, locals := 12 } : Room) s m #[(.ref o0)] below meth c s₁ [] 0 0 := Stand.of_body Bd
  have e0 : s₁.heap = h0 := by rw [← hh, Bd.state]; rfl
  have N0 := Fr.nil n0
  have K0 : Keep h0 h0 [] := Keep.refl _ _
  obtain ⟨G, hG⟩ : ∃ z, z = s₁.setTop (entryFrame m #[(.ref o0)] 1) := ⟨_, rfl⟩
  have pre0 : Lead p e below G (s₁.setTop (mkF m 0 #[.val (.ref o0)] [])) := fun t k => by rw [hG]; exact castTop (ef_2 m o0) k
  have pre1 : Lead p e below G (s₁.setTop (mkF m 1 #[.val (.ref o0)] [(.ref o0)])) := fun t k => by
    refine pre0 t ?_
    show Steps p.tables e below (s₁.setTop (mkF m 0 #[.val (.ref o0)] [])) _
    refine XS.aloadN X0.here hx rfl (hb hby d2_0) rfl rfl ?_
    show Steps p.tables e below (s₁.setTop (mkF m 1 #[.val (.ref o0)] [(.ref o0)])) _
    exact k
  obtain ⟨T2, X2, e2, st2⟩ := initO X0 hx hZ hown (hw _ (List.mem_of_getElem? (i := 11) rfl)) (hw _ (List.mem_of_getElem? (i := 12) rfl)) (hw _ (List.mem_of_getElem? (i := 13) rfl)) e0 (g := (mkF m 1 #[.val (.ref o0)] [(.ref o0)])) rfl (by rw [hml]; rfl) rfl (hb hby d2_1) (by decide) (W := 0) (by show 2 * 0 + _ ≤ _; exact Nat.le_of_eq rfl) (by decide)
  have pre2 : Lead p e below G (T2.setTop (mkF m 4 #[.val (.ref o0)] [])) := fun t k => pre1 t (st2 _ k)
  obtain ⟨fs, hr, hrun, hended, hW, hsame⟩ := X2.leave (v := none) (fun _ => rfl)
  subst hG
  refine ⟨_, _, pre2 _ ?_, hrun, hended, _, _, rfl, ?_, ⟨_, rfl⟩, hW, hsame.mono (by decide) (by decide)⟩
  · show Steps p.tables e below (T2.setTop (mkF m 4 #[.val (.ref o0)] [])) _
    exact X2.returnOut hx Bd.returns (hb hby d2_4) hr
  · show Q2 Z o0 h0 n0 _ T2.heap _
    rw [e2]
    exact ⟨rfl, N0, rfl⟩
theorem pd__28__29_V : parseMethodDescriptor "()V" = some ⟨[], none⟩ := by decide +kernel
theorem d1_0 : decode prog_19_method_1_code 0 = .ok (.aload_n 0, 1) := by decide +kernel
theorem d1_1 : decode prog_19_method_1_code 1 = .ok (.invokespecial 3, 3) := by decide +kernel
theorem d1_4 : decode prog_19_method_1_code 4 = .ok (.aload_n 0, 1) := by decide +kernel
theorem d1_5 : decode prog_19_method_1_code 5 = .ok (.iload_n 1, 1) := by decide +kernel
theorem d1_6 : decode prog_19_method_1_code 6 = .ok (.putfield 9, 3) := by decide +kernel
theorem d1_9 : decode prog_19_method_1_code 9 = .ok (.aload_n 0, 1) := by decide +kernel
theorem d1_10 : decode prog_19_method_1_code 10 = .ok (.iload_n 2, 1) := by decide +kernel
theorem d1_11 : decode prog_19_method_1_code 11 = .ok (.putfield 15, 3) := by decide +kernel
theorem d1_14 : decode prog_19_method_1_code 14 = .ok (.aload_n 0, 1) := by decide +kernel
theorem d1_15 : decode prog_19_method_1_code 15 = .ok (.iload_n 3, 1) := by decide +kernel
theorem d1_16 : decode prog_19_method_1_code 16 = .ok (.putfield 18, 3) := by decide +kernel
theorem d1_19 : decode prog_19_method_1_code 19 = .ok (.aload_n 0, 1) := by decide +kernel
theorem d1_20 : decode prog_19_method_1_code 20 = .ok (.iload 4, 2) := by decide +kernel
theorem d1_22 : decode prog_19_method_1_code 22 = .ok (.putfield 21, 3) := by decide +kernel
theorem d1_25 : decode prog_19_method_1_code 25 = .ok (.return_, 1) := by decide +kernel
theorem pn_com_example_nonesuch_nonesuch_engine_GroundProgram_GroundAtom : plainName "com/example/nonesuch/nonesuch/engine/GroundProgram$GroundAtom" = true := by first | (simp [plainName, overriddenIn]; done) | decide +kernel
theorem ef_1 (m : MethodId) (o0 : Addr) (p1 : Int32) (p2 : Int32) (p3 : Int32) (p4 : Int32) : entryFrame m #[(.ref o0), (.int p1), (.int p2), (.int p3), (.int p4)] 5 = mkF m 0 #[.val (.ref o0), .val (.int p1), .val (.int p2), .val (.int p3), .val (.int p4)] [] := by first | (simp [entryFrame, mkF, argsToLocals, Value.category]; done) | rfl
def Q1 (Z : State) (o0 : Addr) (p1 : Int32) (p2 : Int32) (p3 : Int32) (p4 : Int32)  (h0 : Heap) (n0 : Nat) (v : Option Value) (h : Heap) (L : List Loc) : Prop := v = none ∧ Fr n0 L ∧ Keep h0 h [o0] ∧ Exa Z h o0 "com/example/nonesuch/nonesuch/engine/GroundProgram$GroundAtom" ∧ Fld Z h o0 "com/example/nonesuch/nonesuch/engine/GroundProgram$GroundAtom" "predicate" "I" (.int p1) ∧ Fld Z h o0 "com/example/nonesuch/nonesuch/engine/GroundProgram$GroundAtom" "subject" "I" (.int p2) ∧ Fld Z h o0 "com/example/nonesuch/nonesuch/engine/GroundProgram$GroundAtom" "object" "I" (.int p3) ∧ Fld Z h o0 "com/example/nonesuch/nonesuch/engine/GroundProgram$GroundAtom" "negative" "Z" (.int (nar .boolean p4))
set_option maxRecDepth 65536 in
set_option maxHeartbeats 40000000 in
theorem rm1 (l : Launch) (Z : State) (a0 : Array Value) (hw : ∀ d ∈ tables_1, d.before a0 Z = true) (ws : List Jvm.Cond) (o0 : Addr) (p1 : Int32) (p2 : Int32) (p3 : Int32) (p4 : Int32)  (h0 : Heap) (n0 : Nat) (Z0 : n0 ≤ h0.size) (P0_E : Exa Z h0 o0 "com/example/nonesuch/nonesuch/engine/GroundProgram$GroundAtom") (P1_G : n0 ≤ o0) (P2_F : Fld Z h0 o0 "com/example/nonesuch/nonesuch/engine/GroundProgram$GroundAtom" "predicate" "I" (.int (0 : Int32))) (P3_F : Fld Z h0 o0 "com/example/nonesuch/nonesuch/engine/GroundProgram$GroundAtom" "subject" "I" (.int (0 : Int32))) (P4_F : Fld Z h0 o0 "com/example/nonesuch/nonesuch/engine/GroundProgram$GroundAtom" "object" "I" (.int (0 : Int32))) (P5_F : Fld Z h0 o0 "com/example/nonesuch/nonesuch/engine/GroundProgram$GroundAtom" "negative" "Z" (.int (0 : Int32))) :
    MetFree l (⟨"com/example/nonesuch/nonesuch/engine/GroundProgram$GroundAtom", "<init>", "(IIIZ)V"⟩ : MethodName) (head1 (Jvm.Cond.code (⟨"com/example/nonesuch/nonesuch/engine/GroundProgram$GroundAtom", "<init>", "(IIIZ)V"⟩ : MethodName) prog_19_method_1_code 5 none :: ws) ({ frames := 2, cells := 0, slots := 0, locals := 24 } : Room)) (fun a U => a = #[(.ref o0), (.int p1), (.int p2), (.int p3), (.int p4)] ∧ Z.Warmed39 U.vm ∧ U.heap = h0) (fun _ _ _ _ _ => True) (fun _ U o U' => ∃ v L, o = .returned v ∧ Q1 Z o0 p1 p2 p3 p4 h0 n0 v U'.heap L ∧ FrameEnd U o U' L ({ frames := 2, cells := 0, slots := 0, locals := 24 } : Room).cells ({ frames := 2, cells := 0, slots := 0, locals := 24 } : Room).slots) := by
  refine MetFree.of_bodySF (plainFor_of_name pn_com_example_nonesuch_nonesuch_engine_GroundProgram_GroundAtom) hisR ?_
  intro p e s m args below meth c s₁ Bd hml0 hP hK
  obtain ⟨rfl, hZ, hh⟩ := hP
  have hx := Bd.exec
  have hby := Bd.bytes
  have hml : c.maxLocals = 5 := hml0
  have hown : s.vm.findClass "com/example/nonesuch/nonesuch/engine/GroundProgram$GroundAtom" = some m.cls := findClass_of_methodNamed Bd.named
  have hnm := (name_of_methodNamed Bd.named Bd.method).1
  have X0 : Stand p l e ({ frames := 2, cells := 0, slots := 0, locals := 24 } : Room) s m #[(.ref o0), (.int p1), (.int p2), (.int p3), (.int p4)] below meth c s₁ [] 0 0 := Stand.of_body Bd
  have e0 : s₁.heap = h0 := by rw [← hh, Bd.state]; rfl
  have N0 := Fr.nil n0
  have K0 : Keep h0 h0 [o0] := Keep.refl _ _
  obtain ⟨G, hG⟩ : ∃ z, z = s₁.setTop (entryFrame m #[(.ref o0), (.int p1), (.int p2), (.int p3), (.int p4)] 5) := ⟨_, rfl⟩
  have pre0 : Lead p e below G (s₁.setTop (mkF m 0 #[.val (.ref o0), .val (.int p1), .val (.int p2), .val (.int p3), .val (.int p4)] [])) := fun t k => by rw [hG]; exact castTop (ef_1 m o0 p1 p2 p3 p4) k
  have pre1 : Lead p e below G (s₁.setTop (mkF m 1 #[.val (.ref o0), .val (.int p1), .val (.int p2), .val (.int p3), .val (.int p4)] [(.ref o0)])) := fun t k => by
    refine pre0 t ?_
    show Steps p.tables e below (s₁.setTop (mkF m 0 #[.val (.ref o0), .val (.int p1), .val (.int p2), .val (.int p3), .val (.int p4)] [])) _
    refine XS.aloadN X0.here hx rfl (hb hby d1_0) rfl rfl ?_
    show Steps p.tables e below (s₁.setTop (mkF m 1 #[.val (.ref o0), .val (.int p1), .val (.int p2), .val (.int p3), .val (.int p4)] [(.ref o0)])) _
    exact k
  obtain ⟨_, _, ⟨T2, L2, k2, n2⟩, -, X2, ⟨Lc2, hQ2, l2, y2, z2⟩, st2⟩ := X0.specialBack hx (y := (⟨"java/lang/Record", "<init>", "()V"⟩ : MethodName)) rfl hown (mvT hZ (hw _ (List.mem_of_getElem? (i := 6) rfl))) (mvT hZ (hw _ (List.mem_of_getElem? (i := 7) rfl))) (mvT hZ (hw _ (List.mem_of_getElem? (i := 10) rfl))) (by decide) (backOf (W := 0) (rm2 l Z a0 hw [] o0  h0 n0 (Nat.le_trans Z0 K0.1) ) hZ (hw _ (List.mem_of_getElem? (i := 10) rfl)) (hw _ (List.mem_of_getElem? (i := 9) rfl)) (by decide) (by decide)) (g := (mkF m 1 #[.val (.ref o0), .val (.int p1), .val (.int p2), .val (.int p3), .val (.int p4)] [(.ref o0)])) rfl (by rw [hml]; rfl) (Steps.refl _) (a := o0) (argsL := []) (rest := []) (lenOf pd__28__29_V rfl) rfl (by show 2 * 0 + _ ≤ _; exact Nat.le_of_eq rfl) (hb hby d1_1) (fun _ _ => ⟨rfl, e0, (by decide : 0 + 0 ≤ _), (by decide : 0 + 0 ≤ _)⟩)
  dsimp only [Pt.U, Pt.locs, Pt.cells, Pt.slots] at X2 l2 y2 z2 st2 hQ2
  subst l2 y2 z2
  obtain ⟨rfl, N2q, e2⟩ := hQ2
  have N2 := Fr.app N0 N2q
  obtain ⟨M2, Y2, N2⟩ : ∃ M, Stand p l e ({ frames := 2, cells := 0, slots := 0, locals := 24 } : Room) s m #[(.ref o0), (.int p1), (.int p2), (.int p3), (.int p4)] below meth c T2 M 0 0 ∧ Fr n0 M := ⟨_, X2, N2⟩
  have pre2 : Lead p e below G (T2.setTop (mkF m 4 #[.val (.ref o0), .val (.int p1), .val (.int p2), .val (.int p3), .val (.int p4)] [])) := fun t k => pre1 t (st2.trans k)
  have pre3 : Lead p e below G (T2.setTop (mkF m 6 #[.val (.ref o0), .val (.int p1), .val (.int p2), .val (.int p3), .val (.int p4)] [(.int p1), (.ref o0)])) := fun t k => by
    refine pre2 t ?_
    show Steps p.tables e below (T2.setTop (mkF m 4 #[.val (.ref o0), .val (.int p1), .val (.int p2), .val (.int p3), .val (.int p4)] [])) _
    refine XS.aloadN Y2.here hx rfl (hb hby d1_4) rfl rfl ?_
    show Steps p.tables e below (T2.setTop (mkF m 5 #[.val (.ref o0), .val (.int p1), .val (.int p2), .val (.int p3), .val (.int p4)] [(.ref o0)])) _
    refine XS.iloadN Y2.here hx rfl (hb hby d1_5) rfl ?_
    show Steps p.tables e below (T2.setTop (mkF m 6 #[.val (.ref o0), .val (.int p1), .val (.int p2), .val (.int p3), .val (.int p4)] [(.int p1), (.ref o0)])) _
    exact k
  obtain ⟨T4, h4, X4, e4, W4, st4⟩ := putF Y2 hx hZ hown (host := "") (Or.inl (hw _ (List.mem_of_getElem? (i := 14) rfl))) Via.refl e2 P2_F P0_E (Or.inr ⟨(hw _ (List.mem_of_getElem? (i := 15) rfl)), rfl, hnm⟩) (hw _ (List.mem_of_getElem? (i := 1) rfl)) (ty := .int) (by decide) rfl rfl (g := (mkF m 6 #[.val (.ref o0), .val (.int p1), .val (.int p2), .val (.int p3), .val (.int p4)] [(.int p1), (.ref o0)])) rfl rfl (hb hby d1_6)
  have N4 := Fr.snoc X4 N2 P1_G
  have K4 : Keep h0 h4 [o0] := K0.wr W4 (Or.inl (List.mem_of_getElem? (i := 0) rfl))
  obtain ⟨M4, Y4, N4⟩ : ∃ M, Stand p l e ({ frames := 2, cells := 0, slots := 0, locals := 24 } : Room) s m #[(.ref o0), (.int p1), (.int p2), (.int p3), (.int p4)] below meth c T4 M 0 0 ∧ Fr n0 M := ⟨_, X4, N4⟩
  have Fw4 : Fld Z h4 o0 "com/example/nonesuch/nonesuch/engine/GroundProgram$GroundAtom" "predicate" "I" (.int p1) := P2_F.same W4
  have pre4 : Lead p e below G (T4.setTop (mkF m 9 #[.val (.ref o0), .val (.int p1), .val (.int p2), .val (.int p3), .val (.int p4)] [])) := fun t k => pre3 t (st4 _ k)
  have pre5 : Lead p e below G (T4.setTop (mkF m 11 #[.val (.ref o0), .val (.int p1), .val (.int p2), .val (.int p3), .val (.int p4)] [(.int p2), (.ref o0)])) := fun t k => by
    refine pre4 t ?_
    show Steps p.tables e below (T4.setTop (mkF m 9 #[.val (.ref o0), .val (.int p1), .val (.int p2), .val (.int p3), .val (.int p4)] [])) _
    refine XS.aloadN Y4.here hx rfl (hb hby d1_9) rfl rfl ?_
    show Steps p.tables e below (T4.setTop (mkF m 10 #[.val (.ref o0), .val (.int p1), .val (.int p2), .val (.int p3), .val (.int p4)] [(.ref o0)])) _
    refine XS.iloadN Y4.here hx rfl (hb hby d1_10) rfl ?_
    show Steps p.tables e below (T4.setTop (mkF m 11 #[.val (.ref o0), .val (.int p1), .val (.int p2), .val (.int p3), .val (.int p4)] [(.int p2), (.ref o0)])) _
    exact k
  have f7 : Fld Z h4 o0 "com/example/nonesuch/nonesuch/engine/GroundProgram$GroundAtom" "subject" "I" (.int (0 : Int32)) := (P3_F.other W4 (Or.inr (slot_ne (Or.inr (hw _ (List.mem_of_getElem? (i := 17) rfl))) (Or.inr (hw _ (List.mem_of_getElem? (i := 15) rfl))) (by decide) (t := .int) (t' := .int) (by decide) (by decide))))
  have f8 : Exa Z h4 o0 "com/example/nonesuch/nonesuch/engine/GroundProgram$GroundAtom" := (P0_E.wr W4)
  obtain ⟨T6, h6, X6, e6, W6, st6⟩ := putF Y4 hx hZ hown (host := "") (Or.inl (hw _ (List.mem_of_getElem? (i := 16) rfl))) Via.refl e4 f7 f8 (Or.inr ⟨(hw _ (List.mem_of_getElem? (i := 17) rfl)), rfl, hnm⟩) (hw _ (List.mem_of_getElem? (i := 1) rfl)) (ty := .int) (by decide) rfl rfl (g := (mkF m 11 #[.val (.ref o0), .val (.int p1), .val (.int p2), .val (.int p3), .val (.int p4)] [(.int p2), (.ref o0)])) rfl rfl (hb hby d1_11)
  have N6 := Fr.snoc X6 N4 P1_G
  have K6 : Keep h0 h6 [o0] := K4.wr W6 (Or.inl (List.mem_of_getElem? (i := 0) rfl))
  obtain ⟨M6, Y6, N6⟩ : ∃ M, Stand p l e ({ frames := 2, cells := 0, slots := 0, locals := 24 } : Room) s m #[(.ref o0), (.int p1), (.int p2), (.int p3), (.int p4)] below meth c T6 M 0 0 ∧ Fr n0 M := ⟨_, X6, N6⟩
  have Fw6 : Fld Z h6 o0 "com/example/nonesuch/nonesuch/engine/GroundProgram$GroundAtom" "subject" "I" (.int p2) := f7.same W6
  have pre6 : Lead p e below G (T6.setTop (mkF m 14 #[.val (.ref o0), .val (.int p1), .val (.int p2), .val (.int p3), .val (.int p4)] [])) := fun t k => pre5 t (st6 _ k)
  have pre9 : Lead p e below G (T6.setTop (mkF m 16 #[.val (.ref o0), .val (.int p1), .val (.int p2), .val (.int p3), .val (.int p4)] [(.int p3), (.ref o0)])) := fun t k => by
    refine pre6 t ?_
    show Steps p.tables e below (T6.setTop (mkF m 14 #[.val (.ref o0), .val (.int p1), .val (.int p2), .val (.int p3), .val (.int p4)] [])) _
    refine XS.aloadN Y6.here hx rfl (hb hby d1_14) rfl rfl ?_
    show Steps p.tables e below (T6.setTop (mkF m 15 #[.val (.ref o0), .val (.int p1), .val (.int p2), .val (.int p3), .val (.int p4)] [(.ref o0)])) _
    refine XS.iloadN Y6.here hx rfl (hb hby d1_15) rfl ?_
    show Steps p.tables e below (T6.setTop (mkF m 16 #[.val (.ref o0), .val (.int p1), .val (.int p2), .val (.int p3), .val (.int p4)] [(.int p3), (.ref o0)])) _
    exact k
  have f11 : Fld Z h6 o0 "com/example/nonesuch/nonesuch/engine/GroundProgram$GroundAtom" "object" "I" (.int (0 : Int32)) := ((P4_F.other W4 (Or.inr (slot_ne (Or.inr (hw _ (List.mem_of_getElem? (i := 19) rfl))) (Or.inr (hw _ (List.mem_of_getElem? (i := 15) rfl))) (by decide) (t := .int) (t' := .int) (by decide) (by decide)))).other W6 (Or.inr (slot_ne (Or.inr (hw _ (List.mem_of_getElem? (i := 19) rfl))) (Or.inr (hw _ (List.mem_of_getElem? (i := 17) rfl))) (by decide) (t := .int) (t' := .int) (by decide) (by decide))))
  have f12 : Exa Z h6 o0 "com/example/nonesuch/nonesuch/engine/GroundProgram$GroundAtom" := (f8.wr W6)
  obtain ⟨T10, h10, X10, e10, W10, st10⟩ := putF Y6 hx hZ hown (host := "") (Or.inl (hw _ (List.mem_of_getElem? (i := 18) rfl))) Via.refl e6 f11 f12 (Or.inr ⟨(hw _ (List.mem_of_getElem? (i := 19) rfl)), rfl, hnm⟩) (hw _ (List.mem_of_getElem? (i := 1) rfl)) (ty := .int) (by decide) rfl rfl (g := (mkF m 16 #[.val (.ref o0), .val (.int p1), .val (.int p2), .val (.int p3), .val (.int p4)] [(.int p3), (.ref o0)])) rfl rfl (hb hby d1_16)
  have N10 := Fr.snoc X10 N6 P1_G
  have K10 : Keep h0 h10 [o0] := K6.wr W10 (Or.inl (List.mem_of_getElem? (i := 0) rfl))
  obtain ⟨M10, Y10, N10⟩ : ∃ M, Stand p l e ({ frames := 2, cells := 0, slots := 0, locals := 24 } : Room) s m #[(.ref o0), (.int p1), (.int p2), (.int p3), (.int p4)] below meth c T10 M 0 0 ∧ Fr n0 M := ⟨_, X10, N10⟩
  have Fw10 : Fld Z h10 o0 "com/example/nonesuch/nonesuch/engine/GroundProgram$GroundAtom" "object" "I" (.int p3) := f11.same W10
  have pre10 : Lead p e below G (T10.setTop (mkF m 19 #[.val (.ref o0), .val (.int p1), .val (.int p2), .val (.int p3), .val (.int p4)] [])) := fun t k => pre9 t (st10 _ k)
  have pre13 : Lead p e below G (T10.setTop (mkF m 22 #[.val (.ref o0), .val (.int p1), .val (.int p2), .val (.int p3), .val (.int p4)] [(.int p4), (.ref o0)])) := fun t k => by
    refine pre10 t ?_
    show Steps p.tables e below (T10.setTop (mkF m 19 #[.val (.ref o0), .val (.int p1), .val (.int p2), .val (.int p3), .val (.int p4)] [])) _
    refine XS.aloadN Y10.here hx rfl (hb hby d1_19) rfl rfl ?_
    show Steps p.tables e below (T10.setTop (mkF m 20 #[.val (.ref o0), .val (.int p1), .val (.int p2), .val (.int p3), .val (.int p4)] [(.ref o0)])) _
    refine XS.iload Y10.here hx rfl (hb hby d1_20) rfl ?_
    show Steps p.tables e below (T10.setTop (mkF m 22 #[.val (.ref o0), .val (.int p1), .val (.int p2), .val (.int p3), .val (.int p4)] [(.int p4), (.ref o0)])) _
    exact k
  have f15 : Fld Z h10 o0 "com/example/nonesuch/nonesuch/engine/GroundProgram$GroundAtom" "negative" "Z" (.int (0 : Int32)) := (((P5_F.other W4 (Or.inr (slot_ne (Or.inr (hw _ (List.mem_of_getElem? (i := 21) rfl))) (Or.inr (hw _ (List.mem_of_getElem? (i := 15) rfl))) (by decide) (t := .boolean) (t' := .int) (by decide) (by decide)))).other W6 (Or.inr (slot_ne (Or.inr (hw _ (List.mem_of_getElem? (i := 21) rfl))) (Or.inr (hw _ (List.mem_of_getElem? (i := 17) rfl))) (by decide) (t := .boolean) (t' := .int) (by decide) (by decide)))).other W10 (Or.inr (slot_ne (Or.inr (hw _ (List.mem_of_getElem? (i := 21) rfl))) (Or.inr (hw _ (List.mem_of_getElem? (i := 19) rfl))) (by decide) (t := .boolean) (t' := .int) (by decide) (by decide))))
  have f16 : Exa Z h10 o0 "com/example/nonesuch/nonesuch/engine/GroundProgram$GroundAtom" := (f12.wr W10)
  obtain ⟨T14, h14, X14, e14, W14, st14⟩ := putFN Y10 hx hZ hown (hw _ (List.mem_of_getElem? (i := 20) rfl)) Via.refl e10 f15 f16 (Or.inr ⟨(hw _ (List.mem_of_getElem? (i := 21) rfl)), rfl, hnm⟩) (hw _ (List.mem_of_getElem? (i := 1) rfl)) (ty := .boolean) (v' := (.int (nar .boolean p4))) (by decide) rfl (fits_nar_bool _) (g := (mkF m 22 #[.val (.ref o0), .val (.int p1), .val (.int p2), .val (.int p3), .val (.int p4)] [(.int p4), (.ref o0)])) rfl rfl (hb hby d1_22)
  have N14 := Fr.snoc X14 N10 P1_G
  have K14 : Keep h0 h14 [o0] := K10.wr W14 (Or.inl (List.mem_of_getElem? (i := 0) rfl))
  obtain ⟨M14, Y14, N14⟩ : ∃ M, Stand p l e ({ frames := 2, cells := 0, slots := 0, locals := 24 } : Room) s m #[(.ref o0), (.int p1), (.int p2), (.int p3), (.int p4)] below meth c T14 M 0 0 ∧ Fr n0 M := ⟨_, X14, N14⟩
  have Fw14 : Fld Z h14 o0 "com/example/nonesuch/nonesuch/engine/GroundProgram$GroundAtom" "negative" "Z" (.int (nar .boolean p4)) := f15.same W14
  have pre14 : Lead p e below G (T14.setTop (mkF m 25 #[.val (.ref o0), .val (.int p1), .val (.int p2), .val (.int p3), .val (.int p4)] [])) := fun t k => pre13 t (st14 _ k)
  obtain ⟨fs, hr, hrun, hended, hW, hsame⟩ := Y14.leave (v := none) (fun _ => rfl)
  subst hG
  refine ⟨_, _, pre14 _ ?_, hrun, hended, _, _, rfl, ?_, ⟨_, rfl⟩, hW, hsame.mono (by decide) (by decide)⟩
  · show Steps p.tables e below (T14.setTop (mkF m 25 #[.val (.ref o0), .val (.int p1), .val (.int p2), .val (.int p3), .val (.int p4)] [])) _
    exact Y14.returnOut hx Bd.returns (hb hby d1_25) hr
  · show Q1 Z o0 p1 p2 p3 p4 h0 n0 _ T14.heap _
    rw [e14]
    have f17 : Exa Z h14 o0 "com/example/nonesuch/nonesuch/engine/GroundProgram$GroundAtom" := (f16.wr W14)
    have f18 : Fld Z h14 o0 "com/example/nonesuch/nonesuch/engine/GroundProgram$GroundAtom" "predicate" "I" (.int p1) := (((Fw4.other W6 (Or.inr (slot_ne (Or.inr (hw _ (List.mem_of_getElem? (i := 15) rfl))) (Or.inr (hw _ (List.mem_of_getElem? (i := 17) rfl))) (by decide) (t := .int) (t' := .int) (by decide) (by decide)))).other W10 (Or.inr (slot_ne (Or.inr (hw _ (List.mem_of_getElem? (i := 15) rfl))) (Or.inr (hw _ (List.mem_of_getElem? (i := 19) rfl))) (by decide) (t := .int) (t' := .int) (by decide) (by decide)))).other W14 (Or.inr (slot_ne (Or.inr (hw _ (List.mem_of_getElem? (i := 15) rfl))) (Or.inr (hw _ (List.mem_of_getElem? (i := 21) rfl))) (by decide) (t := .int) (t' := .boolean) (by decide) (by decide))))
    have f19 : Fld Z h14 o0 "com/example/nonesuch/nonesuch/engine/GroundProgram$GroundAtom" "subject" "I" (.int p2) := ((Fw6.other W10 (Or.inr (slot_ne (Or.inr (hw _ (List.mem_of_getElem? (i := 17) rfl))) (Or.inr (hw _ (List.mem_of_getElem? (i := 19) rfl))) (by decide) (t := .int) (t' := .int) (by decide) (by decide)))).other W14 (Or.inr (slot_ne (Or.inr (hw _ (List.mem_of_getElem? (i := 17) rfl))) (Or.inr (hw _ (List.mem_of_getElem? (i := 21) rfl))) (by decide) (t := .int) (t' := .boolean) (by decide) (by decide))))
    have f20 : Fld Z h14 o0 "com/example/nonesuch/nonesuch/engine/GroundProgram$GroundAtom" "object" "I" (.int p3) := (Fw10.other W14 (Or.inr (slot_ne (Or.inr (hw _ (List.mem_of_getElem? (i := 19) rfl))) (Or.inr (hw _ (List.mem_of_getElem? (i := 21) rfl))) (by decide) (t := .int) (t' := .boolean) (by decide) (by decide))))
    exact ⟨rfl, N14, K14, f17, f18, f19, f20, Fw14⟩
theorem d4_0 : decode prog_3_method_1_code 0 = .ok (.aload_n 0, 1) := by decide +kernel
theorem d4_1 : decode prog_3_method_1_code 1 = .ok (.invokespecial 1, 3) := by decide +kernel
theorem d4_4 : decode prog_3_method_1_code 4 = .ok (.aload_n 0, 1) := by decide +kernel
theorem d4_5 : decode prog_3_method_1_code 5 = .ok (.iload_n 1, 1) := by decide +kernel
theorem d4_6 : decode prog_3_method_1_code 6 = .ok (.putfield 7, 3) := by decide +kernel
theorem d4_9 : decode prog_3_method_1_code 9 = .ok (.aload_n 0, 1) := by decide +kernel
theorem d4_10 : decode prog_3_method_1_code 10 = .ok (.iload_n 2, 1) := by decide +kernel
theorem d4_11 : decode prog_3_method_1_code 11 = .ok (.putfield 13, 3) := by decide +kernel
theorem d4_14 : decode prog_3_method_1_code 14 = .ok (.aload_n 0, 1) := by decide +kernel
theorem d4_15 : decode prog_3_method_1_code 15 = .ok (.iload_n 3, 1) := by decide +kernel
theorem d4_16 : decode prog_3_method_1_code 16 = .ok (.putfield 16, 3) := by decide +kernel
theorem d4_19 : decode prog_3_method_1_code 19 = .ok (.aload_n 0, 1) := by decide +kernel
theorem d4_20 : decode prog_3_method_1_code 20 = .ok (.iload 4, 2) := by decide +kernel
theorem d4_22 : decode prog_3_method_1_code 22 = .ok (.putfield 19, 3) := by decide +kernel
theorem d4_25 : decode prog_3_method_1_code 25 = .ok (.return_, 1) := by decide +kernel
theorem pn_com_example_nonesuch_nonesuch_engine_AtomPattern : plainName "com/example/nonesuch/nonesuch/engine/AtomPattern" = true := by first | (simp [plainName, overriddenIn]; done) | decide +kernel
theorem ef_4 (m : MethodId) (o0 : Addr) (p1 : Int32) (p2 : Int32) (p3 : Int32) (p4 : Int32) : entryFrame m #[(.ref o0), (.int p1), (.int p2), (.int p3), (.int p4)] 5 = mkF m 0 #[.val (.ref o0), .val (.int p1), .val (.int p2), .val (.int p3), .val (.int p4)] [] := by first | (simp [entryFrame, mkF, argsToLocals, Value.category]; done) | rfl
def Q4 (Z : State) (o0 : Addr) (p1 : Int32) (p2 : Int32) (p3 : Int32) (p4 : Int32)  (h0 : Heap) (n0 : Nat) (v : Option Value) (h : Heap) (L : List Loc) : Prop := v = none ∧ Fr n0 L ∧ Keep h0 h [o0] ∧ Exa Z h o0 "com/example/nonesuch/nonesuch/engine/AtomPattern"
set_option maxRecDepth 65536 in
set_option maxHeartbeats 40000000 in
theorem rm4 (l : Launch) (Z : State) (a0 : Array Value) (hw : ∀ d ∈ tables_1, d.before a0 Z = true) (ws : List Jvm.Cond) (o0 : Addr) (p1 : Int32) (p2 : Int32) (p3 : Int32) (p4 : Int32)  (h0 : Heap) (n0 : Nat) (Z0 : n0 ≤ h0.size) (P0_E : Exa Z h0 o0 "com/example/nonesuch/nonesuch/engine/AtomPattern") (P1_G : n0 ≤ o0) (P2_F : Fld Z h0 o0 "com/example/nonesuch/nonesuch/engine/AtomPattern" "predicate" "I" (.int (0 : Int32))) (P3_F : Fld Z h0 o0 "com/example/nonesuch/nonesuch/engine/AtomPattern" "subject" "I" (.int (0 : Int32))) (P4_F : Fld Z h0 o0 "com/example/nonesuch/nonesuch/engine/AtomPattern" "object" "I" (.int (0 : Int32))) (P5_F : Fld Z h0 o0 "com/example/nonesuch/nonesuch/engine/AtomPattern" "negative" "Z" (.int (0 : Int32))) :
    MetFree l (⟨"com/example/nonesuch/nonesuch/engine/AtomPattern", "<init>", "(IIIZ)V"⟩ : MethodName) (head1 (Jvm.Cond.code (⟨"com/example/nonesuch/nonesuch/engine/AtomPattern", "<init>", "(IIIZ)V"⟩ : MethodName) prog_3_method_1_code 5 none :: ws) ({ frames := 2, cells := 0, slots := 0, locals := 24 } : Room)) (fun a U => a = #[(.ref o0), (.int p1), (.int p2), (.int p3), (.int p4)] ∧ Z.Warmed39 U.vm ∧ U.heap = h0) (fun _ _ _ _ _ => True) (fun _ U o U' => ∃ v L, o = .returned v ∧ Q4 Z o0 p1 p2 p3 p4 h0 n0 v U'.heap L ∧ FrameEnd U o U' L ({ frames := 2, cells := 0, slots := 0, locals := 24 } : Room).cells ({ frames := 2, cells := 0, slots := 0, locals := 24 } : Room).slots) := by
  refine MetFree.of_bodySF (plainFor_of_name pn_com_example_nonesuch_nonesuch_engine_AtomPattern) hisR ?_
  intro p e s m args below meth c s₁ Bd hml0 hP hK
  obtain ⟨rfl, hZ, hh⟩ := hP
  have hx := Bd.exec
  have hby := Bd.bytes
  have hml : c.maxLocals = 5 := hml0
  have hown : s.vm.findClass "com/example/nonesuch/nonesuch/engine/AtomPattern" = some m.cls := findClass_of_methodNamed Bd.named
  have hnm := (name_of_methodNamed Bd.named Bd.method).1
  have X0 : Stand p l e ({ frames := 2, cells := 0, slots := 0, locals := 24 } : Room) s m #[(.ref o0), (.int p1), (.int p2), (.int p3), (.int p4)] below meth c s₁ [] 0 0 := Stand.of_body Bd
  have e0 : s₁.heap = h0 := by rw [← hh, Bd.state]; rfl
  have N0 := Fr.nil n0
  have K0 : Keep h0 h0 [o0] := Keep.refl _ _
  obtain ⟨G, hG⟩ : ∃ z, z = s₁.setTop (entryFrame m #[(.ref o0), (.int p1), (.int p2), (.int p3), (.int p4)] 5) := ⟨_, rfl⟩
  have pre0 : Lead p e below G (s₁.setTop (mkF m 0 #[.val (.ref o0), .val (.int p1), .val (.int p2), .val (.int p3), .val (.int p4)] [])) := fun t k => by rw [hG]; exact castTop (ef_4 m o0 p1 p2 p3 p4) k
  have pre1 : Lead p e below G (s₁.setTop (mkF m 1 #[.val (.ref o0), .val (.int p1), .val (.int p2), .val (.int p3), .val (.int p4)] [(.ref o0)])) := fun t k => by
    refine pre0 t ?_
    show Steps p.tables e below (s₁.setTop (mkF m 0 #[.val (.ref o0), .val (.int p1), .val (.int p2), .val (.int p3), .val (.int p4)] [])) _
    refine XS.aloadN X0.here hx rfl (hb hby d4_0) rfl rfl ?_
    show Steps p.tables e below (s₁.setTop (mkF m 1 #[.val (.ref o0), .val (.int p1), .val (.int p2), .val (.int p3), .val (.int p4)] [(.ref o0)])) _
    exact k
  obtain ⟨_, _, ⟨T2, L2, k2, n2⟩, -, X2, ⟨Lc2, hQ2, l2, y2, z2⟩, st2⟩ := X0.specialBack hx (y := (⟨"java/lang/Record", "<init>", "()V"⟩ : MethodName)) rfl hown (mvT hZ (hw _ (List.mem_of_getElem? (i := 28) rfl))) (mvT hZ (hw _ (List.mem_of_getElem? (i := 7) rfl))) (mvT hZ (hw _ (List.mem_of_getElem? (i := 10) rfl))) (by decide) (backOf (W := 0) (rm2 l Z a0 hw [] o0  h0 n0 (Nat.le_trans Z0 K0.1) ) hZ (hw _ (List.mem_of_getElem? (i := 10) rfl)) (hw _ (List.mem_of_getElem? (i := 9) rfl)) (by decide) (by decide)) (g := (mkF m 1 #[.val (.ref o0), .val (.int p1), .val (.int p2), .val (.int p3), .val (.int p4)] [(.ref o0)])) rfl (by rw [hml]; rfl) (Steps.refl _) (a := o0) (argsL := []) (rest := []) (lenOf pd__28__29_V rfl) rfl (by show 2 * 0 + _ ≤ _; exact Nat.le_of_eq rfl) (hb hby d4_1) (fun _ _ => ⟨rfl, e0, (by decide : 0 + 0 ≤ _), (by decide : 0 + 0 ≤ _)⟩)
  dsimp only [Pt.U, Pt.locs, Pt.cells, Pt.slots] at X2 l2 y2 z2 st2 hQ2
  subst l2 y2 z2
  obtain ⟨rfl, N2q, e2⟩ := hQ2
  have N2 := Fr.app N0 N2q
  obtain ⟨M2, Y2, N2⟩ : ∃ M, Stand p l e ({ frames := 2, cells := 0, slots := 0, locals := 24 } : Room) s m #[(.ref o0), (.int p1), (.int p2), (.int p3), (.int p4)] below meth c T2 M 0 0 ∧ Fr n0 M := ⟨_, X2, N2⟩
  have pre2 : Lead p e below G (T2.setTop (mkF m 4 #[.val (.ref o0), .val (.int p1), .val (.int p2), .val (.int p3), .val (.int p4)] [])) := fun t k => pre1 t (st2.trans k)
  have pre3 : Lead p e below G (T2.setTop (mkF m 6 #[.val (.ref o0), .val (.int p1), .val (.int p2), .val (.int p3), .val (.int p4)] [(.int p1), (.ref o0)])) := fun t k => by
    refine pre2 t ?_
    show Steps p.tables e below (T2.setTop (mkF m 4 #[.val (.ref o0), .val (.int p1), .val (.int p2), .val (.int p3), .val (.int p4)] [])) _
    refine XS.aloadN Y2.here hx rfl (hb hby d4_4) rfl rfl ?_
    show Steps p.tables e below (T2.setTop (mkF m 5 #[.val (.ref o0), .val (.int p1), .val (.int p2), .val (.int p3), .val (.int p4)] [(.ref o0)])) _
    refine XS.iloadN Y2.here hx rfl (hb hby d4_5) rfl ?_
    show Steps p.tables e below (T2.setTop (mkF m 6 #[.val (.ref o0), .val (.int p1), .val (.int p2), .val (.int p3), .val (.int p4)] [(.int p1), (.ref o0)])) _
    exact k
  obtain ⟨T4, h4, X4, e4, W4, st4⟩ := putF Y2 hx hZ hown (host := "") (Or.inl (hw _ (List.mem_of_getElem? (i := 29) rfl))) Via.refl e2 P2_F P0_E (Or.inr ⟨(hw _ (List.mem_of_getElem? (i := 30) rfl)), rfl, hnm⟩) (hw _ (List.mem_of_getElem? (i := 23) rfl)) (ty := .int) (by decide) rfl rfl (g := (mkF m 6 #[.val (.ref o0), .val (.int p1), .val (.int p2), .val (.int p3), .val (.int p4)] [(.int p1), (.ref o0)])) rfl rfl (hb hby d4_6)
  have N4 := Fr.snoc X4 N2 P1_G
  have K4 : Keep h0 h4 [o0] := K0.wr W4 (Or.inl (List.mem_of_getElem? (i := 0) rfl))
  obtain ⟨M4, Y4, N4⟩ : ∃ M, Stand p l e ({ frames := 2, cells := 0, slots := 0, locals := 24 } : Room) s m #[(.ref o0), (.int p1), (.int p2), (.int p3), (.int p4)] below meth c T4 M 0 0 ∧ Fr n0 M := ⟨_, X4, N4⟩
  have Fw4 : Fld Z h4 o0 "com/example/nonesuch/nonesuch/engine/AtomPattern" "predicate" "I" (.int p1) := P2_F.same W4
  have pre4 : Lead p e below G (T4.setTop (mkF m 9 #[.val (.ref o0), .val (.int p1), .val (.int p2), .val (.int p3), .val (.int p4)] [])) := fun t k => pre3 t (st4 _ k)
  have pre5 : Lead p e below G (T4.setTop (mkF m 11 #[.val (.ref o0), .val (.int p1), .val (.int p2), .val (.int p3), .val (.int p4)] [(.int p2), (.ref o0)])) := fun t k => by
    refine pre4 t ?_
    show Steps p.tables e below (T4.setTop (mkF m 9 #[.val (.ref o0), .val (.int p1), .val (.int p2), .val (.int p3), .val (.int p4)] [])) _
    refine XS.aloadN Y4.here hx rfl (hb hby d4_9) rfl rfl ?_
    show Steps p.tables e below (T4.setTop (mkF m 10 #[.val (.ref o0), .val (.int p1), .val (.int p2), .val (.int p3), .val (.int p4)] [(.ref o0)])) _
    refine XS.iloadN Y4.here hx rfl (hb hby d4_10) rfl ?_
    show Steps p.tables e below (T4.setTop (mkF m 11 #[.val (.ref o0), .val (.int p1), .val (.int p2), .val (.int p3), .val (.int p4)] [(.int p2), (.ref o0)])) _
    exact k
  have f7 : Fld Z h4 o0 "com/example/nonesuch/nonesuch/engine/AtomPattern" "subject" "I" (.int (0 : Int32)) := (P3_F.other W4 (Or.inr (slot_ne (Or.inr (hw _ (List.mem_of_getElem? (i := 32) rfl))) (Or.inr (hw _ (List.mem_of_getElem? (i := 30) rfl))) (by decide) (t := .int) (t' := .int) (by decide) (by decide))))
  have f8 : Exa Z h4 o0 "com/example/nonesuch/nonesuch/engine/AtomPattern" := (P0_E.wr W4)
  obtain ⟨T6, h6, X6, e6, W6, st6⟩ := putF Y4 hx hZ hown (host := "") (Or.inl (hw _ (List.mem_of_getElem? (i := 31) rfl))) Via.refl e4 f7 f8 (Or.inr ⟨(hw _ (List.mem_of_getElem? (i := 32) rfl)), rfl, hnm⟩) (hw _ (List.mem_of_getElem? (i := 23) rfl)) (ty := .int) (by decide) rfl rfl (g := (mkF m 11 #[.val (.ref o0), .val (.int p1), .val (.int p2), .val (.int p3), .val (.int p4)] [(.int p2), (.ref o0)])) rfl rfl (hb hby d4_11)
  have N6 := Fr.snoc X6 N4 P1_G
  have K6 : Keep h0 h6 [o0] := K4.wr W6 (Or.inl (List.mem_of_getElem? (i := 0) rfl))
  obtain ⟨M6, Y6, N6⟩ : ∃ M, Stand p l e ({ frames := 2, cells := 0, slots := 0, locals := 24 } : Room) s m #[(.ref o0), (.int p1), (.int p2), (.int p3), (.int p4)] below meth c T6 M 0 0 ∧ Fr n0 M := ⟨_, X6, N6⟩
  have Fw6 : Fld Z h6 o0 "com/example/nonesuch/nonesuch/engine/AtomPattern" "subject" "I" (.int p2) := f7.same W6
  have pre6 : Lead p e below G (T6.setTop (mkF m 14 #[.val (.ref o0), .val (.int p1), .val (.int p2), .val (.int p3), .val (.int p4)] [])) := fun t k => pre5 t (st6 _ k)
  have pre9 : Lead p e below G (T6.setTop (mkF m 16 #[.val (.ref o0), .val (.int p1), .val (.int p2), .val (.int p3), .val (.int p4)] [(.int p3), (.ref o0)])) := fun t k => by
    refine pre6 t ?_
    show Steps p.tables e below (T6.setTop (mkF m 14 #[.val (.ref o0), .val (.int p1), .val (.int p2), .val (.int p3), .val (.int p4)] [])) _
    refine XS.aloadN Y6.here hx rfl (hb hby d4_14) rfl rfl ?_
    show Steps p.tables e below (T6.setTop (mkF m 15 #[.val (.ref o0), .val (.int p1), .val (.int p2), .val (.int p3), .val (.int p4)] [(.ref o0)])) _
    refine XS.iloadN Y6.here hx rfl (hb hby d4_15) rfl ?_
    show Steps p.tables e below (T6.setTop (mkF m 16 #[.val (.ref o0), .val (.int p1), .val (.int p2), .val (.int p3), .val (.int p4)] [(.int p3), (.ref o0)])) _
    exact k
  have f11 : Fld Z h6 o0 "com/example/nonesuch/nonesuch/engine/AtomPattern" "object" "I" (.int (0 : Int32)) := ((P4_F.other W4 (Or.inr (slot_ne (Or.inr (hw _ (List.mem_of_getElem? (i := 34) rfl))) (Or.inr (hw _ (List.mem_of_getElem? (i := 30) rfl))) (by decide) (t := .int) (t' := .int) (by decide) (by decide)))).other W6 (Or.inr (slot_ne (Or.inr (hw _ (List.mem_of_getElem? (i := 34) rfl))) (Or.inr (hw _ (List.mem_of_getElem? (i := 32) rfl))) (by decide) (t := .int) (t' := .int) (by decide) (by decide))))
  have f12 : Exa Z h6 o0 "com/example/nonesuch/nonesuch/engine/AtomPattern" := (f8.wr W6)
  obtain ⟨T10, h10, X10, e10, W10, st10⟩ := putF Y6 hx hZ hown (host := "") (Or.inl (hw _ (List.mem_of_getElem? (i := 33) rfl))) Via.refl e6 f11 f12 (Or.inr ⟨(hw _ (List.mem_of_getElem? (i := 34) rfl)), rfl, hnm⟩) (hw _ (List.mem_of_getElem? (i := 23) rfl)) (ty := .int) (by decide) rfl rfl (g := (mkF m 16 #[.val (.ref o0), .val (.int p1), .val (.int p2), .val (.int p3), .val (.int p4)] [(.int p3), (.ref o0)])) rfl rfl (hb hby d4_16)
  have N10 := Fr.snoc X10 N6 P1_G
  have K10 : Keep h0 h10 [o0] := K6.wr W10 (Or.inl (List.mem_of_getElem? (i := 0) rfl))
  obtain ⟨M10, Y10, N10⟩ : ∃ M, Stand p l e ({ frames := 2, cells := 0, slots := 0, locals := 24 } : Room) s m #[(.ref o0), (.int p1), (.int p2), (.int p3), (.int p4)] below meth c T10 M 0 0 ∧ Fr n0 M := ⟨_, X10, N10⟩
  have Fw10 : Fld Z h10 o0 "com/example/nonesuch/nonesuch/engine/AtomPattern" "object" "I" (.int p3) := f11.same W10
  have pre10 : Lead p e below G (T10.setTop (mkF m 19 #[.val (.ref o0), .val (.int p1), .val (.int p2), .val (.int p3), .val (.int p4)] [])) := fun t k => pre9 t (st10 _ k)
  have pre13 : Lead p e below G (T10.setTop (mkF m 22 #[.val (.ref o0), .val (.int p1), .val (.int p2), .val (.int p3), .val (.int p4)] [(.int p4), (.ref o0)])) := fun t k => by
    refine pre10 t ?_
    show Steps p.tables e below (T10.setTop (mkF m 19 #[.val (.ref o0), .val (.int p1), .val (.int p2), .val (.int p3), .val (.int p4)] [])) _
    refine XS.aloadN Y10.here hx rfl (hb hby d4_19) rfl rfl ?_
    show Steps p.tables e below (T10.setTop (mkF m 20 #[.val (.ref o0), .val (.int p1), .val (.int p2), .val (.int p3), .val (.int p4)] [(.ref o0)])) _
    refine XS.iload Y10.here hx rfl (hb hby d4_20) rfl ?_
    show Steps p.tables e below (T10.setTop (mkF m 22 #[.val (.ref o0), .val (.int p1), .val (.int p2), .val (.int p3), .val (.int p4)] [(.int p4), (.ref o0)])) _
    exact k
  have f15 : Fld Z h10 o0 "com/example/nonesuch/nonesuch/engine/AtomPattern" "negative" "Z" (.int (0 : Int32)) := (((P5_F.other W4 (Or.inr (slot_ne (Or.inr (hw _ (List.mem_of_getElem? (i := 36) rfl))) (Or.inr (hw _ (List.mem_of_getElem? (i := 30) rfl))) (by decide) (t := .boolean) (t' := .int) (by decide) (by decide)))).other W6 (Or.inr (slot_ne (Or.inr (hw _ (List.mem_of_getElem? (i := 36) rfl))) (Or.inr (hw _ (List.mem_of_getElem? (i := 32) rfl))) (by decide) (t := .boolean) (t' := .int) (by decide) (by decide)))).other W10 (Or.inr (slot_ne (Or.inr (hw _ (List.mem_of_getElem? (i := 36) rfl))) (Or.inr (hw _ (List.mem_of_getElem? (i := 34) rfl))) (by decide) (t := .boolean) (t' := .int) (by decide) (by decide))))
  have f16 : Exa Z h10 o0 "com/example/nonesuch/nonesuch/engine/AtomPattern" := (f12.wr W10)
  obtain ⟨T14, h14, X14, e14, W14, st14⟩ := putFN Y10 hx hZ hown (hw _ (List.mem_of_getElem? (i := 35) rfl)) Via.refl e10 f15 f16 (Or.inr ⟨(hw _ (List.mem_of_getElem? (i := 36) rfl)), rfl, hnm⟩) (hw _ (List.mem_of_getElem? (i := 23) rfl)) (ty := .boolean) (v' := (.int (nar .boolean p4))) (by decide) rfl (fits_nar_bool _) (g := (mkF m 22 #[.val (.ref o0), .val (.int p1), .val (.int p2), .val (.int p3), .val (.int p4)] [(.int p4), (.ref o0)])) rfl rfl (hb hby d4_22)
  have N14 := Fr.snoc X14 N10 P1_G
  have K14 : Keep h0 h14 [o0] := K10.wr W14 (Or.inl (List.mem_of_getElem? (i := 0) rfl))
  obtain ⟨M14, Y14, N14⟩ : ∃ M, Stand p l e ({ frames := 2, cells := 0, slots := 0, locals := 24 } : Room) s m #[(.ref o0), (.int p1), (.int p2), (.int p3), (.int p4)] below meth c T14 M 0 0 ∧ Fr n0 M := ⟨_, X14, N14⟩
  have Fw14 : Fld Z h14 o0 "com/example/nonesuch/nonesuch/engine/AtomPattern" "negative" "Z" (.int (nar .boolean p4)) := f15.same W14
  have pre14 : Lead p e below G (T14.setTop (mkF m 25 #[.val (.ref o0), .val (.int p1), .val (.int p2), .val (.int p3), .val (.int p4)] [])) := fun t k => pre13 t (st14 _ k)
  obtain ⟨fs, hr, hrun, hended, hW, hsame⟩ := Y14.leave (v := none) (fun _ => rfl)
  subst hG
  refine ⟨_, _, pre14 _ ?_, hrun, hended, _, _, rfl, ?_, ⟨_, rfl⟩, hW, hsame.mono (by decide) (by decide)⟩
  · show Steps p.tables e below (T14.setTop (mkF m 25 #[.val (.ref o0), .val (.int p1), .val (.int p2), .val (.int p3), .val (.int p4)] [])) _
    exact Y14.returnOut hx Bd.returns (hb hby d4_25) hr
  · show Q4 Z o0 p1 p2 p3 p4 h0 n0 _ T14.heap _
    rw [e14]
    have f17 : Exa Z h14 o0 "com/example/nonesuch/nonesuch/engine/AtomPattern" := (f16.wr W14)
    exact ⟨rfl, N14, K14, f17⟩
theorem own_apart {Z : State} {a0 : Array Value} {C S O K : String} {n : Nat} (w1 : (Cond.superclass C S).before a0 Z = true) (w2 : (Cond.superclass S O).before a0 Z = true) (w3 : (Cond.noSuperclass O).before a0 Z = true) (wk : (Cond.instantiable K n).before a0 Z = true) (h1 : C ≠ K) (h2 : S ≠ K) (h3 : O ≠ K) : ∃ c t, Z.vm.findClass C = some c ∧ Z.vm.findClass K = some t ∧ Z.vm.assignable c t = false := by
  obtain ⟨t, k', g1, g2, g3, g4, -⟩ := Cond.instantiable_spec wk
  obtain ⟨cO, kO, o1, o2, o3, -, -⟩ := Cond.noSuperclass_spec w3
  have nO := ids_ne o1 g1 h3
  have nsO : NS Z O K := ⟨cO, t, o1, g1, fun fuel => by
    cases fuel with
    | zero => rfl
    | succ f => simp [Vm.isSubclassAux, nO, o2, o3]⟩
  obtain ⟨c, t', c1, c2, n3⟩ := NS.step w1 (NS.step w2 nsO h2) h1
  cases g1.symm.trans c2
  obtain ⟨p, k, kp, q1, q2, q3, q4, q5, -, q7⟩ := Cond.superclass_spec c1 w1
  have ne := ids_ne c1 g1 h1
  have gi : k'.isInterface = false := by
    cases hk : k'.isInterface with
    | false => rfl
    | true => simp [hk] at g4
  refine ⟨c, t, c1, g1, ?_⟩
  show Z.vm.assignableAux (255 + 1) c t = false
  simp [Vm.assignableAux, ne, q2, g2, q5, g3, gi, Vm.isSubclass, n3]
theorem d5_0 : decode prog_19_method_4_code 0 = .ok (.aload_n 1, 1) := by decide +kernel
theorem d5_1 : decode prog_19_method_4_code 1 = .ok (.instanceof 10, 3) := by decide +kernel
theorem d5_4 : decode prog_19_method_4_code 4 = .ok (.ifCond .eq 56, 3) := by decide +kernel
theorem d5_60 : decode prog_19_method_4_code 60 = .ok (.iconst 0, 1) := by decide +kernel
theorem d5_61 : decode prog_19_method_4_code 61 = .ok (.ireturn, 1) := by decide +kernel
def F4n  : Int32 := (nar .boolean (0 : Int32))
theorem ef_4n (m : MethodId) (o0 : Addr) : entryFrame m #[(.ref o0), .null] 3 = mkF m 0 #[.val (.ref o0), .val .null, .unset] [] := by first | (simp [entryFrame, mkF, argsToLocals, Value.category]; done) | rfl
def Q4n (Z : State) (o0 : Addr)  (h0 : Heap) (n0 : Nat) (v : Option Value) (h : Heap) (L : List Loc) : Prop := v = some (.int F4n) ∧ Fr n0 L ∧ h = h0
set_option maxRecDepth 65536 in
set_option maxHeartbeats 40000000 in
theorem rm4n (l : Launch) (Z : State) (a0 : Array Value) (hw : ∀ d ∈ tables_1, d.before a0 Z = true) (ws : List Jvm.Cond) (o0 : Addr)  (h0 : Heap) (n0 : Nat) (Z0 : n0 ≤ h0.size) (P0_E : Exa Z h0 o0 "com/example/nonesuch/nonesuch/engine/GroundProgram$GroundAtom") :
    MetFree l (⟨"com/example/nonesuch/nonesuch/engine/GroundProgram$GroundAtom", "equals", "(Ljava/lang/Object;)Z"⟩ : MethodName) (head1 (Jvm.Cond.code (⟨"com/example/nonesuch/nonesuch/engine/GroundProgram$GroundAtom", "equals", "(Ljava/lang/Object;)Z"⟩ : MethodName) prog_19_method_4_code 3 (some .boolean) :: ws) ({ frames := 0, cells := 0, slots := 0, locals := 0 } : Room)) (fun a U => a = #[(.ref o0), .null] ∧ Z.Warmed39 U.vm ∧ U.heap = h0) (fun _ _ _ _ _ => True) (fun _ U o U' => ∃ v L, o = .returned v ∧ Q4n Z o0 h0 n0 v U'.heap L ∧ FrameEnd U o U' L ({ frames := 0, cells := 0, slots := 0, locals := 0 } : Room).cells ({ frames := 0, cells := 0, slots := 0, locals := 0 } : Room).slots) := by
  refine MetFree.of_bodySF (plainFor_of_name pn_com_example_nonesuch_nonesuch_engine_GroundProgram_GroundAtom) hisR ?_
  intro p e s m args below meth c s₁ Bd hml0 hP hK
  obtain ⟨rfl, hZ, hh⟩ := hP
  have hx := Bd.exec
  have hby := Bd.bytes
  have hml : c.maxLocals = 3 := hml0
  have hown : s.vm.findClass "com/example/nonesuch/nonesuch/engine/GroundProgram$GroundAtom" = some m.cls := findClass_of_methodNamed Bd.named
  have hnm := (name_of_methodNamed Bd.named Bd.method).1
  have X0 : Stand p l e ({ frames := 0, cells := 0, slots := 0, locals := 0 } : Room) s m #[(.ref o0), .null] below meth c s₁ [] 0 0 := Stand.of_body Bd
  have e0 : s₁.heap = h0 := by rw [← hh, Bd.state]; rfl
  have N0 := Fr.nil n0
  have K0 : Keep h0 h0 [] := Keep.refl _ _
  obtain ⟨G, hG⟩ : ∃ z, z = s₁.setTop (entryFrame m #[(.ref o0), .null] 3) := ⟨_, rfl⟩
  have pre0 : Lead p e below G (s₁.setTop (mkF m 0 #[.val (.ref o0), .val .null, .unset] [])) := fun t k => by rw [hG]; exact castTop (ef_4n m o0) k
  have pre1 : Lead p e below G (s₁.setTop (mkF m 1 #[.val (.ref o0), .val .null, .unset] [.null])) := fun t k => by
    refine pre0 t ?_
    show Steps p.tables e below (s₁.setTop (mkF m 0 #[.val (.ref o0), .val .null, .unset] [])) _
    refine XS.aloadN X0.here hx rfl (hb hby d5_0) rfl rfl ?_
    show Steps p.tables e below (s₁.setTop (mkF m 1 #[.val (.ref o0), .val .null, .unset] [.null])) _
    exact k
  have st2 := X0.instanceofNull hx (g := (mkF m 1 #[.val (.ref o0), .val .null, .unset] [.null])) rfl rfl (hb hby d5_1)
  have pre2 : Lead p e below G (s₁.setTop (mkF m 4 #[.val (.ref o0), .val .null, .unset] [(.int (0 : Int32))])) := fun t k => pre1 t (st2 _ k)
  have hf3 : (0 : Int32) = (0 : Int32) := (by decide)
  obtain ⟨fs, hr, hrun, hended, hW, hsame⟩ := X0.leave (v := some (.int (nar .boolean (0 : Int32)))) (fun h => by rw [Bd.returns] at h; cases h)
  subst hG
  refine ⟨_, _, pre2 _ ?_, hrun, hended, _, _, rfl, ?_, ⟨_, rfl⟩, hW, hsame.mono (by decide) (by decide)⟩
  · show Steps p.tables e below (s₁.setTop (mkF m 4 #[.val (.ref o0), .val .null, .unset] [(.int (0 : Int32))])) _
    refine XS.ifYes X0.here hx rfl (pc0 := 4) (pc' := 60) rfl (hb hby d5_4) rfl ((if0 _ _).trans (teq hf3).1) (by decide) (by decide) ?_
    show Steps p.tables e below (s₁.setTop (mkF m 60 #[.val (.ref o0), .val .null, .unset] [])) _
    refine XS.iconst X0.here hx rfl (hb hby d5_60) ?_
    show Steps p.tables e below (s₁.setTop (mkF m 61 #[.val (.ref o0), .val .null, .unset] [(.int (0 : Int32))])) _
    exact retN X0 hx (t := .boolean) Bd.returns (by simp) (hb hby d5_61) hr
  · show Q4n Z o0 h0 n0 _ s₁.heap _
    rw [e0]
    have hv_ : (nar .boolean (0 : Int32)) = F4n  := by
      skip
      rfl
    exact ⟨congrArg (fun z => some (Value.int z)) hv_, N0, rfl⟩
def F4a  : Int32 := (nar .boolean (0 : Int32))
theorem ef_4a (m : MethodId) (o0 : Addr) (o1 : Addr) : entryFrame m #[(.ref o0), (.ref o1)] 3 = mkF m 0 #[.val (.ref o0), .val (.ref o1), .unset] [] := by first | (simp [entryFrame, mkF, argsToLocals, Value.category]; done) | rfl
def Q4a (Z : State) (o0 : Addr) (o1 : Addr)  (h0 : Heap) (n0 : Nat) (v : Option Value) (h : Heap) (L : List Loc) : Prop := v = some (.int F4a) ∧ Fr n0 L ∧ h = h0
set_option maxRecDepth 65536 in
set_option maxHeartbeats 40000000 in
theorem rm4a (l : Launch) (Z : State) (a0 : Array Value) (hw : ∀ d ∈ tables_1, d.before a0 Z = true) (ws : List Jvm.Cond) (o0 : Addr) (o1 : Addr)  (h0 : Heap) (n0 : Nat) (Z0 : n0 ≤ h0.size) (P0_E : Exa Z h0 o0 "com/example/nonesuch/nonesuch/engine/GroundProgram$GroundAtom") (P1_E : Exa Z h0 o1 "com/example/nonesuch/nonesuch/engine/AtomPattern") :
    MetFree l (⟨"com/example/nonesuch/nonesuch/engine/GroundProgram$GroundAtom", "equals", "(Ljava/lang/Object;)Z"⟩ : MethodName) (head1 (Jvm.Cond.code (⟨"com/example/nonesuch/nonesuch/engine/GroundProgram$GroundAtom", "equals", "(Ljava/lang/Object;)Z"⟩ : MethodName) prog_19_method_4_code 3 (some .boolean) :: ws) ({ frames := 0, cells := 0, slots := 0, locals := 0 } : Room)) (fun a U => a = #[(.ref o0), (.ref o1)] ∧ Z.Warmed39 U.vm ∧ U.heap = h0) (fun _ _ _ _ _ => True) (fun _ U o U' => ∃ v L, o = .returned v ∧ Q4a Z o0 o1 h0 n0 v U'.heap L ∧ FrameEnd U o U' L ({ frames := 0, cells := 0, slots := 0, locals := 0 } : Room).cells ({ frames := 0, cells := 0, slots := 0, locals := 0 } : Room).slots) := by
  refine MetFree.of_bodySF (plainFor_of_name pn_com_example_nonesuch_nonesuch_engine_GroundProgram_GroundAtom) hisR ?_
  intro p e s m args below meth c s₁ Bd hml0 hP hK
  obtain ⟨rfl, hZ, hh⟩ := hP
  have hx := Bd.exec
  have hby := Bd.bytes
  have hml : c.maxLocals = 3 := hml0
  have hown : s.vm.findClass "com/example/nonesuch/nonesuch/engine/GroundProgram$GroundAtom" = some m.cls := findClass_of_methodNamed Bd.named
  have hnm := (name_of_methodNamed Bd.named Bd.method).1
  have X0 : Stand p l e ({ frames := 0, cells := 0, slots := 0, locals := 0 } : Room) s m #[(.ref o0), (.ref o1)] below meth c s₁ [] 0 0 := Stand.of_body Bd
  have e0 : s₁.heap = h0 := by rw [← hh, Bd.state]; rfl
  have N0 := Fr.nil n0
  have K0 : Keep h0 h0 [] := Keep.refl _ _
  obtain ⟨G, hG⟩ : ∃ z, z = s₁.setTop (entryFrame m #[(.ref o0), (.ref o1)] 3) := ⟨_, rfl⟩
  have pre0 : Lead p e below G (s₁.setTop (mkF m 0 #[.val (.ref o0), .val (.ref o1), .unset] [])) := fun t k => by rw [hG]; exact castTop (ef_4a m o0 o1) k
  have pre1 : Lead p e below G (s₁.setTop (mkF m 1 #[.val (.ref o0), .val (.ref o1), .unset] [(.ref o1)])) := fun t k => by
    refine pre0 t ?_
    show Steps p.tables e below (s₁.setTop (mkF m 0 #[.val (.ref o0), .val (.ref o1), .unset] [])) _
    refine XS.aloadN X0.here hx rfl (hb hby d5_0) rfl rfl ?_
    show Steps p.tables e below (s₁.setTop (mkF m 1 #[.val (.ref o0), .val (.ref o1), .unset] [(.ref o1)])) _
    exact k
  obtain ⟨T2, X2, e2, st2⟩ := instNo X0 hx hZ hown (hw _ (List.mem_of_getElem? (i := 42) rfl)) e0 P1_E (own_apart (hw _ (List.mem_of_getElem? (i := 44) rfl)) (hw _ (List.mem_of_getElem? (i := 45) rfl)) (hw _ (List.mem_of_getElem? (i := 46) rfl)) (hw _ (List.mem_of_getElem? (i := 1) rfl)) (by decide) (by decide) (by decide)) (g := (mkF m 1 #[.val (.ref o0), .val (.ref o1), .unset] [(.ref o1)])) rfl rfl (hb hby d5_1)
  have pre2 : Lead p e below G (T2.setTop (mkF m 4 #[.val (.ref o0), .val (.ref o1), .unset] [(.int (0 : Int32))])) := fun t k => pre1 t (st2 _ k)
  have hf3 : (0 : Int32) = (0 : Int32) := (by decide)
  obtain ⟨fs, hr, hrun, hended, hW, hsame⟩ := X2.leave (v := some (.int (nar .boolean (0 : Int32)))) (fun h => by rw [Bd.returns] at h; cases h)
  subst hG
  refine ⟨_, _, pre2 _ ?_, hrun, hended, _, _, rfl, ?_, ⟨_, rfl⟩, hW, hsame.mono (by decide) (by decide)⟩
  · show Steps p.tables e below (T2.setTop (mkF m 4 #[.val (.ref o0), .val (.ref o1), .unset] [(.int (0 : Int32))])) _
    refine XS.ifYes X2.here hx rfl (pc0 := 4) (pc' := 60) rfl (hb hby d5_4) rfl ((if0 _ _).trans (teq hf3).1) (by decide) (by decide) ?_
    show Steps p.tables e below (T2.setTop (mkF m 60 #[.val (.ref o0), .val (.ref o1), .unset] [])) _
    refine XS.iconst X2.here hx rfl (hb hby d5_60) ?_
    show Steps p.tables e below (T2.setTop (mkF m 61 #[.val (.ref o0), .val (.ref o1), .unset] [(.int (0 : Int32))])) _
    exact retN X2 hx (t := .boolean) Bd.returns (by simp) (hb hby d5_61) hr
  · show Q4a Z o0 o1 h0 n0 _ T2.heap _
    rw [e2]
    have hv_ : (nar .boolean (0 : Int32)) = F4a  := by
      skip
      rfl
    exact ⟨congrArg (fun z => some (Value.int z)) hv_, N0, rfl⟩
theorem d5_7 : decode prog_19_method_4_code 7 = .ok (.aload_n 1, 1) := by decide +kernel
theorem d5_8 : decode prog_19_method_4_code 8 = .ok (.checkcast 10, 3) := by decide +kernel
theorem d5_11 : decode prog_19_method_4_code 11 = .ok (.astore_n 2, 1) := by decide +kernel
theorem d5_12 : decode prog_19_method_4_code 12 = .ok (.aload_n 2, 1) := by decide +kernel
theorem d5_13 : decode prog_19_method_4_code 13 = .ok (.getfield 9, 3) := by decide +kernel
theorem d5_16 : decode prog_19_method_4_code 16 = .ok (.aload_n 0, 1) := by decide +kernel
theorem d5_17 : decode prog_19_method_4_code 17 = .ok (.getfield 9, 3) := by decide +kernel
theorem d5_20 : decode prog_19_method_4_code 20 = .ok (.if_icmp .ne 40, 3) := by decide +kernel
theorem d5_23 : decode prog_19_method_4_code 23 = .ok (.aload_n 2, 1) := by decide +kernel
theorem d5_24 : decode prog_19_method_4_code 24 = .ok (.getfield 15, 3) := by decide +kernel
theorem d5_27 : decode prog_19_method_4_code 27 = .ok (.aload_n 0, 1) := by decide +kernel
theorem d5_28 : decode prog_19_method_4_code 28 = .ok (.getfield 15, 3) := by decide +kernel
theorem d5_31 : decode prog_19_method_4_code 31 = .ok (.if_icmp .ne 29, 3) := by decide +kernel
theorem d5_34 : decode prog_19_method_4_code 34 = .ok (.aload_n 2, 1) := by decide +kernel
theorem d5_35 : decode prog_19_method_4_code 35 = .ok (.getfield 18, 3) := by decide +kernel
theorem d5_38 : decode prog_19_method_4_code 38 = .ok (.aload_n 0, 1) := by decide +kernel
theorem d5_39 : decode prog_19_method_4_code 39 = .ok (.getfield 18, 3) := by decide +kernel
theorem d5_42 : decode prog_19_method_4_code 42 = .ok (.if_icmp .ne 18, 3) := by decide +kernel
theorem d5_45 : decode prog_19_method_4_code 45 = .ok (.aload_n 2, 1) := by decide +kernel
theorem d5_46 : decode prog_19_method_4_code 46 = .ok (.getfield 21, 3) := by decide +kernel
theorem d5_49 : decode prog_19_method_4_code 49 = .ok (.aload_n 0, 1) := by decide +kernel
theorem d5_50 : decode prog_19_method_4_code 50 = .ok (.getfield 21, 3) := by decide +kernel
theorem d5_53 : decode prog_19_method_4_code 53 = .ok (.if_icmp .ne 7, 3) := by decide +kernel
theorem d5_56 : decode prog_19_method_4_code 56 = .ok (.iconst 1, 1) := by decide +kernel
theorem d5_57 : decode prog_19_method_4_code 57 = .ok (.goto 4, 3) := by decide +kernel
def F4g (pr0 : Int32) (su0 : Int32) (ob0 : Int32) (ne0 : Int32) (pr1 : Int32) (su1 : Int32) (ob1 : Int32) (ne1 : Int32) : Int32 := if pr1 = pr0 then (if su1 = su0 then (if ob1 = ob0 then ((nar .boolean (if ne1 = ne0 then (1 : Int32) else (0 : Int32)))) else ((nar .boolean (0 : Int32)))) else ((nar .boolean (0 : Int32)))) else ((nar .boolean (0 : Int32)))
theorem ef_4g (m : MethodId) (o0 : Addr) (o1 : Addr) : entryFrame m #[(.ref o0), (.ref o1)] 3 = mkF m 0 #[.val (.ref o0), .val (.ref o1), .unset] [] := by first | (simp [entryFrame, mkF, argsToLocals, Value.category]; done) | rfl
def Q4g (Z : State) (o0 : Addr) (o1 : Addr) (pr0 : Int32) (su0 : Int32) (ob0 : Int32) (ne0 : Int32) (pr1 : Int32) (su1 : Int32) (ob1 : Int32) (ne1 : Int32) (h0 : Heap) (n0 : Nat) (v : Option Value) (h : Heap) (L : List Loc) : Prop := v = some (.int (F4g pr0 su0 ob0 ne0 pr1 su1 ob1 ne1)) ∧ Fr n0 L ∧ h = h0
set_option maxRecDepth 65536 in
set_option maxHeartbeats 40000000 in
theorem rm4g (l : Launch) (Z : State) (a0 : Array Value) (hw : ∀ d ∈ tables_1, d.before a0 Z = true) (ws : List Jvm.Cond) (o0 : Addr) (o1 : Addr) (pr0 : Int32) (su0 : Int32) (ob0 : Int32) (ne0 : Int32) (pr1 : Int32) (su1 : Int32) (ob1 : Int32) (ne1 : Int32) (h0 : Heap) (n0 : Nat) (Z0 : n0 ≤ h0.size) (P0_E : Exa Z h0 o0 "com/example/nonesuch/nonesuch/engine/GroundProgram$GroundAtom") (P1_E : Exa Z h0 o1 "com/example/nonesuch/nonesuch/engine/GroundProgram$GroundAtom") (P2_F : Fld Z h0 o0 "com/example/nonesuch/nonesuch/engine/GroundProgram$GroundAtom" "predicate" "I" (.int pr0)) (P3_F : Fld Z h0 o0 "com/example/nonesuch/nonesuch/engine/GroundProgram$GroundAtom" "subject" "I" (.int su0)) (P4_F : Fld Z h0 o0 "com/example/nonesuch/nonesuch/engine/GroundProgram$GroundAtom" "object" "I" (.int ob0)) (P5_F : Fld Z h0 o0 "com/example/nonesuch/nonesuch/engine/GroundProgram$GroundAtom" "negative" "Z" (.int ne0)) (P6_F : Fld Z h0 o1 "com/example/nonesuch/nonesuch/engine/GroundProgram$GroundAtom" "predicate" "I" (.int pr1)) (P7_F : Fld Z h0 o1 "com/example/nonesuch/nonesuch/engine/GroundProgram$GroundAtom" "subject" "I" (.int su1)) (P8_F : Fld Z h0 o1 "com/example/nonesuch/nonesuch/engine/GroundProgram$GroundAtom" "object" "I" (.int ob1)) (P9_F : Fld Z h0 o1 "com/example/nonesuch/nonesuch/engine/GroundProgram$GroundAtom" "negative" "Z" (.int ne1)) :
    MetFree l (⟨"com/example/nonesuch/nonesuch/engine/GroundProgram$GroundAtom", "equals", "(Ljava/lang/Object;)Z"⟩ : MethodName) (head1 (Jvm.Cond.code (⟨"com/example/nonesuch/nonesuch/engine/GroundProgram$GroundAtom", "equals", "(Ljava/lang/Object;)Z"⟩ : MethodName) prog_19_method_4_code 3 (some .boolean) :: ws) ({ frames := 0, cells := 0, slots := 0, locals := 0 } : Room)) (fun a U => a = #[(.ref o0), (.ref o1)] ∧ Z.Warmed39 U.vm ∧ U.heap = h0) (fun _ _ _ _ _ => True) (fun _ U o U' => ∃ v L, o = .returned v ∧ Q4g Z o0 o1 pr0 su0 ob0 ne0 pr1 su1 ob1 ne1 h0 n0 v U'.heap L ∧ FrameEnd U o U' L ({ frames := 0, cells := 0, slots := 0, locals := 0 } : Room).cells ({ frames := 0, cells := 0, slots := 0, locals := 0 } : Room).slots) := by
  refine MetFree.of_bodySF (plainFor_of_name pn_com_example_nonesuch_nonesuch_engine_GroundProgram_GroundAtom) hisR ?_
  intro p e s m args below meth c s₁ Bd hml0 hP hK
  obtain ⟨rfl, hZ, hh⟩ := hP
  have hx := Bd.exec
  have hby := Bd.bytes
  have hml : c.maxLocals = 3 := hml0
  have hown : s.vm.findClass "com/example/nonesuch/nonesuch/engine/GroundProgram$GroundAtom" = some m.cls := findClass_of_methodNamed Bd.named
  have hnm := (name_of_methodNamed Bd.named Bd.method).1
  have X0 : Stand p l e ({ frames := 0, cells := 0, slots := 0, locals := 0 } : Room) s m #[(.ref o0), (.ref o1)] below meth c s₁ [] 0 0 := Stand.of_body Bd
  have e0 : s₁.heap = h0 := by rw [← hh, Bd.state]; rfl
  have N0 := Fr.nil n0
  have K0 : Keep h0 h0 [] := Keep.refl _ _
  obtain ⟨G, hG⟩ : ∃ z, z = s₁.setTop (entryFrame m #[(.ref o0), (.ref o1)] 3) := ⟨_, rfl⟩
  have pre0 : Lead p e below G (s₁.setTop (mkF m 0 #[.val (.ref o0), .val (.ref o1), .unset] [])) := fun t k => by rw [hG]; exact castTop (ef_4g m o0 o1) k
  have pre1 : Lead p e below G (s₁.setTop (mkF m 1 #[.val (.ref o0), .val (.ref o1), .unset] [(.ref o1)])) := fun t k => by
    refine pre0 t ?_
    show Steps p.tables e below (s₁.setTop (mkF m 0 #[.val (.ref o0), .val (.ref o1), .unset] [])) _
    refine XS.aloadN X0.here hx rfl (hb hby d5_0) rfl rfl ?_
    show Steps p.tables e below (s₁.setTop (mkF m 1 #[.val (.ref o0), .val (.ref o1), .unset] [(.ref o1)])) _
    exact k
  obtain ⟨T2, X2, e2, st2⟩ := instY X0 hx hZ hown (hw _ (List.mem_of_getElem? (i := 42) rfl)) e0 (Ins.self P1_E) (g := (mkF m 1 #[.val (.ref o0), .val (.ref o1), .unset] [(.ref o1)])) rfl rfl (hb hby d5_1)
  have pre2 : Lead p e below G (T2.setTop (mkF m 4 #[.val (.ref o0), .val (.ref o1), .unset] [(.int (1 : Int32))])) := fun t k => pre1 t (st2 _ k)
  have hf3 : ¬ ((1 : Int32) = (0 : Int32)) := (by decide)
  have pre4 : Lead p e below G (T2.setTop (mkF m 8 #[.val (.ref o0), .val (.ref o1), .unset] [(.ref o1)])) := fun t k => by
    refine pre2 t ?_
    show Steps p.tables e below (T2.setTop (mkF m 4 #[.val (.ref o0), .val (.ref o1), .unset] [(.int (1 : Int32))])) _
    refine XS.ifNo X2.here hx rfl (hb hby d5_4) rfl ((if0 _ _).trans (feq hf3).1) ?_
    show Steps p.tables e below (T2.setTop (mkF m 7 #[.val (.ref o0), .val (.ref o1), .unset] [])) _
    refine XS.aloadN X2.here hx rfl (hb hby d5_7) rfl rfl ?_
    show Steps p.tables e below (T2.setTop (mkF m 8 #[.val (.ref o0), .val (.ref o1), .unset] [(.ref o1)])) _
    exact k
  obtain ⟨T5, X5, e5, st5⟩ := castY X2 hx hZ hown (hw _ (List.mem_of_getElem? (i := 42) rfl)) e2 (Ins.self P1_E) (g := (mkF m 8 #[.val (.ref o0), .val (.ref o1), .unset] [(.ref o1)])) rfl rfl (hb hby d5_8)
  have pre5 : Lead p e below G (T5.setTop (mkF m 11 #[.val (.ref o0), .val (.ref o1), .unset] [(.ref o1)])) := fun t k => pre4 t (st5 _ k)
  have pre6 : Lead p e below G (T5.setTop (mkF m 13 #[.val (.ref o0), .val (.ref o1), .val (.ref o1)] [(.ref o1)])) := fun t k => by
    refine pre5 t ?_
    show Steps p.tables e below (T5.setTop (mkF m 11 #[.val (.ref o0), .val (.ref o1), .unset] [(.ref o1)])) _
    refine XS.astoreN X5.here hx rfl (hb hby d5_11) rfl rfl (l' := #[.val (.ref o0), .val (.ref o1), .val (.ref o1)]) rfl ?_
    show Steps p.tables e below (T5.setTop (mkF m 12 #[.val (.ref o0), .val (.ref o1), .val (.ref o1)] [])) _
    refine XS.aloadN X5.here hx rfl (hb hby d5_12) rfl rfl ?_
    show Steps p.tables e below (T5.setTop (mkF m 13 #[.val (.ref o0), .val (.ref o1), .val (.ref o1)] [(.ref o1)])) _
    exact k
  obtain ⟨T7, X7, e7, st7⟩ := getF X5 hx hZ hown (host := "") (Or.inl (hw _ (List.mem_of_getElem? (i := 14) rfl))) Via.refl e5 P6_F (g := (mkF m 13 #[.val (.ref o0), .val (.ref o1), .val (.ref o1)] [(.ref o1)])) rfl rfl (hb hby d5_13)
  have pre7 : Lead p e below G (T7.setTop (mkF m 16 #[.val (.ref o0), .val (.ref o1), .val (.ref o1)] [(.int pr1)])) := fun t k => pre6 t (st7 _ k)
  have pre8 : Lead p e below G (T7.setTop (mkF m 17 #[.val (.ref o0), .val (.ref o1), .val (.ref o1)] [(.ref o0), (.int pr1)])) := fun t k => by
    refine pre7 t ?_
    show Steps p.tables e below (T7.setTop (mkF m 16 #[.val (.ref o0), .val (.ref o1), .val (.ref o1)] [(.int pr1)])) _
    refine XS.aloadN X7.here hx rfl (hb hby d5_16) rfl rfl ?_
    show Steps p.tables e below (T7.setTop (mkF m 17 #[.val (.ref o0), .val (.ref o1), .val (.ref o1)] [(.ref o0), (.int pr1)])) _
    exact k
  obtain ⟨T9, X9, e9, st9⟩ := getF X7 hx hZ hown (host := "") (Or.inl (hw _ (List.mem_of_getElem? (i := 14) rfl))) Via.refl e7 P2_F (g := (mkF m 17 #[.val (.ref o0), .val (.ref o1), .val (.ref o1)] [(.ref o0), (.int pr1)])) rfl rfl (hb hby d5_17)
  have pre9 : Lead p e below G (T9.setTop (mkF m 20 #[.val (.ref o0), .val (.ref o1), .val (.ref o1)] [(.int pr0), (.int pr1)])) := fun t k => pre8 t (st9 _ k)
  by_cases hs20_11 : pr1 = pr0
  · have pre12 : Lead p e below G (T9.setTop (mkF m 24 #[.val (.ref o0), .val (.ref o1), .val (.ref o1)] [(.ref o1)])) := fun t k => by
      refine pre9 t ?_
      show Steps p.tables e below (T9.setTop (mkF m 20 #[.val (.ref o0), .val (.ref o1), .val (.ref o1)] [(.int pr0), (.int pr1)])) _
      refine XS.icmpNo X9.here hx rfl (hb hby d5_20) rfl (teq hs20_11).2 ?_
      show Steps p.tables e below (T9.setTop (mkF m 23 #[.val (.ref o0), .val (.ref o1), .val (.ref o1)] [])) _
      refine XS.aloadN X9.here hx rfl (hb hby d5_23) rfl rfl ?_
      show Steps p.tables e below (T9.setTop (mkF m 24 #[.val (.ref o0), .val (.ref o1), .val (.ref o1)] [(.ref o1)])) _
      exact k
    obtain ⟨T13, X13, e13, st13⟩ := getF X9 hx hZ hown (host := "") (Or.inl (hw _ (List.mem_of_getElem? (i := 16) rfl))) Via.refl e9 P7_F (g := (mkF m 24 #[.val (.ref o0), .val (.ref o1), .val (.ref o1)] [(.ref o1)])) rfl rfl (hb hby d5_24)
    have pre13 : Lead p e below G (T13.setTop (mkF m 27 #[.val (.ref o0), .val (.ref o1), .val (.ref o1)] [(.int su1)])) := fun t k => pre12 t (st13 _ k)
    have pre14 : Lead p e below G (T13.setTop (mkF m 28 #[.val (.ref o0), .val (.ref o1), .val (.ref o1)] [(.ref o0), (.int su1)])) := fun t k => by
      refine pre13 t ?_
      show Steps p.tables e below (T13.setTop (mkF m 27 #[.val (.ref o0), .val (.ref o1), .val (.ref o1)] [(.int su1)])) _
      refine XS.aloadN X13.here hx rfl (hb hby d5_27) rfl rfl ?_
      show Steps p.tables e below (T13.setTop (mkF m 28 #[.val (.ref o0), .val (.ref o1), .val (.ref o1)] [(.ref o0), (.int su1)])) _
      exact k
    obtain ⟨T15, X15, e15, st15⟩ := getF X13 hx hZ hown (host := "") (Or.inl (hw _ (List.mem_of_getElem? (i := 16) rfl))) Via.refl e13 P3_F (g := (mkF m 28 #[.val (.ref o0), .val (.ref o1), .val (.ref o1)] [(.ref o0), (.int su1)])) rfl rfl (hb hby d5_28)
    have pre15 : Lead p e below G (T15.setTop (mkF m 31 #[.val (.ref o0), .val (.ref o1), .val (.ref o1)] [(.int su0), (.int su1)])) := fun t k => pre14 t (st15 _ k)
    by_cases hs31_17 : su1 = su0
    · have pre18 : Lead p e below G (T15.setTop (mkF m 35 #[.val (.ref o0), .val (.ref o1), .val (.ref o1)] [(.ref o1)])) := fun t k => by
        refine pre15 t ?_
        show Steps p.tables e below (T15.setTop (mkF m 31 #[.val (.ref o0), .val (.ref o1), .val (.ref o1)] [(.int su0), (.int su1)])) _
        refine XS.icmpNo X15.here hx rfl (hb hby d5_31) rfl (teq hs31_17).2 ?_
        show Steps p.tables e below (T15.setTop (mkF m 34 #[.val (.ref o0), .val (.ref o1), .val (.ref o1)] [])) _
        refine XS.aloadN X15.here hx rfl (hb hby d5_34) rfl rfl ?_
        show Steps p.tables e below (T15.setTop (mkF m 35 #[.val (.ref o0), .val (.ref o1), .val (.ref o1)] [(.ref o1)])) _
        exact k
      obtain ⟨T19, X19, e19, st19⟩ := getF X15 hx hZ hown (host := "") (Or.inl (hw _ (List.mem_of_getElem? (i := 18) rfl))) Via.refl e15 P8_F (g := (mkF m 35 #[.val (.ref o0), .val (.ref o1), .val (.ref o1)] [(.ref o1)])) rfl rfl (hb hby d5_35)
      have pre19 : Lead p e below G (T19.setTop (mkF m 38 #[.val (.ref o0), .val (.ref o1), .val (.ref o1)] [(.int ob1)])) := fun t k => pre18 t (st19 _ k)
      have pre20 : Lead p e below G (T19.setTop (mkF m 39 #[.val (.ref o0), .val (.ref o1), .val (.ref o1)] [(.ref o0), (.int ob1)])) := fun t k => by
        refine pre19 t ?_
        show Steps p.tables e below (T19.setTop (mkF m 38 #[.val (.ref o0), .val (.ref o1), .val (.ref o1)] [(.int ob1)])) _
        refine XS.aloadN X19.here hx rfl (hb hby d5_38) rfl rfl ?_
        show Steps p.tables e below (T19.setTop (mkF m 39 #[.val (.ref o0), .val (.ref o1), .val (.ref o1)] [(.ref o0), (.int ob1)])) _
        exact k
      obtain ⟨T21, X21, e21, st21⟩ := getF X19 hx hZ hown (host := "") (Or.inl (hw _ (List.mem_of_getElem? (i := 18) rfl))) Via.refl e19 P4_F (g := (mkF m 39 #[.val (.ref o0), .val (.ref o1), .val (.ref o1)] [(.ref o0), (.int ob1)])) rfl rfl (hb hby d5_39)
      have pre21 : Lead p e below G (T21.setTop (mkF m 42 #[.val (.ref o0), .val (.ref o1), .val (.ref o1)] [(.int ob0), (.int ob1)])) := fun t k => pre20 t (st21 _ k)
      by_cases hs42_23 : ob1 = ob0
      · have pre24 : Lead p e below G (T21.setTop (mkF m 46 #[.val (.ref o0), .val (.ref o1), .val (.ref o1)] [(.ref o1)])) := fun t k => by
          refine pre21 t ?_
          show Steps p.tables e below (T21.setTop (mkF m 42 #[.val (.ref o0), .val (.ref o1), .val (.ref o1)] [(.int ob0), (.int ob1)])) _
          refine XS.icmpNo X21.here hx rfl (hb hby d5_42) rfl (teq hs42_23).2 ?_
          show Steps p.tables e below (T21.setTop (mkF m 45 #[.val (.ref o0), .val (.ref o1), .val (.ref o1)] [])) _
          refine XS.aloadN X21.here hx rfl (hb hby d5_45) rfl rfl ?_
          show Steps p.tables e below (T21.setTop (mkF m 46 #[.val (.ref o0), .val (.ref o1), .val (.ref o1)] [(.ref o1)])) _
          exact k
        obtain ⟨T25, X25, e25, st25⟩ := getF X21 hx hZ hown (host := "") (Or.inl (hw _ (List.mem_of_getElem? (i := 20) rfl))) Via.refl e21 P9_F (g := (mkF m 46 #[.val (.ref o0), .val (.ref o1), .val (.ref o1)] [(.ref o1)])) rfl rfl (hb hby d5_46)
        have pre25 : Lead p e below G (T25.setTop (mkF m 49 #[.val (.ref o0), .val (.ref o1), .val (.ref o1)] [(.int ne1)])) := fun t k => pre24 t (st25 _ k)
        have pre26 : Lead p e below G (T25.setTop (mkF m 50 #[.val (.ref o0), .val (.ref o1), .val (.ref o1)] [(.ref o0), (.int ne1)])) := fun t k => by
          refine pre25 t ?_
          show Steps p.tables e below (T25.setTop (mkF m 49 #[.val (.ref o0), .val (.ref o1), .val (.ref o1)] [(.int ne1)])) _
          refine XS.aloadN X25.here hx rfl (hb hby d5_49) rfl rfl ?_
          show Steps p.tables e below (T25.setTop (mkF m 50 #[.val (.ref o0), .val (.ref o1), .val (.ref o1)] [(.ref o0), (.int ne1)])) _
          exact k
        obtain ⟨T27, X27, e27, st27⟩ := getF X25 hx hZ hown (host := "") (Or.inl (hw _ (List.mem_of_getElem? (i := 20) rfl))) Via.refl e25 P5_F (g := (mkF m 50 #[.val (.ref o0), .val (.ref o1), .val (.ref o1)] [(.ref o0), (.int ne1)])) rfl rfl (hb hby d5_50)
        have pre27 : Lead p e below G (T27.setTop (mkF m 53 #[.val (.ref o0), .val (.ref o1), .val (.ref o1)] [(.int ne0), (.int ne1)])) := fun t k => pre26 t (st27 _ k)
        obtain ⟨fs, hr, hrun, hended, hW, hsame⟩ := X27.leave (v := some (.int (nar .boolean (if ne1 = ne0 then (1 : Int32) else (0 : Int32))))) (fun h => by rw [Bd.returns] at h; cases h)
        subst hG
        refine ⟨_, _, pre27 _ ?_, hrun, hended, _, _, rfl, ?_, ⟨_, rfl⟩, hW, hsame.mono (by decide) (by decide)⟩
        · show Steps p.tables e below (T27.setTop (mkF m 53 #[.val (.ref o0), .val (.ref o1), .val (.ref o1)] [(.int ne0), (.int ne1)])) _
          have j29 : ∀ t, Steps p.tables e below (T27.setTop (mkF m 61 #[.val (.ref o0), .val (.ref o1), .val (.ref o1)] [(.int (if ne1 = ne0 then (1 : Int32) else (0 : Int32)))])) t → Steps p.tables e below (T27.setTop (mkF m 53 #[.val (.ref o0), .val (.ref o1), .val (.ref o1)] [(.int ne0), (.int ne1)])) t := fun t k => by
            by_cases hc53_28 : ne1 = ne0
            · simp only [if_pos hc53_28] at k
              refine XS.icmpNo X27.here hx rfl (hb hby d5_53) rfl (teq hc53_28).2 ?_
              show Steps p.tables e below (T27.setTop (mkF m 56 #[.val (.ref o0), .val (.ref o1), .val (.ref o1)] [])) _
              refine XS.iconst X27.here hx rfl (hb hby d5_56) ?_
              show Steps p.tables e below (T27.setTop (mkF m 57 #[.val (.ref o0), .val (.ref o1), .val (.ref o1)] [(.int (1 : Int32))])) _
              refine XS.goto X27.here hx rfl (pc0 := 57) (pc' := 61) rfl (hb hby d5_57) (by decide) (by decide) ?_
              show Steps p.tables e below (T27.setTop (mkF m 61 #[.val (.ref o0), .val (.ref o1), .val (.ref o1)] [(.int (1 : Int32))])) _
              exact k
            · simp only [if_neg hc53_28] at k
              refine XS.icmpYes X27.here hx rfl (pc0 := 53) (pc' := 60) rfl (hb hby d5_53) rfl (feq hc53_28).2 (by decide) (by decide) ?_
              show Steps p.tables e below (T27.setTop (mkF m 60 #[.val (.ref o0), .val (.ref o1), .val (.ref o1)] [])) _
              refine XS.iconst X27.here hx rfl (hb hby d5_60) ?_
              show Steps p.tables e below (T27.setTop (mkF m 61 #[.val (.ref o0), .val (.ref o1), .val (.ref o1)] [(.int (0 : Int32))])) _
              exact k
          refine j29 _ ?_
          show Steps p.tables e below (T27.setTop (mkF m 61 #[.val (.ref o0), .val (.ref o1), .val (.ref o1)] [(.int (if ne1 = ne0 then (1 : Int32) else (0 : Int32)))])) _
          exact retN X27 hx (t := .boolean) Bd.returns (by simp) (hb hby d5_61) hr
        · show Q4g Z o0 o1 pr0 su0 ob0 ne0 pr1 su1 ob1 ne1 h0 n0 _ T27.heap _
          rw [e27]
          have hv_ : (nar .boolean (if ne1 = ne0 then (1 : Int32) else (0 : Int32))) = F4g pr0 su0 ob0 ne0 pr1 su1 ob1 ne1 := by
            skip
            refine Eq.symm ?_; unfold F4g; refine Eq.trans (if_pos hs20_11) ?_; refine Eq.trans (if_pos hs31_17) ?_; refine Eq.trans (if_pos hs42_23) ?_; rfl
          exact ⟨congrArg (fun z => some (Value.int z)) hv_, N0, rfl⟩
      · obtain ⟨fs, hr, hrun, hended, hW, hsame⟩ := X21.leave (v := some (.int (nar .boolean (0 : Int32)))) (fun h => by rw [Bd.returns] at h; cases h)
        subst hG
        refine ⟨_, _, pre21 _ ?_, hrun, hended, _, _, rfl, ?_, ⟨_, rfl⟩, hW, hsame.mono (by decide) (by decide)⟩
        · show Steps p.tables e below (T21.setTop (mkF m 42 #[.val (.ref o0), .val (.ref o1), .val (.ref o1)] [(.int ob0), (.int ob1)])) _
          refine XS.icmpYes X21.here hx rfl (pc0 := 42) (pc' := 60) rfl (hb hby d5_42) rfl (feq hs42_23).2 (by decide) (by decide) ?_
          show Steps p.tables e below (T21.setTop (mkF m 60 #[.val (.ref o0), .val (.ref o1), .val (.ref o1)] [])) _
          refine XS.iconst X21.here hx rfl (hb hby d5_60) ?_
          show Steps p.tables e below (T21.setTop (mkF m 61 #[.val (.ref o0), .val (.ref o1), .val (.ref o1)] [(.int (0 : Int32))])) _
          exact retN X21 hx (t := .boolean) Bd.returns (by simp) (hb hby d5_61) hr
        · show Q4g Z o0 o1 pr0 su0 ob0 ne0 pr1 su1 ob1 ne1 h0 n0 _ T21.heap _
          rw [e21]
          have hv_ : (nar .boolean (0 : Int32)) = F4g pr0 su0 ob0 ne0 pr1 su1 ob1 ne1 := by
            skip
            refine Eq.symm ?_; unfold F4g; refine Eq.trans (if_pos hs20_11) ?_; refine Eq.trans (if_pos hs31_17) ?_; refine Eq.trans (if_neg hs42_23) ?_; rfl
          exact ⟨congrArg (fun z => some (Value.int z)) hv_, N0, rfl⟩
    · obtain ⟨fs, hr, hrun, hended, hW, hsame⟩ := X15.leave (v := some (.int (nar .boolean (0 : Int32)))) (fun h => by rw [Bd.returns] at h; cases h)
      subst hG
      refine ⟨_, _, pre15 _ ?_, hrun, hended, _, _, rfl, ?_, ⟨_, rfl⟩, hW, hsame.mono (by decide) (by decide)⟩
      · show Steps p.tables e below (T15.setTop (mkF m 31 #[.val (.ref o0), .val (.ref o1), .val (.ref o1)] [(.int su0), (.int su1)])) _
        refine XS.icmpYes X15.here hx rfl (pc0 := 31) (pc' := 60) rfl (hb hby d5_31) rfl (feq hs31_17).2 (by decide) (by decide) ?_
        show Steps p.tables e below (T15.setTop (mkF m 60 #[.val (.ref o0), .val (.ref o1), .val (.ref o1)] [])) _
        refine XS.iconst X15.here hx rfl (hb hby d5_60) ?_
        show Steps p.tables e below (T15.setTop (mkF m 61 #[.val (.ref o0), .val (.ref o1), .val (.ref o1)] [(.int (0 : Int32))])) _
        exact retN X15 hx (t := .boolean) Bd.returns (by simp) (hb hby d5_61) hr
      · show Q4g Z o0 o1 pr0 su0 ob0 ne0 pr1 su1 ob1 ne1 h0 n0 _ T15.heap _
        rw [e15]
        have hv_ : (nar .boolean (0 : Int32)) = F4g pr0 su0 ob0 ne0 pr1 su1 ob1 ne1 := by
          skip
          refine Eq.symm ?_; unfold F4g; refine Eq.trans (if_pos hs20_11) ?_; refine Eq.trans (if_neg hs31_17) ?_; rfl
        exact ⟨congrArg (fun z => some (Value.int z)) hv_, N0, rfl⟩
  · obtain ⟨fs, hr, hrun, hended, hW, hsame⟩ := X9.leave (v := some (.int (nar .boolean (0 : Int32)))) (fun h => by rw [Bd.returns] at h; cases h)
    subst hG
    refine ⟨_, _, pre9 _ ?_, hrun, hended, _, _, rfl, ?_, ⟨_, rfl⟩, hW, hsame.mono (by decide) (by decide)⟩
    · show Steps p.tables e below (T9.setTop (mkF m 20 #[.val (.ref o0), .val (.ref o1), .val (.ref o1)] [(.int pr0), (.int pr1)])) _
      refine XS.icmpYes X9.here hx rfl (pc0 := 20) (pc' := 60) rfl (hb hby d5_20) rfl (feq hs20_11).2 (by decide) (by decide) ?_
      show Steps p.tables e below (T9.setTop (mkF m 60 #[.val (.ref o0), .val (.ref o1), .val (.ref o1)] [])) _
      refine XS.iconst X9.here hx rfl (hb hby d5_60) ?_
      show Steps p.tables e below (T9.setTop (mkF m 61 #[.val (.ref o0), .val (.ref o1), .val (.ref o1)] [(.int (0 : Int32))])) _
      exact retN X9 hx (t := .boolean) Bd.returns (by simp) (hb hby d5_61) hr
    · show Q4g Z o0 o1 pr0 su0 ob0 ne0 pr1 su1 ob1 ne1 h0 n0 _ T9.heap _
      rw [e9]
      have hv_ : (nar .boolean (0 : Int32)) = F4g pr0 su0 ob0 ne0 pr1 su1 ob1 ne1 := by
        skip
        refine Eq.symm ?_; unfold F4g; refine Eq.trans (if_neg hs20_11) ?_; rfl
      exact ⟨congrArg (fun z => some (Value.int z)) hv_, N0, rfl⟩
theorem pd__28_IIIZ_29_V : parseMethodDescriptor "(IIIZ)V" = some ⟨[.int, .int, .int, .boolean], none⟩ := by decide +kernel
theorem pd__28_Ljava_2f_lang_2f_Object_3b__29_Z : parseMethodDescriptor "(Ljava/lang/Object;)Z" = some ⟨[(.object "java/lang/Object")], some .boolean⟩ := by decide +kernel
def F0 (p0 : Int32) (p1 : Int32) (p2 : Int32) (p3 : Int32) (p4 : Int32) (p5 : Int32) : Int32 := let v4 : Int32 := (if (p5 &&& (1 : Int32)) = (0 : Int32) then (0 : Int32) else (1 : Int32)); let v8 : Int32 := (if (p5 &&& (2 : Int32)) = (0 : Int32) then (0 : Int32) else (1 : Int32)); let v16 : Int32 := (((p5.toUInt32 >>> ((5 : Int32) &&& 31).toUInt32).toInt32) &&& (3 : Int32)); let v17 : Int32 := (if (p5 &&& (4 : Int32)) = (0 : Int32) then p3 else p0); let v18 : Int32 := (if (p5 &&& (8 : Int32)) = (0 : Int32) then p4 else p1); let v19 : Int32 := (if (p5 &&& (16 : Int32)) = (0 : Int32) then (p3 + p4) else p2); if v16 = (1 : Int32) then ((nar .boolean (if F4n = (0 : Int32) then (1 : Int32) else (0 : Int32)))) else (if v16 = (2 : Int32) then ((nar .boolean (if F4a = (0 : Int32) then (1 : Int32) else (0 : Int32)))) else (if v16 = (3 : Int32) then ((nar .boolean (F4g p0 p1 p2 (nar .boolean v4) p0 p1 p2 (nar .boolean v4)))) else (let v64 : Int32 := (if p0 = v17 then (if p1 = v18 then (if p2 = v19 then (if v4 = v8 then (1 : Int32) else (0 : Int32)) else (0 : Int32)) else (0 : Int32)) else (0 : Int32)); if (F4g p0 p1 p2 (nar .boolean v4) v17 v18 v19 (nar .boolean v8)) = v64 then (let v85 : Int32 := (if (F4g v17 v18 v19 (nar .boolean v8) p0 p1 p2 (nar .boolean v4)) = v64 then (1 : Int32) else (0 : Int32)); (nar .boolean v85)) else ((nar .boolean (0 : Int32))))))
theorem own_max (x : Int32) : (x &&& (2147483647 : Int32)).toInt = x.toInt % 2 ^ 31 := Jvm.Kit.i32_mask x _ (k := 31) (by decide) (by decide)
theorem own_rem (a k : Int32) (ha : 0 ≤ a.toInt) (hk : 0 < k.toInt) : (a - a / k * k).toInt = a.toInt % k.toInt := by
  have b1 := Int32.le_toInt a; have b2 := Int32.toInt_lt a
  have d : (a / k).toInt = a.toInt / k.toInt := by rw [Jvm.Kit.i32_div (by omega), Int.tdiv_eq_ediv_of_nonneg ha]
  have q0 : 0 ≤ a.toInt / k.toInt := Int.ediv_nonneg ha (by omega)
  have q1 : a.toInt / k.toInt * k.toInt ≤ a.toInt := Int.ediv_mul_le _ (by omega)
  have q2 : 0 ≤ a.toInt / k.toInt * k.toInt := Int.mul_nonneg q0 (by omega)
  have m : (a / k * k).toInt = a.toInt / k.toInt * k.toInt := by rw [Jvm.Kit.i32_mul, d] <;> rw [d] <;> omega
  rw [Jvm.Kit.i32_sub (by omega) (by omega), m, Int.emod_def, Int.mul_comm]
theorem own_nar0 : nar .boolean (0 : Int32) = 0 := by decide
theorem own_nar1 : nar .boolean (1 : Int32) = 1 := by decide
theorem own_nat {a : Int32} {k : Nat} (h : a.toInt ≤ k) : a.toNatClampNeg ≤ k := by
  show a.toInt.toNat ≤ k
  omega
theorem own_bit (P : Prop) [Decidable P] : nar .boolean (if P then (0 : Int32) else 1) = if P then (0 : Int32) else 1 := by split <;> decide
theorem own_eq (a b c x a' b' c' x' : Int32) : F4g a b c x a' b' c' x' = if a = a' then (if b = b' then (if c = c' then (if x = x' then 1 else 0) else 0) else 0) else 0 := by
  unfold F4g
  by_cases h1 : a = a'
  · rw [if_pos h1, if_pos h1.symm]
    by_cases h2 : b = b'
    · rw [if_pos h2, if_pos h2.symm]
      by_cases h3 : c = c'
      · rw [if_pos h3, if_pos h3.symm]
        by_cases h4 : x = x'
        · rw [if_pos h4, if_pos h4.symm]; decide
        · rw [if_neg h4, if_neg (Ne.symm h4)]; decide
      · rw [if_neg h3, if_neg (Ne.symm h3)]; decide
    · rw [if_neg h2, if_neg (Ne.symm h2)]; decide
  · rw [if_neg h1, if_neg (Ne.symm h1)]; decide
theorem own_sym (a b c x a' b' c' x' : Int32) : F4g a b c x a' b' c' x' = F4g a' b' c' x' a b c x := by
  rw [own_eq, own_eq]
  by_cases h1 : a = a'
  · rw [if_pos h1, if_pos h1.symm]
    by_cases h2 : b = b'
    · rw [if_pos h2, if_pos h2.symm]
      by_cases h3 : c = c'
      · rw [if_pos h3, if_pos h3.symm]
        by_cases h4 : x = x'
        · rw [if_pos h4, if_pos h4.symm]
        · rw [if_neg h4, if_neg (Ne.symm h4)]
      · rw [if_neg h3, if_neg (Ne.symm h3)]
    · rw [if_neg h2, if_neg (Ne.symm h2)]
  · rw [if_neg h1, if_neg (Ne.symm h1)]
theorem own_last (a b c x a' b' c' x' : Int32) : (if F4g a b c x a' b' c' x' = (if a = a' then (if b = b' then (if c = c' then (if x = x' then (1 : Int32) else 0) else 0) else 0) else 0) then nar .boolean (if F4g a' b' c' x' a b c x = (if a = a' then (if b = b' then (if c = c' then (if x = x' then (1 : Int32) else 0) else 0) else 0) else 0) then (1 : Int32) else 0) else nar .boolean 0) = 1 := by
  rw [own_sym a' b' c' x' a b c x, own_eq, if_pos rfl, if_pos rfl]; decide
theorem own_law (p0 p1 p2 p3 p4 p5 : Int32) : F0 p0 p1 p2 p3 p4 p5 = 1 := by
  unfold F0
  dsimp only
  rw [own_bit, own_bit]
  by_cases h1 : (((p5.toUInt32 >>> ((5 : Int32) &&& 31).toUInt32).toInt32) &&& (3 : Int32)) = 1
  · rw [if_pos h1]; decide
  rw [if_neg h1]
  by_cases h2 : (((p5.toUInt32 >>> ((5 : Int32) &&& 31).toUInt32).toInt32) &&& (3 : Int32)) = 2
  · rw [if_pos h2]; decide
  rw [if_neg h2]
  by_cases h3 : (((p5.toUInt32 >>> ((5 : Int32) &&& 31).toUInt32).toInt32) &&& (3 : Int32)) = 3
  · rw [if_pos h3, own_eq, if_pos rfl, if_pos rfl, if_pos rfl, if_pos rfl]; decide
  rw [if_neg h3]
  exact own_last _ _ _ _ _ _ _ _

theorem pn_com_example_nonesuch_nonesuch_engine_GroundAtomEqualsPinLaw : plainName "com/example/nonesuch/nonesuch/engine/GroundAtomEqualsPinLaw" = true := by first | (simp [plainName, overriddenIn]; done) | decide +kernel
theorem ef_0 (m : MethodId) (p0 : Int32) (p1 : Int32) (p2 : Int32) (p3 : Int32) (p4 : Int32) (p5 : Int32) : entryFrame m #[(.int p0), (.int p1), (.int p2), (.int p3), (.int p4), (.int p5)] maxLocals = mkF m 0 #[.val (.int p0), .val (.int p1), .val (.int p2), .val (.int p3), .val (.int p4), .val (.int p5), .unset, .unset, .unset, .unset, .unset, .unset, .unset, .unset, .unset, .unset] [] := by first | (simp [entryFrame, mkF, argsToLocals, Value.category, maxLocals]; done) | rfl
def Q0 (Z : State) (p0 : Int32) (p1 : Int32) (p2 : Int32) (p3 : Int32) (p4 : Int32) (p5 : Int32)  (h0 : Heap) (n0 : Nat) (v : Option Value) (h : Heap) (L : List Loc) : Prop := v = some (.int (1 : Int32)) ∧ Fr n0 L
set_option maxRecDepth 65536 in
set_option maxHeartbeats 40000000 in
theorem rm0 (l : Launch) (Z : State) (a0 : Array Value) (hw : ∀ d ∈ tables_1, d.before a0 Z = true) (ws : List Jvm.Cond) (p0 : Int32) (p1 : Int32) (p2 : Int32) (p3 : Int32) (p4 : Int32) (p5 : Int32)  (h0 : Heap) (n0 : Nat) (Z0 : n0 ≤ h0.size)  :
    MetFree l x (head1 (Jvm.Cond.code x code maxLocals ret :: ws) room_1) (fun a U => a = #[(.int p0), (.int p1), (.int p2), (.int p3), (.int p4), (.int p5)] ∧ Z.Warmed39 U.vm ∧ U.heap = h0) (fun _ _ _ _ _ => True) (fun _ U o U' => ∃ v L, o = .returned v ∧ Q0 Z p0 p1 p2 p3 p4 p5 h0 n0 v U'.heap L ∧ FrameEnd U o U' L room_1.cells room_1.slots) := by
  refine MetFree.of_bodySF (plainFor_of_name pn_com_example_nonesuch_nonesuch_engine_GroundAtomEqualsPinLaw) hisR ?_
  intro p e s m args below meth c s₁ Bd hml0 hP hK
  obtain ⟨rfl, hZ, hh⟩ := hP
  have hx := Bd.exec
  have hby := Bd.bytes
  have hml : c.maxLocals = 16 := hml0
  have hown : s.vm.findClass "com/example/nonesuch/nonesuch/engine/GroundAtomEqualsPinLaw" = some m.cls := findClass_of_methodNamed Bd.named
  have hnm := (name_of_methodNamed Bd.named Bd.method).1
  have X0 : Stand p l e room_1 s m #[(.int p0), (.int p1), (.int p2), (.int p3), (.int p4), (.int p5)] below meth c s₁ [] 0 0 := Stand.of_body Bd
  have e0 : s₁.heap = h0 := by rw [← hh, Bd.state]; rfl
  have N0 := Fr.nil n0
  have K0 : Keep h0 h0 [] := Keep.refl _ _
  obtain ⟨G, hG⟩ : ∃ z, z = s₁.setTop (entryFrame m #[(.int p0), (.int p1), (.int p2), (.int p3), (.int p4), (.int p5)] maxLocals) := ⟨_, rfl⟩
  have pre0 : Lead p e below G (s₁.setTop (mkF m 0 #[.val (.int p0), .val (.int p1), .val (.int p2), .val (.int p3), .val (.int p4), .val (.int p5), .unset, .unset, .unset, .unset, .unset, .unset, .unset, .unset, .unset, .unset] [])) := fun t k => by rw [hG]; exact castTop (ef_0 m p0 p1 p2 p3 p4 p5) k
  have pre3 : Lead p e below G (s₁.setTop (mkF m 12 #[.val (.int p0), .val (.int p1), .val (.int p2), .val (.int p3), .val (.int p4), .val (.int p5), .unset, .unset, .unset, .unset, .unset, .unset, .unset, .unset, .unset, .unset] [(.int (if (p5 &&& (1 : Int32)) = (0 : Int32) then (0 : Int32) else (1 : Int32)))])) := fun t k => by
    refine pre0 t ?_
    show Steps p.tables e below (s₁.setTop (mkF m 0 #[.val (.int p0), .val (.int p1), .val (.int p2), .val (.int p3), .val (.int p4), .val (.int p5), .unset, .unset, .unset, .unset, .unset, .unset, .unset, .unset, .unset, .unset] [])) _
    refine XS.iload X0.here hx rfl (hb hby at_0) rfl ?_
    show Steps p.tables e below (s₁.setTop (mkF m 2 #[.val (.int p0), .val (.int p1), .val (.int p2), .val (.int p3), .val (.int p4), .val (.int p5), .unset, .unset, .unset, .unset, .unset, .unset, .unset, .unset, .unset, .unset] [(.int p5)])) _
    refine XS.iconst X0.here hx rfl (hb hby at_2) ?_
    show Steps p.tables e below (s₁.setTop (mkF m 3 #[.val (.int p0), .val (.int p1), .val (.int p2), .val (.int p3), .val (.int p4), .val (.int p5), .unset, .unset, .unset, .unset, .unset, .unset, .unset, .unset, .unset, .unset] [(.int (1 : Int32)), (.int p5)])) _
    refine XS.iand X0.here hx rfl (hb hby at_3) rfl ?_
    show Steps p.tables e below (s₁.setTop (mkF m 4 #[.val (.int p0), .val (.int p1), .val (.int p2), .val (.int p3), .val (.int p4), .val (.int p5), .unset, .unset, .unset, .unset, .unset, .unset, .unset, .unset, .unset, .unset] [(.int (p5 &&& (1 : Int32)))])) _
    have j2 : ∀ t, Steps p.tables e below (s₁.setTop (mkF m 12 #[.val (.int p0), .val (.int p1), .val (.int p2), .val (.int p3), .val (.int p4), .val (.int p5), .unset, .unset, .unset, .unset, .unset, .unset, .unset, .unset, .unset, .unset] [(.int (if (p5 &&& (1 : Int32)) = (0 : Int32) then (0 : Int32) else (1 : Int32)))])) t → Steps p.tables e below (s₁.setTop (mkF m 4 #[.val (.int p0), .val (.int p1), .val (.int p2), .val (.int p3), .val (.int p4), .val (.int p5), .unset, .unset, .unset, .unset, .unset, .unset, .unset, .unset, .unset, .unset] [(.int (p5 &&& (1 : Int32)))])) t := fun t k => by
      by_cases hc4_1 : (p5 &&& (1 : Int32)) = (0 : Int32)
      · simp only [if_pos hc4_1] at k
        refine XS.ifYes X0.here hx rfl (pc0 := 4) (pc' := 11) rfl (hb hby at_4) rfl ((if0 _ _).trans (teq hc4_1).1) (by decide) (by decide) ?_
        show Steps p.tables e below (s₁.setTop (mkF m 11 #[.val (.int p0), .val (.int p1), .val (.int p2), .val (.int p3), .val (.int p4), .val (.int p5), .unset, .unset, .unset, .unset, .unset, .unset, .unset, .unset, .unset, .unset] [])) _
        refine XS.iconst X0.here hx rfl (hb hby at_11) ?_
        show Steps p.tables e below (s₁.setTop (mkF m 12 #[.val (.int p0), .val (.int p1), .val (.int p2), .val (.int p3), .val (.int p4), .val (.int p5), .unset, .unset, .unset, .unset, .unset, .unset, .unset, .unset, .unset, .unset] [(.int (0 : Int32))])) _
        exact k
      · simp only [if_neg hc4_1] at k
        refine XS.ifNo X0.here hx rfl (hb hby at_4) rfl ((if0 _ _).trans (feq hc4_1).1) ?_
        show Steps p.tables e below (s₁.setTop (mkF m 7 #[.val (.int p0), .val (.int p1), .val (.int p2), .val (.int p3), .val (.int p4), .val (.int p5), .unset, .unset, .unset, .unset, .unset, .unset, .unset, .unset, .unset, .unset] [])) _
        refine XS.iconst X0.here hx rfl (hb hby at_7) ?_
        show Steps p.tables e below (s₁.setTop (mkF m 8 #[.val (.int p0), .val (.int p1), .val (.int p2), .val (.int p3), .val (.int p4), .val (.int p5), .unset, .unset, .unset, .unset, .unset, .unset, .unset, .unset, .unset, .unset] [(.int (1 : Int32))])) _
        refine XS.goto X0.here hx rfl (pc0 := 8) (pc' := 12) rfl (hb hby at_8) (by decide) (by decide) ?_
        show Steps p.tables e below (s₁.setTop (mkF m 12 #[.val (.int p0), .val (.int p1), .val (.int p2), .val (.int p3), .val (.int p4), .val (.int p5), .unset, .unset, .unset, .unset, .unset, .unset, .unset, .unset, .unset, .unset] [(.int (1 : Int32))])) _
        exact k
    refine j2 _ ?_
    show Steps p.tables e below (s₁.setTop (mkF m 12 #[.val (.int p0), .val (.int p1), .val (.int p2), .val (.int p3), .val (.int p4), .val (.int p5), .unset, .unset, .unset, .unset, .unset, .unset, .unset, .unset, .unset, .unset] [(.int (if (p5 &&& (1 : Int32)) = (0 : Int32) then (0 : Int32) else (1 : Int32)))])) _
    exact k
  obtain ⟨v4, hv4⟩ : ∃ z : Int32, z = (if (p5 &&& (1 : Int32)) = (0 : Int32) then (0 : Int32) else (1 : Int32)) := ⟨_, rfl⟩
  have pre4 : Lead p e below G (s₁.setTop (mkF m 12 #[.val (.int p0), .val (.int p1), .val (.int p2), .val (.int p3), .val (.int p4), .val (.int p5), .unset, .unset, .unset, .unset, .unset, .unset, .unset, .unset, .unset, .unset] [(.int v4)])) := by rw [hv4]; exact pre3
  have pre7 : Lead p e below G (s₁.setTop (mkF m 26 #[.val (.int p0), .val (.int p1), .val (.int p2), .val (.int p3), .val (.int p4), .val (.int p5), .val (.int v4), .unset, .unset, .unset, .unset, .unset, .unset, .unset, .unset, .unset] [(.int (if (p5 &&& (2 : Int32)) = (0 : Int32) then (0 : Int32) else (1 : Int32)))])) := fun t k => by
    refine pre4 t ?_
    show Steps p.tables e below (s₁.setTop (mkF m 12 #[.val (.int p0), .val (.int p1), .val (.int p2), .val (.int p3), .val (.int p4), .val (.int p5), .unset, .unset, .unset, .unset, .unset, .unset, .unset, .unset, .unset, .unset] [(.int v4)])) _
    refine XS.istore X0.here hx rfl (hb hby at_12) rfl (l' := #[.val (.int p0), .val (.int p1), .val (.int p2), .val (.int p3), .val (.int p4), .val (.int p5), .val (.int v4), .unset, .unset, .unset, .unset, .unset, .unset, .unset, .unset, .unset]) rfl ?_
    show Steps p.tables e below (s₁.setTop (mkF m 14 #[.val (.int p0), .val (.int p1), .val (.int p2), .val (.int p3), .val (.int p4), .val (.int p5), .val (.int v4), .unset, .unset, .unset, .unset, .unset, .unset, .unset, .unset, .unset] [])) _
    refine XS.iload X0.here hx rfl (hb hby at_14) rfl ?_
    show Steps p.tables e below (s₁.setTop (mkF m 16 #[.val (.int p0), .val (.int p1), .val (.int p2), .val (.int p3), .val (.int p4), .val (.int p5), .val (.int v4), .unset, .unset, .unset, .unset, .unset, .unset, .unset, .unset, .unset] [(.int p5)])) _
    refine XS.iconst X0.here hx rfl (hb hby at_16) ?_
    show Steps p.tables e below (s₁.setTop (mkF m 17 #[.val (.int p0), .val (.int p1), .val (.int p2), .val (.int p3), .val (.int p4), .val (.int p5), .val (.int v4), .unset, .unset, .unset, .unset, .unset, .unset, .unset, .unset, .unset] [(.int (2 : Int32)), (.int p5)])) _
    refine XS.iand X0.here hx rfl (hb hby at_17) rfl ?_
    show Steps p.tables e below (s₁.setTop (mkF m 18 #[.val (.int p0), .val (.int p1), .val (.int p2), .val (.int p3), .val (.int p4), .val (.int p5), .val (.int v4), .unset, .unset, .unset, .unset, .unset, .unset, .unset, .unset, .unset] [(.int (p5 &&& (2 : Int32)))])) _
    have j6 : ∀ t, Steps p.tables e below (s₁.setTop (mkF m 26 #[.val (.int p0), .val (.int p1), .val (.int p2), .val (.int p3), .val (.int p4), .val (.int p5), .val (.int v4), .unset, .unset, .unset, .unset, .unset, .unset, .unset, .unset, .unset] [(.int (if (p5 &&& (2 : Int32)) = (0 : Int32) then (0 : Int32) else (1 : Int32)))])) t → Steps p.tables e below (s₁.setTop (mkF m 18 #[.val (.int p0), .val (.int p1), .val (.int p2), .val (.int p3), .val (.int p4), .val (.int p5), .val (.int v4), .unset, .unset, .unset, .unset, .unset, .unset, .unset, .unset, .unset] [(.int (p5 &&& (2 : Int32)))])) t := fun t k => by
      by_cases hc18_5 : (p5 &&& (2 : Int32)) = (0 : Int32)
      · simp only [if_pos hc18_5] at k
        refine XS.ifYes X0.here hx rfl (pc0 := 18) (pc' := 25) rfl (hb hby at_18) rfl ((if0 _ _).trans (teq hc18_5).1) (by decide) (by decide) ?_
        show Steps p.tables e below (s₁.setTop (mkF m 25 #[.val (.int p0), .val (.int p1), .val (.int p2), .val (.int p3), .val (.int p4), .val (.int p5), .val (.int v4), .unset, .unset, .unset, .unset, .unset, .unset, .unset, .unset, .unset] [])) _
        refine XS.iconst X0.here hx rfl (hb hby at_25) ?_
        show Steps p.tables e below (s₁.setTop (mkF m 26 #[.val (.int p0), .val (.int p1), .val (.int p2), .val (.int p3), .val (.int p4), .val (.int p5), .val (.int v4), .unset, .unset, .unset, .unset, .unset, .unset, .unset, .unset, .unset] [(.int (0 : Int32))])) _
        exact k
      · simp only [if_neg hc18_5] at k
        refine XS.ifNo X0.here hx rfl (hb hby at_18) rfl ((if0 _ _).trans (feq hc18_5).1) ?_
        show Steps p.tables e below (s₁.setTop (mkF m 21 #[.val (.int p0), .val (.int p1), .val (.int p2), .val (.int p3), .val (.int p4), .val (.int p5), .val (.int v4), .unset, .unset, .unset, .unset, .unset, .unset, .unset, .unset, .unset] [])) _
        refine XS.iconst X0.here hx rfl (hb hby at_21) ?_
        show Steps p.tables e below (s₁.setTop (mkF m 22 #[.val (.int p0), .val (.int p1), .val (.int p2), .val (.int p3), .val (.int p4), .val (.int p5), .val (.int v4), .unset, .unset, .unset, .unset, .unset, .unset, .unset, .unset, .unset] [(.int (1 : Int32))])) _
        refine XS.goto X0.here hx rfl (pc0 := 22) (pc' := 26) rfl (hb hby at_22) (by decide) (by decide) ?_
        show Steps p.tables e below (s₁.setTop (mkF m 26 #[.val (.int p0), .val (.int p1), .val (.int p2), .val (.int p3), .val (.int p4), .val (.int p5), .val (.int v4), .unset, .unset, .unset, .unset, .unset, .unset, .unset, .unset, .unset] [(.int (1 : Int32))])) _
        exact k
    refine j6 _ ?_
    show Steps p.tables e below (s₁.setTop (mkF m 26 #[.val (.int p0), .val (.int p1), .val (.int p2), .val (.int p3), .val (.int p4), .val (.int p5), .val (.int v4), .unset, .unset, .unset, .unset, .unset, .unset, .unset, .unset, .unset] [(.int (if (p5 &&& (2 : Int32)) = (0 : Int32) then (0 : Int32) else (1 : Int32)))])) _
    exact k
  obtain ⟨v8, hv8⟩ : ∃ z : Int32, z = (if (p5 &&& (2 : Int32)) = (0 : Int32) then (0 : Int32) else (1 : Int32)) := ⟨_, rfl⟩
  have pre8 : Lead p e below G (s₁.setTop (mkF m 26 #[.val (.int p0), .val (.int p1), .val (.int p2), .val (.int p3), .val (.int p4), .val (.int p5), .val (.int v4), .unset, .unset, .unset, .unset, .unset, .unset, .unset, .unset, .unset] [(.int v8)])) := by rw [hv8]; exact pre7
  have pre15 : Lead p e below G (s₁.setTop (mkF m 84 #[.val (.int p0), .val (.int p1), .val (.int p2), .val (.int p3), .val (.int p4), .val (.int p5), .val (.int v4), .val (.int v8), .val (.int (if (p5 &&& (4 : Int32)) = (0 : Int32) then p3 else p0)), .val (.int (if (p5 &&& (8 : Int32)) = (0 : Int32) then p4 else p1)), .val (.int (if (p5 &&& (16 : Int32)) = (0 : Int32) then (p3 + p4) else p2)), .val (.int (((p5.toUInt32 >>> ((5 : Int32) &&& 31).toUInt32).toInt32) &&& (3 : Int32))), .unset, .unset, .unset, .unset] [])) := fun t k => by
    refine pre8 t ?_
    show Steps p.tables e below (s₁.setTop (mkF m 26 #[.val (.int p0), .val (.int p1), .val (.int p2), .val (.int p3), .val (.int p4), .val (.int p5), .val (.int v4), .unset, .unset, .unset, .unset, .unset, .unset, .unset, .unset, .unset] [(.int v8)])) _
    refine XS.istore X0.here hx rfl (hb hby at_26) rfl (l' := #[.val (.int p0), .val (.int p1), .val (.int p2), .val (.int p3), .val (.int p4), .val (.int p5), .val (.int v4), .val (.int v8), .unset, .unset, .unset, .unset, .unset, .unset, .unset, .unset]) rfl ?_
    show Steps p.tables e below (s₁.setTop (mkF m 28 #[.val (.int p0), .val (.int p1), .val (.int p2), .val (.int p3), .val (.int p4), .val (.int p5), .val (.int v4), .val (.int v8), .unset, .unset, .unset, .unset, .unset, .unset, .unset, .unset] [])) _
    refine XS.iload X0.here hx rfl (hb hby at_28) rfl ?_
    show Steps p.tables e below (s₁.setTop (mkF m 30 #[.val (.int p0), .val (.int p1), .val (.int p2), .val (.int p3), .val (.int p4), .val (.int p5), .val (.int v4), .val (.int v8), .unset, .unset, .unset, .unset, .unset, .unset, .unset, .unset] [(.int p5)])) _
    refine XS.iconst X0.here hx rfl (hb hby at_30) ?_
    show Steps p.tables e below (s₁.setTop (mkF m 31 #[.val (.int p0), .val (.int p1), .val (.int p2), .val (.int p3), .val (.int p4), .val (.int p5), .val (.int v4), .val (.int v8), .unset, .unset, .unset, .unset, .unset, .unset, .unset, .unset] [(.int (4 : Int32)), (.int p5)])) _
    refine XS.iand X0.here hx rfl (hb hby at_31) rfl ?_
    show Steps p.tables e below (s₁.setTop (mkF m 32 #[.val (.int p0), .val (.int p1), .val (.int p2), .val (.int p3), .val (.int p4), .val (.int p5), .val (.int v4), .val (.int v8), .unset, .unset, .unset, .unset, .unset, .unset, .unset, .unset] [(.int (p5 &&& (4 : Int32)))])) _
    have j10 : ∀ t, Steps p.tables e below (s₁.setTop (mkF m 40 #[.val (.int p0), .val (.int p1), .val (.int p2), .val (.int p3), .val (.int p4), .val (.int p5), .val (.int v4), .val (.int v8), .unset, .unset, .unset, .unset, .unset, .unset, .unset, .unset] [(.int (if (p5 &&& (4 : Int32)) = (0 : Int32) then p3 else p0))])) t → Steps p.tables e below (s₁.setTop (mkF m 32 #[.val (.int p0), .val (.int p1), .val (.int p2), .val (.int p3), .val (.int p4), .val (.int p5), .val (.int v4), .val (.int v8), .unset, .unset, .unset, .unset, .unset, .unset, .unset, .unset] [(.int (p5 &&& (4 : Int32)))])) t := fun t k => by
      by_cases hc32_9 : (p5 &&& (4 : Int32)) = (0 : Int32)
      · simp only [if_pos hc32_9] at k
        refine XS.ifYes X0.here hx rfl (pc0 := 32) (pc' := 39) rfl (hb hby at_32) rfl ((if0 _ _).trans (teq hc32_9).1) (by decide) (by decide) ?_
        show Steps p.tables e below (s₁.setTop (mkF m 39 #[.val (.int p0), .val (.int p1), .val (.int p2), .val (.int p3), .val (.int p4), .val (.int p5), .val (.int v4), .val (.int v8), .unset, .unset, .unset, .unset, .unset, .unset, .unset, .unset] [])) _
        refine XS.iloadN X0.here hx rfl (hb hby at_39) rfl ?_
        show Steps p.tables e below (s₁.setTop (mkF m 40 #[.val (.int p0), .val (.int p1), .val (.int p2), .val (.int p3), .val (.int p4), .val (.int p5), .val (.int v4), .val (.int v8), .unset, .unset, .unset, .unset, .unset, .unset, .unset, .unset] [(.int p3)])) _
        exact k
      · simp only [if_neg hc32_9] at k
        refine XS.ifNo X0.here hx rfl (hb hby at_32) rfl ((if0 _ _).trans (feq hc32_9).1) ?_
        show Steps p.tables e below (s₁.setTop (mkF m 35 #[.val (.int p0), .val (.int p1), .val (.int p2), .val (.int p3), .val (.int p4), .val (.int p5), .val (.int v4), .val (.int v8), .unset, .unset, .unset, .unset, .unset, .unset, .unset, .unset] [])) _
        refine XS.iloadN X0.here hx rfl (hb hby at_35) rfl ?_
        show Steps p.tables e below (s₁.setTop (mkF m 36 #[.val (.int p0), .val (.int p1), .val (.int p2), .val (.int p3), .val (.int p4), .val (.int p5), .val (.int v4), .val (.int v8), .unset, .unset, .unset, .unset, .unset, .unset, .unset, .unset] [(.int p0)])) _
        refine XS.goto X0.here hx rfl (pc0 := 36) (pc' := 40) rfl (hb hby at_36) (by decide) (by decide) ?_
        show Steps p.tables e below (s₁.setTop (mkF m 40 #[.val (.int p0), .val (.int p1), .val (.int p2), .val (.int p3), .val (.int p4), .val (.int p5), .val (.int v4), .val (.int v8), .unset, .unset, .unset, .unset, .unset, .unset, .unset, .unset] [(.int p0)])) _
        exact k
    refine j10 _ ?_
    show Steps p.tables e below (s₁.setTop (mkF m 40 #[.val (.int p0), .val (.int p1), .val (.int p2), .val (.int p3), .val (.int p4), .val (.int p5), .val (.int v4), .val (.int v8), .unset, .unset, .unset, .unset, .unset, .unset, .unset, .unset] [(.int (if (p5 &&& (4 : Int32)) = (0 : Int32) then p3 else p0))])) _
    refine XS.istore X0.here hx rfl (hb hby at_40) rfl (l' := #[.val (.int p0), .val (.int p1), .val (.int p2), .val (.int p3), .val (.int p4), .val (.int p5), .val (.int v4), .val (.int v8), .val (.int (if (p5 &&& (4 : Int32)) = (0 : Int32) then p3 else p0)), .unset, .unset, .unset, .unset, .unset, .unset, .unset]) rfl ?_
    show Steps p.tables e below (s₁.setTop (mkF m 42 #[.val (.int p0), .val (.int p1), .val (.int p2), .val (.int p3), .val (.int p4), .val (.int p5), .val (.int v4), .val (.int v8), .val (.int (if (p5 &&& (4 : Int32)) = (0 : Int32) then p3 else p0)), .unset, .unset, .unset, .unset, .unset, .unset, .unset] [])) _
    refine XS.iload X0.here hx rfl (hb hby at_42) rfl ?_
    show Steps p.tables e below (s₁.setTop (mkF m 44 #[.val (.int p0), .val (.int p1), .val (.int p2), .val (.int p3), .val (.int p4), .val (.int p5), .val (.int v4), .val (.int v8), .val (.int (if (p5 &&& (4 : Int32)) = (0 : Int32) then p3 else p0)), .unset, .unset, .unset, .unset, .unset, .unset, .unset] [(.int p5)])) _
    refine XS.bipush X0.here hx rfl (hb hby at_44) ?_
    show Steps p.tables e below (s₁.setTop (mkF m 46 #[.val (.int p0), .val (.int p1), .val (.int p2), .val (.int p3), .val (.int p4), .val (.int p5), .val (.int v4), .val (.int v8), .val (.int (if (p5 &&& (4 : Int32)) = (0 : Int32) then p3 else p0)), .unset, .unset, .unset, .unset, .unset, .unset, .unset] [(.int (8 : Int32)), (.int p5)])) _
    refine XS.iand X0.here hx rfl (hb hby at_46) rfl ?_
    show Steps p.tables e below (s₁.setTop (mkF m 47 #[.val (.int p0), .val (.int p1), .val (.int p2), .val (.int p3), .val (.int p4), .val (.int p5), .val (.int v4), .val (.int v8), .val (.int (if (p5 &&& (4 : Int32)) = (0 : Int32) then p3 else p0)), .unset, .unset, .unset, .unset, .unset, .unset, .unset] [(.int (p5 &&& (8 : Int32)))])) _
    have j12 : ∀ t, Steps p.tables e below (s₁.setTop (mkF m 56 #[.val (.int p0), .val (.int p1), .val (.int p2), .val (.int p3), .val (.int p4), .val (.int p5), .val (.int v4), .val (.int v8), .val (.int (if (p5 &&& (4 : Int32)) = (0 : Int32) then p3 else p0)), .unset, .unset, .unset, .unset, .unset, .unset, .unset] [(.int (if (p5 &&& (8 : Int32)) = (0 : Int32) then p4 else p1))])) t → Steps p.tables e below (s₁.setTop (mkF m 47 #[.val (.int p0), .val (.int p1), .val (.int p2), .val (.int p3), .val (.int p4), .val (.int p5), .val (.int v4), .val (.int v8), .val (.int (if (p5 &&& (4 : Int32)) = (0 : Int32) then p3 else p0)), .unset, .unset, .unset, .unset, .unset, .unset, .unset] [(.int (p5 &&& (8 : Int32)))])) t := fun t k => by
      by_cases hc47_11 : (p5 &&& (8 : Int32)) = (0 : Int32)
      · simp only [if_pos hc47_11] at k
        refine XS.ifYes X0.here hx rfl (pc0 := 47) (pc' := 54) rfl (hb hby at_47) rfl ((if0 _ _).trans (teq hc47_11).1) (by decide) (by decide) ?_
        show Steps p.tables e below (s₁.setTop (mkF m 54 #[.val (.int p0), .val (.int p1), .val (.int p2), .val (.int p3), .val (.int p4), .val (.int p5), .val (.int v4), .val (.int v8), .val (.int (if (p5 &&& (4 : Int32)) = (0 : Int32) then p3 else p0)), .unset, .unset, .unset, .unset, .unset, .unset, .unset] [])) _
        refine XS.iload X0.here hx rfl (hb hby at_54) rfl ?_
        show Steps p.tables e below (s₁.setTop (mkF m 56 #[.val (.int p0), .val (.int p1), .val (.int p2), .val (.int p3), .val (.int p4), .val (.int p5), .val (.int v4), .val (.int v8), .val (.int (if (p5 &&& (4 : Int32)) = (0 : Int32) then p3 else p0)), .unset, .unset, .unset, .unset, .unset, .unset, .unset] [(.int p4)])) _
        exact k
      · simp only [if_neg hc47_11] at k
        refine XS.ifNo X0.here hx rfl (hb hby at_47) rfl ((if0 _ _).trans (feq hc47_11).1) ?_
        show Steps p.tables e below (s₁.setTop (mkF m 50 #[.val (.int p0), .val (.int p1), .val (.int p2), .val (.int p3), .val (.int p4), .val (.int p5), .val (.int v4), .val (.int v8), .val (.int (if (p5 &&& (4 : Int32)) = (0 : Int32) then p3 else p0)), .unset, .unset, .unset, .unset, .unset, .unset, .unset] [])) _
        refine XS.iloadN X0.here hx rfl (hb hby at_50) rfl ?_
        show Steps p.tables e below (s₁.setTop (mkF m 51 #[.val (.int p0), .val (.int p1), .val (.int p2), .val (.int p3), .val (.int p4), .val (.int p5), .val (.int v4), .val (.int v8), .val (.int (if (p5 &&& (4 : Int32)) = (0 : Int32) then p3 else p0)), .unset, .unset, .unset, .unset, .unset, .unset, .unset] [(.int p1)])) _
        refine XS.goto X0.here hx rfl (pc0 := 51) (pc' := 56) rfl (hb hby at_51) (by decide) (by decide) ?_
        show Steps p.tables e below (s₁.setTop (mkF m 56 #[.val (.int p0), .val (.int p1), .val (.int p2), .val (.int p3), .val (.int p4), .val (.int p5), .val (.int v4), .val (.int v8), .val (.int (if (p5 &&& (4 : Int32)) = (0 : Int32) then p3 else p0)), .unset, .unset, .unset, .unset, .unset, .unset, .unset] [(.int p1)])) _
        exact k
    refine j12 _ ?_
    show Steps p.tables e below (s₁.setTop (mkF m 56 #[.val (.int p0), .val (.int p1), .val (.int p2), .val (.int p3), .val (.int p4), .val (.int p5), .val (.int v4), .val (.int v8), .val (.int (if (p5 &&& (4 : Int32)) = (0 : Int32) then p3 else p0)), .unset, .unset, .unset, .unset, .unset, .unset, .unset] [(.int (if (p5 &&& (8 : Int32)) = (0 : Int32) then p4 else p1))])) _
    refine XS.istore X0.here hx rfl (hb hby at_56) rfl (l' := #[.val (.int p0), .val (.int p1), .val (.int p2), .val (.int p3), .val (.int p4), .val (.int p5), .val (.int v4), .val (.int v8), .val (.int (if (p5 &&& (4 : Int32)) = (0 : Int32) then p3 else p0)), .val (.int (if (p5 &&& (8 : Int32)) = (0 : Int32) then p4 else p1)), .unset, .unset, .unset, .unset, .unset, .unset]) rfl ?_
    show Steps p.tables e below (s₁.setTop (mkF m 58 #[.val (.int p0), .val (.int p1), .val (.int p2), .val (.int p3), .val (.int p4), .val (.int p5), .val (.int v4), .val (.int v8), .val (.int (if (p5 &&& (4 : Int32)) = (0 : Int32) then p3 else p0)), .val (.int (if (p5 &&& (8 : Int32)) = (0 : Int32) then p4 else p1)), .unset, .unset, .unset, .unset, .unset, .unset] [])) _
    refine XS.iload X0.here hx rfl (hb hby at_58) rfl ?_
    show Steps p.tables e below (s₁.setTop (mkF m 60 #[.val (.int p0), .val (.int p1), .val (.int p2), .val (.int p3), .val (.int p4), .val (.int p5), .val (.int v4), .val (.int v8), .val (.int (if (p5 &&& (4 : Int32)) = (0 : Int32) then p3 else p0)), .val (.int (if (p5 &&& (8 : Int32)) = (0 : Int32) then p4 else p1)), .unset, .unset, .unset, .unset, .unset, .unset] [(.int p5)])) _
    refine XS.bipush X0.here hx rfl (hb hby at_60) ?_
    show Steps p.tables e below (s₁.setTop (mkF m 62 #[.val (.int p0), .val (.int p1), .val (.int p2), .val (.int p3), .val (.int p4), .val (.int p5), .val (.int v4), .val (.int v8), .val (.int (if (p5 &&& (4 : Int32)) = (0 : Int32) then p3 else p0)), .val (.int (if (p5 &&& (8 : Int32)) = (0 : Int32) then p4 else p1)), .unset, .unset, .unset, .unset, .unset, .unset] [(.int (16 : Int32)), (.int p5)])) _
    refine XS.iand X0.here hx rfl (hb hby at_62) rfl ?_
    show Steps p.tables e below (s₁.setTop (mkF m 63 #[.val (.int p0), .val (.int p1), .val (.int p2), .val (.int p3), .val (.int p4), .val (.int p5), .val (.int v4), .val (.int v8), .val (.int (if (p5 &&& (4 : Int32)) = (0 : Int32) then p3 else p0)), .val (.int (if (p5 &&& (8 : Int32)) = (0 : Int32) then p4 else p1)), .unset, .unset, .unset, .unset, .unset, .unset] [(.int (p5 &&& (16 : Int32)))])) _
    have j14 : ∀ t, Steps p.tables e below (s₁.setTop (mkF m 74 #[.val (.int p0), .val (.int p1), .val (.int p2), .val (.int p3), .val (.int p4), .val (.int p5), .val (.int v4), .val (.int v8), .val (.int (if (p5 &&& (4 : Int32)) = (0 : Int32) then p3 else p0)), .val (.int (if (p5 &&& (8 : Int32)) = (0 : Int32) then p4 else p1)), .unset, .unset, .unset, .unset, .unset, .unset] [(.int (if (p5 &&& (16 : Int32)) = (0 : Int32) then (p3 + p4) else p2))])) t → Steps p.tables e below (s₁.setTop (mkF m 63 #[.val (.int p0), .val (.int p1), .val (.int p2), .val (.int p3), .val (.int p4), .val (.int p5), .val (.int v4), .val (.int v8), .val (.int (if (p5 &&& (4 : Int32)) = (0 : Int32) then p3 else p0)), .val (.int (if (p5 &&& (8 : Int32)) = (0 : Int32) then p4 else p1)), .unset, .unset, .unset, .unset, .unset, .unset] [(.int (p5 &&& (16 : Int32)))])) t := fun t k => by
      by_cases hc63_13 : (p5 &&& (16 : Int32)) = (0 : Int32)
      · simp only [if_pos hc63_13] at k
        refine XS.ifYes X0.here hx rfl (pc0 := 63) (pc' := 70) rfl (hb hby at_63) rfl ((if0 _ _).trans (teq hc63_13).1) (by decide) (by decide) ?_
        show Steps p.tables e below (s₁.setTop (mkF m 70 #[.val (.int p0), .val (.int p1), .val (.int p2), .val (.int p3), .val (.int p4), .val (.int p5), .val (.int v4), .val (.int v8), .val (.int (if (p5 &&& (4 : Int32)) = (0 : Int32) then p3 else p0)), .val (.int (if (p5 &&& (8 : Int32)) = (0 : Int32) then p4 else p1)), .unset, .unset, .unset, .unset, .unset, .unset] [])) _
        refine XS.iloadN X0.here hx rfl (hb hby at_70) rfl ?_
        show Steps p.tables e below (s₁.setTop (mkF m 71 #[.val (.int p0), .val (.int p1), .val (.int p2), .val (.int p3), .val (.int p4), .val (.int p5), .val (.int v4), .val (.int v8), .val (.int (if (p5 &&& (4 : Int32)) = (0 : Int32) then p3 else p0)), .val (.int (if (p5 &&& (8 : Int32)) = (0 : Int32) then p4 else p1)), .unset, .unset, .unset, .unset, .unset, .unset] [(.int p3)])) _
        refine XS.iload X0.here hx rfl (hb hby at_71) rfl ?_
        show Steps p.tables e below (s₁.setTop (mkF m 73 #[.val (.int p0), .val (.int p1), .val (.int p2), .val (.int p3), .val (.int p4), .val (.int p5), .val (.int v4), .val (.int v8), .val (.int (if (p5 &&& (4 : Int32)) = (0 : Int32) then p3 else p0)), .val (.int (if (p5 &&& (8 : Int32)) = (0 : Int32) then p4 else p1)), .unset, .unset, .unset, .unset, .unset, .unset] [(.int p4), (.int p3)])) _
        refine XS.iadd X0.here hx rfl (hb hby at_73) rfl ?_
        show Steps p.tables e below (s₁.setTop (mkF m 74 #[.val (.int p0), .val (.int p1), .val (.int p2), .val (.int p3), .val (.int p4), .val (.int p5), .val (.int v4), .val (.int v8), .val (.int (if (p5 &&& (4 : Int32)) = (0 : Int32) then p3 else p0)), .val (.int (if (p5 &&& (8 : Int32)) = (0 : Int32) then p4 else p1)), .unset, .unset, .unset, .unset, .unset, .unset] [(.int (p3 + p4))])) _
        exact k
      · simp only [if_neg hc63_13] at k
        refine XS.ifNo X0.here hx rfl (hb hby at_63) rfl ((if0 _ _).trans (feq hc63_13).1) ?_
        show Steps p.tables e below (s₁.setTop (mkF m 66 #[.val (.int p0), .val (.int p1), .val (.int p2), .val (.int p3), .val (.int p4), .val (.int p5), .val (.int v4), .val (.int v8), .val (.int (if (p5 &&& (4 : Int32)) = (0 : Int32) then p3 else p0)), .val (.int (if (p5 &&& (8 : Int32)) = (0 : Int32) then p4 else p1)), .unset, .unset, .unset, .unset, .unset, .unset] [])) _
        refine XS.iloadN X0.here hx rfl (hb hby at_66) rfl ?_
        show Steps p.tables e below (s₁.setTop (mkF m 67 #[.val (.int p0), .val (.int p1), .val (.int p2), .val (.int p3), .val (.int p4), .val (.int p5), .val (.int v4), .val (.int v8), .val (.int (if (p5 &&& (4 : Int32)) = (0 : Int32) then p3 else p0)), .val (.int (if (p5 &&& (8 : Int32)) = (0 : Int32) then p4 else p1)), .unset, .unset, .unset, .unset, .unset, .unset] [(.int p2)])) _
        refine XS.goto X0.here hx rfl (pc0 := 67) (pc' := 74) rfl (hb hby at_67) (by decide) (by decide) ?_
        show Steps p.tables e below (s₁.setTop (mkF m 74 #[.val (.int p0), .val (.int p1), .val (.int p2), .val (.int p3), .val (.int p4), .val (.int p5), .val (.int v4), .val (.int v8), .val (.int (if (p5 &&& (4 : Int32)) = (0 : Int32) then p3 else p0)), .val (.int (if (p5 &&& (8 : Int32)) = (0 : Int32) then p4 else p1)), .unset, .unset, .unset, .unset, .unset, .unset] [(.int p2)])) _
        exact k
    refine j14 _ ?_
    show Steps p.tables e below (s₁.setTop (mkF m 74 #[.val (.int p0), .val (.int p1), .val (.int p2), .val (.int p3), .val (.int p4), .val (.int p5), .val (.int v4), .val (.int v8), .val (.int (if (p5 &&& (4 : Int32)) = (0 : Int32) then p3 else p0)), .val (.int (if (p5 &&& (8 : Int32)) = (0 : Int32) then p4 else p1)), .unset, .unset, .unset, .unset, .unset, .unset] [(.int (if (p5 &&& (16 : Int32)) = (0 : Int32) then (p3 + p4) else p2))])) _
    refine XS.istore X0.here hx rfl (hb hby at_74) rfl (l' := #[.val (.int p0), .val (.int p1), .val (.int p2), .val (.int p3), .val (.int p4), .val (.int p5), .val (.int v4), .val (.int v8), .val (.int (if (p5 &&& (4 : Int32)) = (0 : Int32) then p3 else p0)), .val (.int (if (p5 &&& (8 : Int32)) = (0 : Int32) then p4 else p1)), .val (.int (if (p5 &&& (16 : Int32)) = (0 : Int32) then (p3 + p4) else p2)), .unset, .unset, .unset, .unset, .unset]) rfl ?_
    show Steps p.tables e below (s₁.setTop (mkF m 76 #[.val (.int p0), .val (.int p1), .val (.int p2), .val (.int p3), .val (.int p4), .val (.int p5), .val (.int v4), .val (.int v8), .val (.int (if (p5 &&& (4 : Int32)) = (0 : Int32) then p3 else p0)), .val (.int (if (p5 &&& (8 : Int32)) = (0 : Int32) then p4 else p1)), .val (.int (if (p5 &&& (16 : Int32)) = (0 : Int32) then (p3 + p4) else p2)), .unset, .unset, .unset, .unset, .unset] [])) _
    refine XS.iload X0.here hx rfl (hb hby at_76) rfl ?_
    show Steps p.tables e below (s₁.setTop (mkF m 78 #[.val (.int p0), .val (.int p1), .val (.int p2), .val (.int p3), .val (.int p4), .val (.int p5), .val (.int v4), .val (.int v8), .val (.int (if (p5 &&& (4 : Int32)) = (0 : Int32) then p3 else p0)), .val (.int (if (p5 &&& (8 : Int32)) = (0 : Int32) then p4 else p1)), .val (.int (if (p5 &&& (16 : Int32)) = (0 : Int32) then (p3 + p4) else p2)), .unset, .unset, .unset, .unset, .unset] [(.int p5)])) _
    refine XS.iconst X0.here hx rfl (hb hby at_78) ?_
    show Steps p.tables e below (s₁.setTop (mkF m 79 #[.val (.int p0), .val (.int p1), .val (.int p2), .val (.int p3), .val (.int p4), .val (.int p5), .val (.int v4), .val (.int v8), .val (.int (if (p5 &&& (4 : Int32)) = (0 : Int32) then p3 else p0)), .val (.int (if (p5 &&& (8 : Int32)) = (0 : Int32) then p4 else p1)), .val (.int (if (p5 &&& (16 : Int32)) = (0 : Int32) then (p3 + p4) else p2)), .unset, .unset, .unset, .unset, .unset] [(.int (5 : Int32)), (.int p5)])) _
    refine XS.iushr X0.here hx rfl (hb hby at_79) rfl ?_
    show Steps p.tables e below (s₁.setTop (mkF m 80 #[.val (.int p0), .val (.int p1), .val (.int p2), .val (.int p3), .val (.int p4), .val (.int p5), .val (.int v4), .val (.int v8), .val (.int (if (p5 &&& (4 : Int32)) = (0 : Int32) then p3 else p0)), .val (.int (if (p5 &&& (8 : Int32)) = (0 : Int32) then p4 else p1)), .val (.int (if (p5 &&& (16 : Int32)) = (0 : Int32) then (p3 + p4) else p2)), .unset, .unset, .unset, .unset, .unset] [(.int ((p5.toUInt32 >>> ((5 : Int32) &&& 31).toUInt32).toInt32))])) _
    refine XS.iconst X0.here hx rfl (hb hby at_80) ?_
    show Steps p.tables e below (s₁.setTop (mkF m 81 #[.val (.int p0), .val (.int p1), .val (.int p2), .val (.int p3), .val (.int p4), .val (.int p5), .val (.int v4), .val (.int v8), .val (.int (if (p5 &&& (4 : Int32)) = (0 : Int32) then p3 else p0)), .val (.int (if (p5 &&& (8 : Int32)) = (0 : Int32) then p4 else p1)), .val (.int (if (p5 &&& (16 : Int32)) = (0 : Int32) then (p3 + p4) else p2)), .unset, .unset, .unset, .unset, .unset] [(.int (3 : Int32)), (.int ((p5.toUInt32 >>> ((5 : Int32) &&& 31).toUInt32).toInt32))])) _
    refine XS.iand X0.here hx rfl (hb hby at_81) rfl ?_
    show Steps p.tables e below (s₁.setTop (mkF m 82 #[.val (.int p0), .val (.int p1), .val (.int p2), .val (.int p3), .val (.int p4), .val (.int p5), .val (.int v4), .val (.int v8), .val (.int (if (p5 &&& (4 : Int32)) = (0 : Int32) then p3 else p0)), .val (.int (if (p5 &&& (8 : Int32)) = (0 : Int32) then p4 else p1)), .val (.int (if (p5 &&& (16 : Int32)) = (0 : Int32) then (p3 + p4) else p2)), .unset, .unset, .unset, .unset, .unset] [(.int (((p5.toUInt32 >>> ((5 : Int32) &&& 31).toUInt32).toInt32) &&& (3 : Int32)))])) _
    refine XS.istore X0.here hx rfl (hb hby at_82) rfl (l' := #[.val (.int p0), .val (.int p1), .val (.int p2), .val (.int p3), .val (.int p4), .val (.int p5), .val (.int v4), .val (.int v8), .val (.int (if (p5 &&& (4 : Int32)) = (0 : Int32) then p3 else p0)), .val (.int (if (p5 &&& (8 : Int32)) = (0 : Int32) then p4 else p1)), .val (.int (if (p5 &&& (16 : Int32)) = (0 : Int32) then (p3 + p4) else p2)), .val (.int (((p5.toUInt32 >>> ((5 : Int32) &&& 31).toUInt32).toInt32) &&& (3 : Int32))), .unset, .unset, .unset, .unset]) rfl ?_
    show Steps p.tables e below (s₁.setTop (mkF m 84 #[.val (.int p0), .val (.int p1), .val (.int p2), .val (.int p3), .val (.int p4), .val (.int p5), .val (.int v4), .val (.int v8), .val (.int (if (p5 &&& (4 : Int32)) = (0 : Int32) then p3 else p0)), .val (.int (if (p5 &&& (8 : Int32)) = (0 : Int32) then p4 else p1)), .val (.int (if (p5 &&& (16 : Int32)) = (0 : Int32) then (p3 + p4) else p2)), .val (.int (((p5.toUInt32 >>> ((5 : Int32) &&& 31).toUInt32).toInt32) &&& (3 : Int32))), .unset, .unset, .unset, .unset] [])) _
    exact k
  obtain ⟨v16, hv16⟩ : ∃ z : Int32, z = (((p5.toUInt32 >>> ((5 : Int32) &&& 31).toUInt32).toInt32) &&& (3 : Int32)) := ⟨_, rfl⟩
  have pre16 : Lead p e below G (s₁.setTop (mkF m 84 #[.val (.int p0), .val (.int p1), .val (.int p2), .val (.int p3), .val (.int p4), .val (.int p5), .val (.int v4), .val (.int v8), .val (.int (if (p5 &&& (4 : Int32)) = (0 : Int32) then p3 else p0)), .val (.int (if (p5 &&& (8 : Int32)) = (0 : Int32) then p4 else p1)), .val (.int (if (p5 &&& (16 : Int32)) = (0 : Int32) then (p3 + p4) else p2)), .val (.int v16), .unset, .unset, .unset, .unset] [])) := by rw [hv16]; exact pre15
  obtain ⟨v17, hv17⟩ : ∃ z : Int32, z = (if (p5 &&& (4 : Int32)) = (0 : Int32) then p3 else p0) := ⟨_, rfl⟩
  have pre17 : Lead p e below G (s₁.setTop (mkF m 84 #[.val (.int p0), .val (.int p1), .val (.int p2), .val (.int p3), .val (.int p4), .val (.int p5), .val (.int v4), .val (.int v8), .val (.int v17), .val (.int (if (p5 &&& (8 : Int32)) = (0 : Int32) then p4 else p1)), .val (.int (if (p5 &&& (16 : Int32)) = (0 : Int32) then (p3 + p4) else p2)), .val (.int v16), .unset, .unset, .unset, .unset] [])) := by rw [hv17]; exact pre16
  obtain ⟨v18, hv18⟩ : ∃ z : Int32, z = (if (p5 &&& (8 : Int32)) = (0 : Int32) then p4 else p1) := ⟨_, rfl⟩
  have pre18 : Lead p e below G (s₁.setTop (mkF m 84 #[.val (.int p0), .val (.int p1), .val (.int p2), .val (.int p3), .val (.int p4), .val (.int p5), .val (.int v4), .val (.int v8), .val (.int v17), .val (.int v18), .val (.int (if (p5 &&& (16 : Int32)) = (0 : Int32) then (p3 + p4) else p2)), .val (.int v16), .unset, .unset, .unset, .unset] [])) := by rw [hv18]; exact pre17
  obtain ⟨v19, hv19⟩ : ∃ z : Int32, z = (if (p5 &&& (16 : Int32)) = (0 : Int32) then (p3 + p4) else p2) := ⟨_, rfl⟩
  have pre19 : Lead p e below G (s₁.setTop (mkF m 84 #[.val (.int p0), .val (.int p1), .val (.int p2), .val (.int p3), .val (.int p4), .val (.int p5), .val (.int v4), .val (.int v8), .val (.int v17), .val (.int v18), .val (.int v19), .val (.int v16), .unset, .unset, .unset, .unset] [])) := by rw [hv19]; exact pre18
  obtain ⟨T20, h20, X20, e20, E20, A20, D20, -, st20⟩ := newO X0 hx hZ hown (hw _ (List.mem_of_getElem? (i := 0) rfl)) (hw _ (List.mem_of_getElem? (i := 1) rfl)) (hw _ (List.mem_of_getElem? (i := 2) rfl)) e0 (g := (mkF m 84 #[.val (.int p0), .val (.int p1), .val (.int p2), .val (.int p3), .val (.int p4), .val (.int p5), .val (.int v4), .val (.int v8), .val (.int v17), .val (.int v18), .val (.int v19), .val (.int v16), .unset, .unset, .unset, .unset] [])) rfl (hb hby at_84) (by decide) (by decide)
  obtain ⟨b20, g20⟩ : ∃ z, z = h0.size := ⟨_, rfl⟩
  rw [← g20] at A20 D20 st20
  have sz20 : h0.size ≤ b20 := Nat.le_trans K0.1 (Nat.le_of_eq g20.symm)
  have ge20 : n0 ≤ b20 := Nat.le_trans Z0 sz20
  have K20 : Keep h0 h20 [] := K0.ext E20
  have F20_predicate : Fld Z h20 b20 "com/example/nonesuch/nonesuch/engine/GroundProgram$GroundAtom" "predicate" "I" (.int (0 : Int32)) := D20 (Or.inr (hw _ (List.mem_of_getElem? (i := 15) rfl))) (ty := .int) (by decide)
  have F20_subject : Fld Z h20 b20 "com/example/nonesuch/nonesuch/engine/GroundProgram$GroundAtom" "subject" "I" (.int (0 : Int32)) := D20 (Or.inr (hw _ (List.mem_of_getElem? (i := 17) rfl))) (ty := .int) (by decide)
  have F20_object : Fld Z h20 b20 "com/example/nonesuch/nonesuch/engine/GroundProgram$GroundAtom" "object" "I" (.int (0 : Int32)) := D20 (Or.inr (hw _ (List.mem_of_getElem? (i := 19) rfl))) (ty := .int) (by decide)
  have F20_negative : Fld Z h20 b20 "com/example/nonesuch/nonesuch/engine/GroundProgram$GroundAtom" "negative" "Z" (.int (0 : Int32)) := D20 (Or.inr (hw _ (List.mem_of_getElem? (i := 21) rfl))) (ty := .boolean) (by decide)
  have pre20 : Lead p e below G (T20.setTop (mkF m 87 #[.val (.int p0), .val (.int p1), .val (.int p2), .val (.int p3), .val (.int p4), .val (.int p5), .val (.int v4), .val (.int v8), .val (.int v17), .val (.int v18), .val (.int v19), .val (.int v16), .unset, .unset, .unset, .unset] [(.ref b20)])) := fun t k => pre19 t (st20 _ k)
  have pre21 : Lead p e below G (T20.setTop (mkF m 93 #[.val (.int p0), .val (.int p1), .val (.int p2), .val (.int p3), .val (.int p4), .val (.int p5), .val (.int v4), .val (.int v8), .val (.int v17), .val (.int v18), .val (.int v19), .val (.int v16), .unset, .unset, .unset, .unset] [(.int v4), (.int p2), (.int p1), (.int p0), (.ref b20), (.ref b20)])) := fun t k => by
    refine pre20 t ?_
    show Steps p.tables e below (T20.setTop (mkF m 87 #[.val (.int p0), .val (.int p1), .val (.int p2), .val (.int p3), .val (.int p4), .val (.int p5), .val (.int v4), .val (.int v8), .val (.int v17), .val (.int v18), .val (.int v19), .val (.int v16), .unset, .unset, .unset, .unset] [(.ref b20)])) _
    refine XS.dup X20.here hx rfl (hb hby at_87) rfl rfl ?_
    show Steps p.tables e below (T20.setTop (mkF m 88 #[.val (.int p0), .val (.int p1), .val (.int p2), .val (.int p3), .val (.int p4), .val (.int p5), .val (.int v4), .val (.int v8), .val (.int v17), .val (.int v18), .val (.int v19), .val (.int v16), .unset, .unset, .unset, .unset] [(.ref b20), (.ref b20)])) _
    refine XS.iloadN X20.here hx rfl (hb hby at_88) rfl ?_
    show Steps p.tables e below (T20.setTop (mkF m 89 #[.val (.int p0), .val (.int p1), .val (.int p2), .val (.int p3), .val (.int p4), .val (.int p5), .val (.int v4), .val (.int v8), .val (.int v17), .val (.int v18), .val (.int v19), .val (.int v16), .unset, .unset, .unset, .unset] [(.int p0), (.ref b20), (.ref b20)])) _
    refine XS.iloadN X20.here hx rfl (hb hby at_89) rfl ?_
    show Steps p.tables e below (T20.setTop (mkF m 90 #[.val (.int p0), .val (.int p1), .val (.int p2), .val (.int p3), .val (.int p4), .val (.int p5), .val (.int v4), .val (.int v8), .val (.int v17), .val (.int v18), .val (.int v19), .val (.int v16), .unset, .unset, .unset, .unset] [(.int p1), (.int p0), (.ref b20), (.ref b20)])) _
    refine XS.iloadN X20.here hx rfl (hb hby at_90) rfl ?_
    show Steps p.tables e below (T20.setTop (mkF m 91 #[.val (.int p0), .val (.int p1), .val (.int p2), .val (.int p3), .val (.int p4), .val (.int p5), .val (.int v4), .val (.int v8), .val (.int v17), .val (.int v18), .val (.int v19), .val (.int v16), .unset, .unset, .unset, .unset] [(.int p2), (.int p1), (.int p0), (.ref b20), (.ref b20)])) _
    refine XS.iload X20.here hx rfl (hb hby at_91) rfl ?_
    show Steps p.tables e below (T20.setTop (mkF m 93 #[.val (.int p0), .val (.int p1), .val (.int p2), .val (.int p3), .val (.int p4), .val (.int p5), .val (.int v4), .val (.int v8), .val (.int v17), .val (.int v18), .val (.int v19), .val (.int v16), .unset, .unset, .unset, .unset] [(.int v4), (.int p2), (.int p1), (.int p0), (.ref b20), (.ref b20)])) _
    exact k
  obtain ⟨_, _, ⟨T22, L22, k22, n22⟩, -, X22, ⟨Lc22, hQ22, l22, y22, z22⟩, st22⟩ := X20.specialBack hx (y := (⟨"com/example/nonesuch/nonesuch/engine/GroundProgram$GroundAtom", "<init>", "(IIIZ)V"⟩ : MethodName)) rfl hown (mvT hZ (hw _ (List.mem_of_getElem? (i := 3) rfl))) (mvT hZ (hw _ (List.mem_of_getElem? (i := 4) rfl))) (mvT hZ (hw _ (List.mem_of_getElem? (i := 5) rfl))) (by decide) (backOf (W := 1) (rm1 l Z a0 hw [] b20 p0 p1 p2 v4  h20 n0 (Nat.le_trans Z0 K20.1) A20 ge20 F20_predicate F20_subject F20_object F20_negative) hZ (hw _ (List.mem_of_getElem? (i := 5) rfl)) (hw _ (List.mem_of_getElem? (i := 2) rfl)) (by decide) (by decide)) (g := (mkF m 93 #[.val (.int p0), .val (.int p1), .val (.int p2), .val (.int p3), .val (.int p4), .val (.int p5), .val (.int v4), .val (.int v8), .val (.int v17), .val (.int v18), .val (.int v19), .val (.int v16), .unset, .unset, .unset, .unset] [(.int v4), (.int p2), (.int p1), (.int p0), (.ref b20), (.ref b20)])) rfl (by rw [hml]; rfl) (Steps.refl _) (a := b20) (argsL := [(.int p0), (.int p1), (.int p2), (.int v4)]) (rest := [(.ref b20)]) (lenOf pd__28_IIIZ_29_V rfl) rfl (by show 2 * 0 + _ ≤ _; exact Nat.le_of_eq rfl) (hb hby at_93) (fun _ _ => ⟨rfl, e20, (by decide : 1 + 0 ≤ _), (by decide : 4 + 0 ≤ _)⟩)
  dsimp only [Pt.U, Pt.locs, Pt.cells, Pt.slots] at X22 l22 y22 z22 st22 hQ22
  subst l22 y22 z22
  obtain ⟨rfl, N22q, K22c, c22_0, c22_1, c22_2, c22_3, c22_4⟩ := hQ22
  have N22 := Fr.app N0 N22q
  have K22 : Keep h0 T22.heap [] := K20.trans K22c (allS (Or.inr sz20) all0)
  obtain ⟨M22, Y22, N22⟩ : ∃ M, Stand p l e room_1 s m #[(.int p0), (.int p1), (.int p2), (.int p3), (.int p4), (.int p5)] below meth c T22 M 1 4 ∧ Fr n0 M := ⟨_, X22, N22⟩
  have pre22 : Lead p e below G (T22.setTop (mkF m 96 #[.val (.int p0), .val (.int p1), .val (.int p2), .val (.int p3), .val (.int p4), .val (.int p5), .val (.int v4), .val (.int v8), .val (.int v17), .val (.int v18), .val (.int v19), .val (.int v16), .unset, .unset, .unset, .unset] [(.ref b20)])) := fun t k => pre21 t (st22.trans k)
  have pre23 : Lead p e below G (T22.setTop (mkF m 98 #[.val (.int p0), .val (.int p1), .val (.int p2), .val (.int p3), .val (.int p4), .val (.int p5), .val (.int v4), .val (.int v8), .val (.int v17), .val (.int v18), .val (.int v19), .val (.int v16), .val (.ref b20), .unset, .unset, .unset] [])) := fun t k => by
    refine pre22 t ?_
    show Steps p.tables e below (T22.setTop (mkF m 96 #[.val (.int p0), .val (.int p1), .val (.int p2), .val (.int p3), .val (.int p4), .val (.int p5), .val (.int v4), .val (.int v8), .val (.int v17), .val (.int v18), .val (.int v19), .val (.int v16), .unset, .unset, .unset, .unset] [(.ref b20)])) _
    refine XS.astore Y22.here hx rfl (hb hby at_96) rfl rfl (l' := #[.val (.int p0), .val (.int p1), .val (.int p2), .val (.int p3), .val (.int p4), .val (.int p5), .val (.int v4), .val (.int v8), .val (.int v17), .val (.int v18), .val (.int v19), .val (.int v16), .val (.ref b20), .unset, .unset, .unset]) rfl ?_
    show Steps p.tables e below (T22.setTop (mkF m 98 #[.val (.int p0), .val (.int p1), .val (.int p2), .val (.int p3), .val (.int p4), .val (.int p5), .val (.int v4), .val (.int v8), .val (.int v17), .val (.int v18), .val (.int v19), .val (.int v16), .val (.ref b20), .unset, .unset, .unset] [])) _
    exact k
  obtain ⟨T24, h24, X24, e24, E24, A24, D24, -, st24⟩ := newO Y22 hx hZ hown (hw _ (List.mem_of_getElem? (i := 0) rfl)) (hw _ (List.mem_of_getElem? (i := 1) rfl)) (hw _ (List.mem_of_getElem? (i := 2) rfl)) rfl (g := (mkF m 98 #[.val (.int p0), .val (.int p1), .val (.int p2), .val (.int p3), .val (.int p4), .val (.int p5), .val (.int v4), .val (.int v8), .val (.int v17), .val (.int v18), .val (.int v19), .val (.int v16), .val (.ref b20), .unset, .unset, .unset] [])) rfl (hb hby at_98) (by decide) (by decide)
  obtain ⟨b24, g24⟩ : ∃ z, z = T22.heap.size := ⟨_, rfl⟩
  rw [← g24] at A24 D24 st24
  have ne24_b20 : b20 ≠ b24 := Nat.ne_of_lt (Nat.lt_of_lt_of_le c22_0.lt (Nat.le_of_eq g24.symm))
  have sz24 : h0.size ≤ b24 := Nat.le_trans K22.1 (Nat.le_of_eq g24.symm)
  have ge24 : n0 ≤ b24 := Nat.le_trans Z0 sz24
  have K24 : Keep h0 h24 [] := K22.ext E24
  have F24_predicate : Fld Z h24 b24 "com/example/nonesuch/nonesuch/engine/GroundProgram$GroundAtom" "predicate" "I" (.int (0 : Int32)) := D24 (Or.inr (hw _ (List.mem_of_getElem? (i := 15) rfl))) (ty := .int) (by decide)
  have F24_subject : Fld Z h24 b24 "com/example/nonesuch/nonesuch/engine/GroundProgram$GroundAtom" "subject" "I" (.int (0 : Int32)) := D24 (Or.inr (hw _ (List.mem_of_getElem? (i := 17) rfl))) (ty := .int) (by decide)
  have F24_object : Fld Z h24 b24 "com/example/nonesuch/nonesuch/engine/GroundProgram$GroundAtom" "object" "I" (.int (0 : Int32)) := D24 (Or.inr (hw _ (List.mem_of_getElem? (i := 19) rfl))) (ty := .int) (by decide)
  have F24_negative : Fld Z h24 b24 "com/example/nonesuch/nonesuch/engine/GroundProgram$GroundAtom" "negative" "Z" (.int (0 : Int32)) := D24 (Or.inr (hw _ (List.mem_of_getElem? (i := 21) rfl))) (ty := .boolean) (by decide)
  have pre24 : Lead p e below G (T24.setTop (mkF m 101 #[.val (.int p0), .val (.int p1), .val (.int p2), .val (.int p3), .val (.int p4), .val (.int p5), .val (.int v4), .val (.int v8), .val (.int v17), .val (.int v18), .val (.int v19), .val (.int v16), .val (.ref b20), .unset, .unset, .unset] [(.ref b24)])) := fun t k => pre23 t (st24 _ k)
  have pre25 : Lead p e below G (T24.setTop (mkF m 110 #[.val (.int p0), .val (.int p1), .val (.int p2), .val (.int p3), .val (.int p4), .val (.int p5), .val (.int v4), .val (.int v8), .val (.int v17), .val (.int v18), .val (.int v19), .val (.int v16), .val (.ref b20), .unset, .unset, .unset] [(.int v8), (.int v19), (.int v18), (.int v17), (.ref b24), (.ref b24)])) := fun t k => by
    refine pre24 t ?_
    show Steps p.tables e below (T24.setTop (mkF m 101 #[.val (.int p0), .val (.int p1), .val (.int p2), .val (.int p3), .val (.int p4), .val (.int p5), .val (.int v4), .val (.int v8), .val (.int v17), .val (.int v18), .val (.int v19), .val (.int v16), .val (.ref b20), .unset, .unset, .unset] [(.ref b24)])) _
    refine XS.dup X24.here hx rfl (hb hby at_101) rfl rfl ?_
    show Steps p.tables e below (T24.setTop (mkF m 102 #[.val (.int p0), .val (.int p1), .val (.int p2), .val (.int p3), .val (.int p4), .val (.int p5), .val (.int v4), .val (.int v8), .val (.int v17), .val (.int v18), .val (.int v19), .val (.int v16), .val (.ref b20), .unset, .unset, .unset] [(.ref b24), (.ref b24)])) _
    refine XS.iload X24.here hx rfl (hb hby at_102) rfl ?_
    show Steps p.tables e below (T24.setTop (mkF m 104 #[.val (.int p0), .val (.int p1), .val (.int p2), .val (.int p3), .val (.int p4), .val (.int p5), .val (.int v4), .val (.int v8), .val (.int v17), .val (.int v18), .val (.int v19), .val (.int v16), .val (.ref b20), .unset, .unset, .unset] [(.int v17), (.ref b24), (.ref b24)])) _
    refine XS.iload X24.here hx rfl (hb hby at_104) rfl ?_
    show Steps p.tables e below (T24.setTop (mkF m 106 #[.val (.int p0), .val (.int p1), .val (.int p2), .val (.int p3), .val (.int p4), .val (.int p5), .val (.int v4), .val (.int v8), .val (.int v17), .val (.int v18), .val (.int v19), .val (.int v16), .val (.ref b20), .unset, .unset, .unset] [(.int v18), (.int v17), (.ref b24), (.ref b24)])) _
    refine XS.iload X24.here hx rfl (hb hby at_106) rfl ?_
    show Steps p.tables e below (T24.setTop (mkF m 108 #[.val (.int p0), .val (.int p1), .val (.int p2), .val (.int p3), .val (.int p4), .val (.int p5), .val (.int v4), .val (.int v8), .val (.int v17), .val (.int v18), .val (.int v19), .val (.int v16), .val (.ref b20), .unset, .unset, .unset] [(.int v19), (.int v18), (.int v17), (.ref b24), (.ref b24)])) _
    refine XS.iload X24.here hx rfl (hb hby at_108) rfl ?_
    show Steps p.tables e below (T24.setTop (mkF m 110 #[.val (.int p0), .val (.int p1), .val (.int p2), .val (.int p3), .val (.int p4), .val (.int p5), .val (.int v4), .val (.int v8), .val (.int v17), .val (.int v18), .val (.int v19), .val (.int v16), .val (.ref b20), .unset, .unset, .unset] [(.int v8), (.int v19), (.int v18), (.int v17), (.ref b24), (.ref b24)])) _
    exact k
  obtain ⟨_, _, ⟨T26, L26, k26, n26⟩, -, X26, ⟨Lc26, hQ26, l26, y26, z26⟩, st26⟩ := X24.specialBack hx (y := (⟨"com/example/nonesuch/nonesuch/engine/GroundProgram$GroundAtom", "<init>", "(IIIZ)V"⟩ : MethodName)) rfl hown (mvT hZ (hw _ (List.mem_of_getElem? (i := 3) rfl))) (mvT hZ (hw _ (List.mem_of_getElem? (i := 4) rfl))) (mvT hZ (hw _ (List.mem_of_getElem? (i := 5) rfl))) (by decide) (backOf (W := 1) (rm1 l Z a0 hw [] b24 v17 v18 v19 v8  h24 n0 (Nat.le_trans Z0 K24.1) A24 ge24 F24_predicate F24_subject F24_object F24_negative) hZ (hw _ (List.mem_of_getElem? (i := 5) rfl)) (hw _ (List.mem_of_getElem? (i := 2) rfl)) (by decide) (by decide)) (g := (mkF m 110 #[.val (.int p0), .val (.int p1), .val (.int p2), .val (.int p3), .val (.int p4), .val (.int p5), .val (.int v4), .val (.int v8), .val (.int v17), .val (.int v18), .val (.int v19), .val (.int v16), .val (.ref b20), .unset, .unset, .unset] [(.int v8), (.int v19), (.int v18), (.int v17), (.ref b24), (.ref b24)])) rfl (by rw [hml]; rfl) (Steps.refl _) (a := b24) (argsL := [(.int v17), (.int v18), (.int v19), (.int v8)]) (rest := [(.ref b24)]) (lenOf pd__28_IIIZ_29_V rfl) rfl (by show 2 * 0 + _ ≤ _; exact Nat.le_of_eq rfl) (hb hby at_110) (fun _ _ => ⟨rfl, e24, (by decide : 2 + 0 ≤ _), (by decide : 8 + 0 ≤ _)⟩)
  dsimp only [Pt.U, Pt.locs, Pt.cells, Pt.slots] at X26 l26 y26 z26 st26 hQ26
  subst l26 y26 z26
  obtain ⟨rfl, N26q, K26c, c26_0, c26_1, c26_2, c26_3, c26_4⟩ := hQ26
  have N26 := Fr.app N22 N26q
  have K26 : Keep h0 T26.heap [] := K24.trans K26c (allS (Or.inr sz24) all0)
  obtain ⟨M26, Y26, N26⟩ : ∃ M, Stand p l e room_1 s m #[(.int p0), (.int p1), (.int p2), (.int p3), (.int p4), (.int p5)] below meth c T26 M 2 8 ∧ Fr n0 M := ⟨_, X26, N26⟩
  have pre26 : Lead p e below G (T26.setTop (mkF m 113 #[.val (.int p0), .val (.int p1), .val (.int p2), .val (.int p3), .val (.int p4), .val (.int p5), .val (.int v4), .val (.int v8), .val (.int v17), .val (.int v18), .val (.int v19), .val (.int v16), .val (.ref b20), .unset, .unset, .unset] [(.ref b24)])) := fun t k => pre25 t (st26.trans k)
  have pre27 : Lead p e below G (T26.setTop (mkF m 115 #[.val (.int p0), .val (.int p1), .val (.int p2), .val (.int p3), .val (.int p4), .val (.int p5), .val (.int v4), .val (.int v8), .val (.int v17), .val (.int v18), .val (.int v19), .val (.int v16), .val (.ref b20), .val (.ref b24), .unset, .unset] [])) := fun t k => by
    refine pre26 t ?_
    show Steps p.tables e below (T26.setTop (mkF m 113 #[.val (.int p0), .val (.int p1), .val (.int p2), .val (.int p3), .val (.int p4), .val (.int p5), .val (.int v4), .val (.int v8), .val (.int v17), .val (.int v18), .val (.int v19), .val (.int v16), .val (.ref b20), .unset, .unset, .unset] [(.ref b24)])) _
    refine XS.astore Y26.here hx rfl (hb hby at_113) rfl rfl (l' := #[.val (.int p0), .val (.int p1), .val (.int p2), .val (.int p3), .val (.int p4), .val (.int p5), .val (.int v4), .val (.int v8), .val (.int v17), .val (.int v18), .val (.int v19), .val (.int v16), .val (.ref b20), .val (.ref b24), .unset, .unset]) rfl ?_
    show Steps p.tables e below (T26.setTop (mkF m 115 #[.val (.int p0), .val (.int p1), .val (.int p2), .val (.int p3), .val (.int p4), .val (.int p5), .val (.int v4), .val (.int v8), .val (.int v17), .val (.int v18), .val (.int v19), .val (.int v16), .val (.ref b20), .val (.ref b24), .unset, .unset] [])) _
    exact k
  obtain ⟨T28, h28, X28, e28, E28, A28, D28, -, st28⟩ := newO Y26 hx hZ hown (hw _ (List.mem_of_getElem? (i := 22) rfl)) (hw _ (List.mem_of_getElem? (i := 23) rfl)) (hw _ (List.mem_of_getElem? (i := 24) rfl)) rfl (g := (mkF m 115 #[.val (.int p0), .val (.int p1), .val (.int p2), .val (.int p3), .val (.int p4), .val (.int p5), .val (.int v4), .val (.int v8), .val (.int v17), .val (.int v18), .val (.int v19), .val (.int v16), .val (.ref b20), .val (.ref b24), .unset, .unset] [])) rfl (hb hby at_115) (by decide) (by decide)
  obtain ⟨b28, g28⟩ : ∃ z, z = T26.heap.size := ⟨_, rfl⟩
  rw [← g28] at A28 D28 st28
  have f29 : Exa Z T26.heap b20 "com/example/nonesuch/nonesuch/engine/GroundProgram$GroundAtom" := ((c22_0.ext E24).keep K26c)
  have ne28_b20 : b20 ≠ b28 := Nat.ne_of_lt (Nat.lt_of_lt_of_le f29.lt (Nat.le_of_eq g28.symm))
  have ne28_b24 : b24 ≠ b28 := Nat.ne_of_lt (Nat.lt_of_lt_of_le c26_0.lt (Nat.le_of_eq g28.symm))
  have sz28 : h0.size ≤ b28 := Nat.le_trans K26.1 (Nat.le_of_eq g28.symm)
  have ge28 : n0 ≤ b28 := Nat.le_trans Z0 sz28
  have K28 : Keep h0 h28 [] := K26.ext E28
  have F28_predicate : Fld Z h28 b28 "com/example/nonesuch/nonesuch/engine/AtomPattern" "predicate" "I" (.int (0 : Int32)) := D28 (Or.inr (hw _ (List.mem_of_getElem? (i := 30) rfl))) (ty := .int) (by decide)
  have F28_subject : Fld Z h28 b28 "com/example/nonesuch/nonesuch/engine/AtomPattern" "subject" "I" (.int (0 : Int32)) := D28 (Or.inr (hw _ (List.mem_of_getElem? (i := 32) rfl))) (ty := .int) (by decide)
  have F28_object : Fld Z h28 b28 "com/example/nonesuch/nonesuch/engine/AtomPattern" "object" "I" (.int (0 : Int32)) := D28 (Or.inr (hw _ (List.mem_of_getElem? (i := 34) rfl))) (ty := .int) (by decide)
  have F28_negative : Fld Z h28 b28 "com/example/nonesuch/nonesuch/engine/AtomPattern" "negative" "Z" (.int (0 : Int32)) := D28 (Or.inr (hw _ (List.mem_of_getElem? (i := 36) rfl))) (ty := .boolean) (by decide)
  have pre28 : Lead p e below G (T28.setTop (mkF m 118 #[.val (.int p0), .val (.int p1), .val (.int p2), .val (.int p3), .val (.int p4), .val (.int p5), .val (.int v4), .val (.int v8), .val (.int v17), .val (.int v18), .val (.int v19), .val (.int v16), .val (.ref b20), .val (.ref b24), .unset, .unset] [(.ref b28)])) := fun t k => pre27 t (st28 _ k)
  have pre30 : Lead p e below G (T28.setTop (mkF m 124 #[.val (.int p0), .val (.int p1), .val (.int p2), .val (.int p3), .val (.int p4), .val (.int p5), .val (.int v4), .val (.int v8), .val (.int v17), .val (.int v18), .val (.int v19), .val (.int v16), .val (.ref b20), .val (.ref b24), .unset, .unset] [(.int v4), (.int p2), (.int p1), (.int p0), (.ref b28), (.ref b28)])) := fun t k => by
    refine pre28 t ?_
    show Steps p.tables e below (T28.setTop (mkF m 118 #[.val (.int p0), .val (.int p1), .val (.int p2), .val (.int p3), .val (.int p4), .val (.int p5), .val (.int v4), .val (.int v8), .val (.int v17), .val (.int v18), .val (.int v19), .val (.int v16), .val (.ref b20), .val (.ref b24), .unset, .unset] [(.ref b28)])) _
    refine XS.dup X28.here hx rfl (hb hby at_118) rfl rfl ?_
    show Steps p.tables e below (T28.setTop (mkF m 119 #[.val (.int p0), .val (.int p1), .val (.int p2), .val (.int p3), .val (.int p4), .val (.int p5), .val (.int v4), .val (.int v8), .val (.int v17), .val (.int v18), .val (.int v19), .val (.int v16), .val (.ref b20), .val (.ref b24), .unset, .unset] [(.ref b28), (.ref b28)])) _
    refine XS.iloadN X28.here hx rfl (hb hby at_119) rfl ?_
    show Steps p.tables e below (T28.setTop (mkF m 120 #[.val (.int p0), .val (.int p1), .val (.int p2), .val (.int p3), .val (.int p4), .val (.int p5), .val (.int v4), .val (.int v8), .val (.int v17), .val (.int v18), .val (.int v19), .val (.int v16), .val (.ref b20), .val (.ref b24), .unset, .unset] [(.int p0), (.ref b28), (.ref b28)])) _
    refine XS.iloadN X28.here hx rfl (hb hby at_120) rfl ?_
    show Steps p.tables e below (T28.setTop (mkF m 121 #[.val (.int p0), .val (.int p1), .val (.int p2), .val (.int p3), .val (.int p4), .val (.int p5), .val (.int v4), .val (.int v8), .val (.int v17), .val (.int v18), .val (.int v19), .val (.int v16), .val (.ref b20), .val (.ref b24), .unset, .unset] [(.int p1), (.int p0), (.ref b28), (.ref b28)])) _
    refine XS.iloadN X28.here hx rfl (hb hby at_121) rfl ?_
    show Steps p.tables e below (T28.setTop (mkF m 122 #[.val (.int p0), .val (.int p1), .val (.int p2), .val (.int p3), .val (.int p4), .val (.int p5), .val (.int v4), .val (.int v8), .val (.int v17), .val (.int v18), .val (.int v19), .val (.int v16), .val (.ref b20), .val (.ref b24), .unset, .unset] [(.int p2), (.int p1), (.int p0), (.ref b28), (.ref b28)])) _
    refine XS.iload X28.here hx rfl (hb hby at_122) rfl ?_
    show Steps p.tables e below (T28.setTop (mkF m 124 #[.val (.int p0), .val (.int p1), .val (.int p2), .val (.int p3), .val (.int p4), .val (.int p5), .val (.int v4), .val (.int v8), .val (.int v17), .val (.int v18), .val (.int v19), .val (.int v16), .val (.ref b20), .val (.ref b24), .unset, .unset] [(.int v4), (.int p2), (.int p1), (.int p0), (.ref b28), (.ref b28)])) _
    exact k
  obtain ⟨_, _, ⟨T31, L31, k31, n31⟩, -, X31, ⟨Lc31, hQ31, l31, y31, z31⟩, st31⟩ := X28.specialBack hx (y := (⟨"com/example/nonesuch/nonesuch/engine/AtomPattern", "<init>", "(IIIZ)V"⟩ : MethodName)) rfl hown (mvT hZ (hw _ (List.mem_of_getElem? (i := 25) rfl))) (mvT hZ (hw _ (List.mem_of_getElem? (i := 26) rfl))) (mvT hZ (hw _ (List.mem_of_getElem? (i := 27) rfl))) (by decide) (backOf (W := 1) (rm4 l Z a0 hw [] b28 p0 p1 p2 v4  h28 n0 (Nat.le_trans Z0 K28.1) A28 ge28 F28_predicate F28_subject F28_object F28_negative) hZ (hw _ (List.mem_of_getElem? (i := 27) rfl)) (hw _ (List.mem_of_getElem? (i := 24) rfl)) (by decide) (by decide)) (g := (mkF m 124 #[.val (.int p0), .val (.int p1), .val (.int p2), .val (.int p3), .val (.int p4), .val (.int p5), .val (.int v4), .val (.int v8), .val (.int v17), .val (.int v18), .val (.int v19), .val (.int v16), .val (.ref b20), .val (.ref b24), .unset, .unset] [(.int v4), (.int p2), (.int p1), (.int p0), (.ref b28), (.ref b28)])) rfl (by rw [hml]; rfl) (Steps.refl _) (a := b28) (argsL := [(.int p0), (.int p1), (.int p2), (.int v4)]) (rest := [(.ref b28)]) (lenOf pd__28_IIIZ_29_V rfl) rfl (by show 2 * 0 + _ ≤ _; exact Nat.le_of_eq rfl) (hb hby at_124) (fun _ _ => ⟨rfl, e28, (by decide : 3 + 0 ≤ _), (by decide : 12 + 0 ≤ _)⟩)
  dsimp only [Pt.U, Pt.locs, Pt.cells, Pt.slots] at X31 l31 y31 z31 st31 hQ31
  subst l31 y31 z31
  obtain ⟨rfl, N31q, K31c, c31_0⟩ := hQ31
  have N31 := Fr.app N26 N31q
  have K31 : Keep h0 T31.heap [] := K28.trans K31c (allS (Or.inr sz28) all0)
  obtain ⟨M31, Y31, N31⟩ : ∃ M, Stand p l e room_1 s m #[(.int p0), (.int p1), (.int p2), (.int p3), (.int p4), (.int p5)] below meth c T31 M 3 12 ∧ Fr n0 M := ⟨_, X31, N31⟩
  have pre31 : Lead p e below G (T31.setTop (mkF m 127 #[.val (.int p0), .val (.int p1), .val (.int p2), .val (.int p3), .val (.int p4), .val (.int p5), .val (.int v4), .val (.int v8), .val (.int v17), .val (.int v18), .val (.int v19), .val (.int v16), .val (.ref b20), .val (.ref b24), .unset, .unset] [(.ref b28)])) := fun t k => pre30 t (st31.trans k)
  have pre32 : Lead p e below G (T31.setTop (mkF m 132 #[.val (.int p0), .val (.int p1), .val (.int p2), .val (.int p3), .val (.int p4), .val (.int p5), .val (.int v4), .val (.int v8), .val (.int v17), .val (.int v18), .val (.int v19), .val (.int v16), .val (.ref b20), .val (.ref b24), .val (.ref b28), .unset] [(.int (1 : Int32)), (.int v16)])) := fun t k => by
    refine pre31 t ?_
    show Steps p.tables e below (T31.setTop (mkF m 127 #[.val (.int p0), .val (.int p1), .val (.int p2), .val (.int p3), .val (.int p4), .val (.int p5), .val (.int v4), .val (.int v8), .val (.int v17), .val (.int v18), .val (.int v19), .val (.int v16), .val (.ref b20), .val (.ref b24), .unset, .unset] [(.ref b28)])) _
    refine XS.astore Y31.here hx rfl (hb hby at_127) rfl rfl (l' := #[.val (.int p0), .val (.int p1), .val (.int p2), .val (.int p3), .val (.int p4), .val (.int p5), .val (.int v4), .val (.int v8), .val (.int v17), .val (.int v18), .val (.int v19), .val (.int v16), .val (.ref b20), .val (.ref b24), .val (.ref b28), .unset]) rfl ?_
    show Steps p.tables e below (T31.setTop (mkF m 129 #[.val (.int p0), .val (.int p1), .val (.int p2), .val (.int p3), .val (.int p4), .val (.int p5), .val (.int v4), .val (.int v8), .val (.int v17), .val (.int v18), .val (.int v19), .val (.int v16), .val (.ref b20), .val (.ref b24), .val (.ref b28), .unset] [])) _
    refine XS.iload Y31.here hx rfl (hb hby at_129) rfl ?_
    show Steps p.tables e below (T31.setTop (mkF m 131 #[.val (.int p0), .val (.int p1), .val (.int p2), .val (.int p3), .val (.int p4), .val (.int p5), .val (.int v4), .val (.int v8), .val (.int v17), .val (.int v18), .val (.int v19), .val (.int v16), .val (.ref b20), .val (.ref b24), .val (.ref b28), .unset] [(.int v16)])) _
    refine XS.iconst Y31.here hx rfl (hb hby at_131) ?_
    show Steps p.tables e below (T31.setTop (mkF m 132 #[.val (.int p0), .val (.int p1), .val (.int p2), .val (.int p3), .val (.int p4), .val (.int p5), .val (.int v4), .val (.int v8), .val (.int v17), .val (.int v18), .val (.int v19), .val (.int v16), .val (.ref b20), .val (.ref b24), .val (.ref b28), .unset] [(.int (1 : Int32)), (.int v16)])) _
    exact k
  by_cases hs132_33 : v16 = (1 : Int32)
  · have pre34 : Lead p e below G (T31.setTop (mkF m 138 #[.val (.int p0), .val (.int p1), .val (.int p2), .val (.int p3), .val (.int p4), .val (.int p5), .val (.int v4), .val (.int v8), .val (.int v17), .val (.int v18), .val (.int v19), .val (.int v16), .val (.ref b20), .val (.ref b24), .val (.ref b28), .unset] [.null, (.ref b20)])) := fun t k => by
      refine pre32 t ?_
      show Steps p.tables e below (T31.setTop (mkF m 132 #[.val (.int p0), .val (.int p1), .val (.int p2), .val (.int p3), .val (.int p4), .val (.int p5), .val (.int v4), .val (.int v8), .val (.int v17), .val (.int v18), .val (.int v19), .val (.int v16), .val (.ref b20), .val (.ref b24), .val (.ref b28), .unset] [(.int (1 : Int32)), (.int v16)])) _
      refine XS.icmpNo Y31.here hx rfl (hb hby at_132) rfl (teq hs132_33).2 ?_
      show Steps p.tables e below (T31.setTop (mkF m 135 #[.val (.int p0), .val (.int p1), .val (.int p2), .val (.int p3), .val (.int p4), .val (.int p5), .val (.int v4), .val (.int v8), .val (.int v17), .val (.int v18), .val (.int v19), .val (.int v16), .val (.ref b20), .val (.ref b24), .val (.ref b28), .unset] [])) _
      refine XS.aload Y31.here hx rfl (hb hby at_135) rfl rfl ?_
      show Steps p.tables e below (T31.setTop (mkF m 137 #[.val (.int p0), .val (.int p1), .val (.int p2), .val (.int p3), .val (.int p4), .val (.int p5), .val (.int v4), .val (.int v8), .val (.int v17), .val (.int v18), .val (.int v19), .val (.int v16), .val (.ref b20), .val (.ref b24), .val (.ref b28), .unset] [(.ref b20)])) _
      refine XS.aconstNull Y31.here hx rfl (hb hby at_137) ?_
      show Steps p.tables e below (T31.setTop (mkF m 138 #[.val (.int p0), .val (.int p1), .val (.int p2), .val (.int p3), .val (.int p4), .val (.int p5), .val (.int v4), .val (.int v8), .val (.int v17), .val (.int v18), .val (.int v19), .val (.int v16), .val (.ref b20), .val (.ref b24), .val (.ref b28), .unset] [.null, (.ref b20)])) _
      exact k
    have f36 : Exa Z T31.heap b20 "com/example/nonesuch/nonesuch/engine/GroundProgram$GroundAtom" := ((f29.ext E28).keep K31c)
    obtain ⟨cq35, kq35, q35a, q35b, q35c⟩ := isOf hZ rfl f36
    obtain ⟨_, _, ⟨T35, L35, k35, n35⟩, -, X35, ⟨Lc35, hQ35, l35, y35, z35⟩, st35⟩ := Y31.virtualBack hx (y := (⟨"com/example/nonesuch/nonesuch/engine/GroundProgram$GroundAtom", "equals", "(Ljava/lang/Object;)Z"⟩ : MethodName)) (z := (⟨"com/example/nonesuch/nonesuch/engine/GroundProgram$GroundAtom", "equals", "(Ljava/lang/Object;)Z"⟩ : MethodName)) hown (mvT hZ (hw _ (List.mem_of_getElem? (i := 37) rfl))) (mvT hZ (hw _ (List.mem_of_getElem? (i := 38) rfl))) (notFace_of_selects (args := #[]) (mvT hZ (hw _ (List.mem_of_getElem? (i := 40) rfl)))) (mvT hZ (hw _ (List.mem_of_getElem? (i := 40) rfl))) (mvT hZ (hw _ (List.mem_of_getElem? (i := 39) rfl))) (by decide) (backOf (W := 0) (rm4n l Z a0 hw [] b20  T31.heap n0 (Nat.le_trans Z0 K31.1) f36) hZ (hw _ (List.mem_of_getElem? (i := 41) rfl)) (hw _ (List.mem_of_getElem? (i := 2) rfl)) (by decide) (by decide)) q35a q35c (g := (mkF m 138 #[.val (.int p0), .val (.int p1), .val (.int p2), .val (.int p3), .val (.int p4), .val (.int p5), .val (.int v4), .val (.int v8), .val (.int v17), .val (.int v18), .val (.int v19), .val (.int v16), .val (.ref b20), .val (.ref b24), .val (.ref b28), .unset] [.null, (.ref b20)])) rfl (by rw [hml]; rfl) (Steps.refl _) (argsL := [.null]) (rest := []) (lenOf pd__28_Ljava_2f_lang_2f_Object_3b__29_Z rfl) rfl (by show 2 * 0 + _ ≤ _; exact Nat.le_of_eq rfl) (hb hby at_138) (fun _ _ => ⟨rfl, rfl, (by decide : 3 + 0 ≤ _), (by decide : 12 + 0 ≤ _)⟩)
    dsimp only [Pt.U, Pt.locs, Pt.cells, Pt.slots] at X35 l35 y35 z35 st35 hQ35
    subst l35 y35 z35
    obtain ⟨rfl, N35q, e35⟩ := hQ35
    have N35 := Fr.app N31 N35q
    obtain ⟨M35, Y35, N35⟩ : ∃ M, Stand p l e room_1 s m #[(.int p0), (.int p1), (.int p2), (.int p3), (.int p4), (.int p5)] below meth c T35 M 3 12 ∧ Fr n0 M := ⟨_, X35, N35⟩
    have pre35 : Lead p e below G (T35.setTop (mkF m 141 #[.val (.int p0), .val (.int p1), .val (.int p2), .val (.int p3), .val (.int p4), .val (.int p5), .val (.int v4), .val (.int v8), .val (.int v17), .val (.int v18), .val (.int v19), .val (.int v16), .val (.ref b20), .val (.ref b24), .val (.ref b28), .unset] [(.int F4n)])) := fun t k => pre34 t (st35.trans k)
    obtain ⟨fs, hr, hrun, hended, hW, hsame⟩ := Y35.leave (v := some (.int (nar .boolean (if F4n = (0 : Int32) then (1 : Int32) else (0 : Int32))))) (fun h => by rw [Bd.returns] at h; cases h)
    subst hG
    refine ⟨_, _, pre35 _ ?_, hrun, hended, _, _, rfl, ?_, ⟨_, rfl⟩, hW, hsame.mono (by decide) (by decide)⟩
    · show Steps p.tables e below (T35.setTop (mkF m 141 #[.val (.int p0), .val (.int p1), .val (.int p2), .val (.int p3), .val (.int p4), .val (.int p5), .val (.int v4), .val (.int v8), .val (.int v17), .val (.int v18), .val (.int v19), .val (.int v16), .val (.ref b20), .val (.ref b24), .val (.ref b28), .unset] [(.int F4n)])) _
      have j38 : ∀ t, Steps p.tables e below (T35.setTop (mkF m 149 #[.val (.int p0), .val (.int p1), .val (.int p2), .val (.int p3), .val (.int p4), .val (.int p5), .val (.int v4), .val (.int v8), .val (.int v17), .val (.int v18), .val (.int v19), .val (.int v16), .val (.ref b20), .val (.ref b24), .val (.ref b28), .unset] [(.int (if F4n = (0 : Int32) then (1 : Int32) else (0 : Int32)))])) t → Steps p.tables e below (T35.setTop (mkF m 141 #[.val (.int p0), .val (.int p1), .val (.int p2), .val (.int p3), .val (.int p4), .val (.int p5), .val (.int v4), .val (.int v8), .val (.int v17), .val (.int v18), .val (.int v19), .val (.int v16), .val (.ref b20), .val (.ref b24), .val (.ref b28), .unset] [(.int F4n)])) t := fun t k => by
        by_cases hc141_37 : F4n = (0 : Int32)
        · simp only [if_pos hc141_37] at k
          refine XS.ifNo Y35.here hx rfl (hb hby at_141) rfl ((if0 _ _).trans (teq hc141_37).2) ?_
          show Steps p.tables e below (T35.setTop (mkF m 144 #[.val (.int p0), .val (.int p1), .val (.int p2), .val (.int p3), .val (.int p4), .val (.int p5), .val (.int v4), .val (.int v8), .val (.int v17), .val (.int v18), .val (.int v19), .val (.int v16), .val (.ref b20), .val (.ref b24), .val (.ref b28), .unset] [])) _
          refine XS.iconst Y35.here hx rfl (hb hby at_144) ?_
          show Steps p.tables e below (T35.setTop (mkF m 145 #[.val (.int p0), .val (.int p1), .val (.int p2), .val (.int p3), .val (.int p4), .val (.int p5), .val (.int v4), .val (.int v8), .val (.int v17), .val (.int v18), .val (.int v19), .val (.int v16), .val (.ref b20), .val (.ref b24), .val (.ref b28), .unset] [(.int (1 : Int32))])) _
          refine XS.goto Y35.here hx rfl (pc0 := 145) (pc' := 149) rfl (hb hby at_145) (by decide) (by decide) ?_
          show Steps p.tables e below (T35.setTop (mkF m 149 #[.val (.int p0), .val (.int p1), .val (.int p2), .val (.int p3), .val (.int p4), .val (.int p5), .val (.int v4), .val (.int v8), .val (.int v17), .val (.int v18), .val (.int v19), .val (.int v16), .val (.ref b20), .val (.ref b24), .val (.ref b28), .unset] [(.int (1 : Int32))])) _
          exact k
        · simp only [if_neg hc141_37] at k
          refine XS.ifYes Y35.here hx rfl (pc0 := 141) (pc' := 148) rfl (hb hby at_141) rfl ((if0 _ _).trans (feq hc141_37).2) (by decide) (by decide) ?_
          show Steps p.tables e below (T35.setTop (mkF m 148 #[.val (.int p0), .val (.int p1), .val (.int p2), .val (.int p3), .val (.int p4), .val (.int p5), .val (.int v4), .val (.int v8), .val (.int v17), .val (.int v18), .val (.int v19), .val (.int v16), .val (.ref b20), .val (.ref b24), .val (.ref b28), .unset] [])) _
          refine XS.iconst Y35.here hx rfl (hb hby at_148) ?_
          show Steps p.tables e below (T35.setTop (mkF m 149 #[.val (.int p0), .val (.int p1), .val (.int p2), .val (.int p3), .val (.int p4), .val (.int p5), .val (.int v4), .val (.int v8), .val (.int v17), .val (.int v18), .val (.int v19), .val (.int v16), .val (.ref b20), .val (.ref b24), .val (.ref b28), .unset] [(.int (0 : Int32))])) _
          exact k
      refine j38 _ ?_
      show Steps p.tables e below (T35.setTop (mkF m 149 #[.val (.int p0), .val (.int p1), .val (.int p2), .val (.int p3), .val (.int p4), .val (.int p5), .val (.int v4), .val (.int v8), .val (.int v17), .val (.int v18), .val (.int v19), .val (.int v16), .val (.ref b20), .val (.ref b24), .val (.ref b28), .unset] [(.int (if F4n = (0 : Int32) then (1 : Int32) else (0 : Int32)))])) _
      exact retN Y35 hx (t := .boolean) Bd.returns (by simp) (hb hby at_149) hr
    · show Q0 Z p0 p1 p2 p3 p4 p5 h0 n0 _ T35.heap _
      refine ⟨congrArg (fun z => some (Value.int z)) (Eq.trans (?_ : (nar .boolean (if F4n = (0 : Int32) then (1 : Int32) else (0 : Int32))) = F0 p0 p1 p2 p3 p4 p5) (own_law p0 p1 p2 p3 p4 p5)), N35⟩
      subst hv19 hv18 hv17 hv16 hv8 hv4
      refine Eq.symm ?_; unfold F0; refine Eq.trans (if_pos hs132_33) ?_; rfl
  · have pre39 : Lead p e below G (T31.setTop (mkF m 153 #[.val (.int p0), .val (.int p1), .val (.int p2), .val (.int p3), .val (.int p4), .val (.int p5), .val (.int v4), .val (.int v8), .val (.int v17), .val (.int v18), .val (.int v19), .val (.int v16), .val (.ref b20), .val (.ref b24), .val (.ref b28), .unset] [(.int (2 : Int32)), (.int v16)])) := fun t k => by
      refine pre32 t ?_
      show Steps p.tables e below (T31.setTop (mkF m 132 #[.val (.int p0), .val (.int p1), .val (.int p2), .val (.int p3), .val (.int p4), .val (.int p5), .val (.int v4), .val (.int v8), .val (.int v17), .val (.int v18), .val (.int v19), .val (.int v16), .val (.ref b20), .val (.ref b24), .val (.ref b28), .unset] [(.int (1 : Int32)), (.int v16)])) _
      refine XS.icmpYes Y31.here hx rfl (pc0 := 132) (pc' := 150) rfl (hb hby at_132) rfl (feq hs132_33).2 (by decide) (by decide) ?_
      show Steps p.tables e below (T31.setTop (mkF m 150 #[.val (.int p0), .val (.int p1), .val (.int p2), .val (.int p3), .val (.int p4), .val (.int p5), .val (.int v4), .val (.int v8), .val (.int v17), .val (.int v18), .val (.int v19), .val (.int v16), .val (.ref b20), .val (.ref b24), .val (.ref b28), .unset] [])) _
      refine XS.iload Y31.here hx rfl (hb hby at_150) rfl ?_
      show Steps p.tables e below (T31.setTop (mkF m 152 #[.val (.int p0), .val (.int p1), .val (.int p2), .val (.int p3), .val (.int p4), .val (.int p5), .val (.int v4), .val (.int v8), .val (.int v17), .val (.int v18), .val (.int v19), .val (.int v16), .val (.ref b20), .val (.ref b24), .val (.ref b28), .unset] [(.int v16)])) _
      refine XS.iconst Y31.here hx rfl (hb hby at_152) ?_
      show Steps p.tables e below (T31.setTop (mkF m 153 #[.val (.int p0), .val (.int p1), .val (.int p2), .val (.int p3), .val (.int p4), .val (.int p5), .val (.int v4), .val (.int v8), .val (.int v17), .val (.int v18), .val (.int v19), .val (.int v16), .val (.ref b20), .val (.ref b24), .val (.ref b28), .unset] [(.int (2 : Int32)), (.int v16)])) _
      exact k
    by_cases hs153_40 : v16 = (2 : Int32)
    · have pre41 : Lead p e below G (T31.setTop (mkF m 160 #[.val (.int p0), .val (.int p1), .val (.int p2), .val (.int p3), .val (.int p4), .val (.int p5), .val (.int v4), .val (.int v8), .val (.int v17), .val (.int v18), .val (.int v19), .val (.int v16), .val (.ref b20), .val (.ref b24), .val (.ref b28), .unset] [(.ref b28), (.ref b20)])) := fun t k => by
        refine pre39 t ?_
        show Steps p.tables e below (T31.setTop (mkF m 153 #[.val (.int p0), .val (.int p1), .val (.int p2), .val (.int p3), .val (.int p4), .val (.int p5), .val (.int v4), .val (.int v8), .val (.int v17), .val (.int v18), .val (.int v19), .val (.int v16), .val (.ref b20), .val (.ref b24), .val (.ref b28), .unset] [(.int (2 : Int32)), (.int v16)])) _
        refine XS.icmpNo Y31.here hx rfl (hb hby at_153) rfl (teq hs153_40).2 ?_
        show Steps p.tables e below (T31.setTop (mkF m 156 #[.val (.int p0), .val (.int p1), .val (.int p2), .val (.int p3), .val (.int p4), .val (.int p5), .val (.int v4), .val (.int v8), .val (.int v17), .val (.int v18), .val (.int v19), .val (.int v16), .val (.ref b20), .val (.ref b24), .val (.ref b28), .unset] [])) _
        refine XS.aload Y31.here hx rfl (hb hby at_156) rfl rfl ?_
        show Steps p.tables e below (T31.setTop (mkF m 158 #[.val (.int p0), .val (.int p1), .val (.int p2), .val (.int p3), .val (.int p4), .val (.int p5), .val (.int v4), .val (.int v8), .val (.int v17), .val (.int v18), .val (.int v19), .val (.int v16), .val (.ref b20), .val (.ref b24), .val (.ref b28), .unset] [(.ref b20)])) _
        refine XS.aload Y31.here hx rfl (hb hby at_158) rfl rfl ?_
        show Steps p.tables e below (T31.setTop (mkF m 160 #[.val (.int p0), .val (.int p1), .val (.int p2), .val (.int p3), .val (.int p4), .val (.int p5), .val (.int v4), .val (.int v8), .val (.int v17), .val (.int v18), .val (.int v19), .val (.int v16), .val (.ref b20), .val (.ref b24), .val (.ref b28), .unset] [(.ref b28), (.ref b20)])) _
        exact k
      have f43 : Exa Z T31.heap b20 "com/example/nonesuch/nonesuch/engine/GroundProgram$GroundAtom" := ((f29.ext E28).keep K31c)
      obtain ⟨cq42, kq42, q42a, q42b, q42c⟩ := isOf hZ rfl f43
      obtain ⟨_, _, ⟨T42, L42, k42, n42⟩, -, X42, ⟨Lc42, hQ42, l42, y42, z42⟩, st42⟩ := Y31.virtualBack hx (y := (⟨"com/example/nonesuch/nonesuch/engine/GroundProgram$GroundAtom", "equals", "(Ljava/lang/Object;)Z"⟩ : MethodName)) (z := (⟨"com/example/nonesuch/nonesuch/engine/GroundProgram$GroundAtom", "equals", "(Ljava/lang/Object;)Z"⟩ : MethodName)) hown (mvT hZ (hw _ (List.mem_of_getElem? (i := 37) rfl))) (mvT hZ (hw _ (List.mem_of_getElem? (i := 38) rfl))) (notFace_of_selects (args := #[]) (mvT hZ (hw _ (List.mem_of_getElem? (i := 40) rfl)))) (mvT hZ (hw _ (List.mem_of_getElem? (i := 40) rfl))) (mvT hZ (hw _ (List.mem_of_getElem? (i := 39) rfl))) (by decide) (backOf (W := 0) (rm4a l Z a0 hw [] b20 b28  T31.heap n0 (Nat.le_trans Z0 K31.1) f43 c31_0) hZ (hw _ (List.mem_of_getElem? (i := 41) rfl)) (hw _ (List.mem_of_getElem? (i := 2) rfl)) (by decide) (by decide)) q42a q42c (g := (mkF m 160 #[.val (.int p0), .val (.int p1), .val (.int p2), .val (.int p3), .val (.int p4), .val (.int p5), .val (.int v4), .val (.int v8), .val (.int v17), .val (.int v18), .val (.int v19), .val (.int v16), .val (.ref b20), .val (.ref b24), .val (.ref b28), .unset] [(.ref b28), (.ref b20)])) rfl (by rw [hml]; rfl) (Steps.refl _) (argsL := [(.ref b28)]) (rest := []) (lenOf pd__28_Ljava_2f_lang_2f_Object_3b__29_Z rfl) rfl (by show 2 * 0 + _ ≤ _; exact Nat.le_of_eq rfl) (hb hby at_160) (fun _ _ => ⟨rfl, rfl, (by decide : 3 + 0 ≤ _), (by decide : 12 + 0 ≤ _)⟩)
      dsimp only [Pt.U, Pt.locs, Pt.cells, Pt.slots] at X42 l42 y42 z42 st42 hQ42
      subst l42 y42 z42
      obtain ⟨rfl, N42q, e42⟩ := hQ42
      have N42 := Fr.app N31 N42q
      obtain ⟨M42, Y42, N42⟩ : ∃ M, Stand p l e room_1 s m #[(.int p0), (.int p1), (.int p2), (.int p3), (.int p4), (.int p5)] below meth c T42 M 3 12 ∧ Fr n0 M := ⟨_, X42, N42⟩
      have pre42 : Lead p e below G (T42.setTop (mkF m 163 #[.val (.int p0), .val (.int p1), .val (.int p2), .val (.int p3), .val (.int p4), .val (.int p5), .val (.int v4), .val (.int v8), .val (.int v17), .val (.int v18), .val (.int v19), .val (.int v16), .val (.ref b20), .val (.ref b24), .val (.ref b28), .unset] [(.int F4a)])) := fun t k => pre41 t (st42.trans k)
      obtain ⟨fs, hr, hrun, hended, hW, hsame⟩ := Y42.leave (v := some (.int (nar .boolean (if F4a = (0 : Int32) then (1 : Int32) else (0 : Int32))))) (fun h => by rw [Bd.returns] at h; cases h)
      subst hG
      refine ⟨_, _, pre42 _ ?_, hrun, hended, _, _, rfl, ?_, ⟨_, rfl⟩, hW, hsame.mono (by decide) (by decide)⟩
      · show Steps p.tables e below (T42.setTop (mkF m 163 #[.val (.int p0), .val (.int p1), .val (.int p2), .val (.int p3), .val (.int p4), .val (.int p5), .val (.int v4), .val (.int v8), .val (.int v17), .val (.int v18), .val (.int v19), .val (.int v16), .val (.ref b20), .val (.ref b24), .val (.ref b28), .unset] [(.int F4a)])) _
        have j45 : ∀ t, Steps p.tables e below (T42.setTop (mkF m 171 #[.val (.int p0), .val (.int p1), .val (.int p2), .val (.int p3), .val (.int p4), .val (.int p5), .val (.int v4), .val (.int v8), .val (.int v17), .val (.int v18), .val (.int v19), .val (.int v16), .val (.ref b20), .val (.ref b24), .val (.ref b28), .unset] [(.int (if F4a = (0 : Int32) then (1 : Int32) else (0 : Int32)))])) t → Steps p.tables e below (T42.setTop (mkF m 163 #[.val (.int p0), .val (.int p1), .val (.int p2), .val (.int p3), .val (.int p4), .val (.int p5), .val (.int v4), .val (.int v8), .val (.int v17), .val (.int v18), .val (.int v19), .val (.int v16), .val (.ref b20), .val (.ref b24), .val (.ref b28), .unset] [(.int F4a)])) t := fun t k => by
          by_cases hc163_44 : F4a = (0 : Int32)
          · simp only [if_pos hc163_44] at k
            refine XS.ifNo Y42.here hx rfl (hb hby at_163) rfl ((if0 _ _).trans (teq hc163_44).2) ?_
            show Steps p.tables e below (T42.setTop (mkF m 166 #[.val (.int p0), .val (.int p1), .val (.int p2), .val (.int p3), .val (.int p4), .val (.int p5), .val (.int v4), .val (.int v8), .val (.int v17), .val (.int v18), .val (.int v19), .val (.int v16), .val (.ref b20), .val (.ref b24), .val (.ref b28), .unset] [])) _
            refine XS.iconst Y42.here hx rfl (hb hby at_166) ?_
            show Steps p.tables e below (T42.setTop (mkF m 167 #[.val (.int p0), .val (.int p1), .val (.int p2), .val (.int p3), .val (.int p4), .val (.int p5), .val (.int v4), .val (.int v8), .val (.int v17), .val (.int v18), .val (.int v19), .val (.int v16), .val (.ref b20), .val (.ref b24), .val (.ref b28), .unset] [(.int (1 : Int32))])) _
            refine XS.goto Y42.here hx rfl (pc0 := 167) (pc' := 171) rfl (hb hby at_167) (by decide) (by decide) ?_
            show Steps p.tables e below (T42.setTop (mkF m 171 #[.val (.int p0), .val (.int p1), .val (.int p2), .val (.int p3), .val (.int p4), .val (.int p5), .val (.int v4), .val (.int v8), .val (.int v17), .val (.int v18), .val (.int v19), .val (.int v16), .val (.ref b20), .val (.ref b24), .val (.ref b28), .unset] [(.int (1 : Int32))])) _
            exact k
          · simp only [if_neg hc163_44] at k
            refine XS.ifYes Y42.here hx rfl (pc0 := 163) (pc' := 170) rfl (hb hby at_163) rfl ((if0 _ _).trans (feq hc163_44).2) (by decide) (by decide) ?_
            show Steps p.tables e below (T42.setTop (mkF m 170 #[.val (.int p0), .val (.int p1), .val (.int p2), .val (.int p3), .val (.int p4), .val (.int p5), .val (.int v4), .val (.int v8), .val (.int v17), .val (.int v18), .val (.int v19), .val (.int v16), .val (.ref b20), .val (.ref b24), .val (.ref b28), .unset] [])) _
            refine XS.iconst Y42.here hx rfl (hb hby at_170) ?_
            show Steps p.tables e below (T42.setTop (mkF m 171 #[.val (.int p0), .val (.int p1), .val (.int p2), .val (.int p3), .val (.int p4), .val (.int p5), .val (.int v4), .val (.int v8), .val (.int v17), .val (.int v18), .val (.int v19), .val (.int v16), .val (.ref b20), .val (.ref b24), .val (.ref b28), .unset] [(.int (0 : Int32))])) _
            exact k
        refine j45 _ ?_
        show Steps p.tables e below (T42.setTop (mkF m 171 #[.val (.int p0), .val (.int p1), .val (.int p2), .val (.int p3), .val (.int p4), .val (.int p5), .val (.int v4), .val (.int v8), .val (.int v17), .val (.int v18), .val (.int v19), .val (.int v16), .val (.ref b20), .val (.ref b24), .val (.ref b28), .unset] [(.int (if F4a = (0 : Int32) then (1 : Int32) else (0 : Int32)))])) _
        exact retN Y42 hx (t := .boolean) Bd.returns (by simp) (hb hby at_171) hr
      · show Q0 Z p0 p1 p2 p3 p4 p5 h0 n0 _ T42.heap _
        refine ⟨congrArg (fun z => some (Value.int z)) (Eq.trans (?_ : (nar .boolean (if F4a = (0 : Int32) then (1 : Int32) else (0 : Int32))) = F0 p0 p1 p2 p3 p4 p5) (own_law p0 p1 p2 p3 p4 p5)), N42⟩
        subst hv19 hv18 hv17 hv16 hv8 hv4
        refine Eq.symm ?_; unfold F0; refine Eq.trans (if_neg hs132_33) ?_; refine Eq.trans (if_pos hs153_40) ?_; rfl
    · have pre46 : Lead p e below G (T31.setTop (mkF m 175 #[.val (.int p0), .val (.int p1), .val (.int p2), .val (.int p3), .val (.int p4), .val (.int p5), .val (.int v4), .val (.int v8), .val (.int v17), .val (.int v18), .val (.int v19), .val (.int v16), .val (.ref b20), .val (.ref b24), .val (.ref b28), .unset] [(.int (3 : Int32)), (.int v16)])) := fun t k => by
        refine pre39 t ?_
        show Steps p.tables e below (T31.setTop (mkF m 153 #[.val (.int p0), .val (.int p1), .val (.int p2), .val (.int p3), .val (.int p4), .val (.int p5), .val (.int v4), .val (.int v8), .val (.int v17), .val (.int v18), .val (.int v19), .val (.int v16), .val (.ref b20), .val (.ref b24), .val (.ref b28), .unset] [(.int (2 : Int32)), (.int v16)])) _
        refine XS.icmpYes Y31.here hx rfl (pc0 := 153) (pc' := 172) rfl (hb hby at_153) rfl (feq hs153_40).2 (by decide) (by decide) ?_
        show Steps p.tables e below (T31.setTop (mkF m 172 #[.val (.int p0), .val (.int p1), .val (.int p2), .val (.int p3), .val (.int p4), .val (.int p5), .val (.int v4), .val (.int v8), .val (.int v17), .val (.int v18), .val (.int v19), .val (.int v16), .val (.ref b20), .val (.ref b24), .val (.ref b28), .unset] [])) _
        refine XS.iload Y31.here hx rfl (hb hby at_172) rfl ?_
        show Steps p.tables e below (T31.setTop (mkF m 174 #[.val (.int p0), .val (.int p1), .val (.int p2), .val (.int p3), .val (.int p4), .val (.int p5), .val (.int v4), .val (.int v8), .val (.int v17), .val (.int v18), .val (.int v19), .val (.int v16), .val (.ref b20), .val (.ref b24), .val (.ref b28), .unset] [(.int v16)])) _
        refine XS.iconst Y31.here hx rfl (hb hby at_174) ?_
        show Steps p.tables e below (T31.setTop (mkF m 175 #[.val (.int p0), .val (.int p1), .val (.int p2), .val (.int p3), .val (.int p4), .val (.int p5), .val (.int v4), .val (.int v8), .val (.int v17), .val (.int v18), .val (.int v19), .val (.int v16), .val (.ref b20), .val (.ref b24), .val (.ref b28), .unset] [(.int (3 : Int32)), (.int v16)])) _
        exact k
      by_cases hs175_47 : v16 = (3 : Int32)
      · have pre48 : Lead p e below G (T31.setTop (mkF m 182 #[.val (.int p0), .val (.int p1), .val (.int p2), .val (.int p3), .val (.int p4), .val (.int p5), .val (.int v4), .val (.int v8), .val (.int v17), .val (.int v18), .val (.int v19), .val (.int v16), .val (.ref b20), .val (.ref b24), .val (.ref b28), .unset] [(.ref b20), (.ref b20)])) := fun t k => by
          refine pre46 t ?_
          show Steps p.tables e below (T31.setTop (mkF m 175 #[.val (.int p0), .val (.int p1), .val (.int p2), .val (.int p3), .val (.int p4), .val (.int p5), .val (.int v4), .val (.int v8), .val (.int v17), .val (.int v18), .val (.int v19), .val (.int v16), .val (.ref b20), .val (.ref b24), .val (.ref b28), .unset] [(.int (3 : Int32)), (.int v16)])) _
          refine XS.icmpNo Y31.here hx rfl (hb hby at_175) rfl (teq hs175_47).2 ?_
          show Steps p.tables e below (T31.setTop (mkF m 178 #[.val (.int p0), .val (.int p1), .val (.int p2), .val (.int p3), .val (.int p4), .val (.int p5), .val (.int v4), .val (.int v8), .val (.int v17), .val (.int v18), .val (.int v19), .val (.int v16), .val (.ref b20), .val (.ref b24), .val (.ref b28), .unset] [])) _
          refine XS.aload Y31.here hx rfl (hb hby at_178) rfl rfl ?_
          show Steps p.tables e below (T31.setTop (mkF m 180 #[.val (.int p0), .val (.int p1), .val (.int p2), .val (.int p3), .val (.int p4), .val (.int p5), .val (.int v4), .val (.int v8), .val (.int v17), .val (.int v18), .val (.int v19), .val (.int v16), .val (.ref b20), .val (.ref b24), .val (.ref b28), .unset] [(.ref b20)])) _
          refine XS.aload Y31.here hx rfl (hb hby at_180) rfl rfl ?_
          show Steps p.tables e below (T31.setTop (mkF m 182 #[.val (.int p0), .val (.int p1), .val (.int p2), .val (.int p3), .val (.int p4), .val (.int p5), .val (.int v4), .val (.int v8), .val (.int v17), .val (.int v18), .val (.int v19), .val (.int v16), .val (.ref b20), .val (.ref b24), .val (.ref b28), .unset] [(.ref b20), (.ref b20)])) _
          exact k
        have f50 : Exa Z T31.heap b20 "com/example/nonesuch/nonesuch/engine/GroundProgram$GroundAtom" := ((f29.ext E28).keep K31c)
        have f51 : Fld Z T31.heap b20 "com/example/nonesuch/nonesuch/engine/GroundProgram$GroundAtom" "predicate" "I" (.int p0) := ((((c22_1.ext E24).keep K26c (ninS ne24_b20 nin0)).ext E28).keep K31c (ninS ne28_b20 nin0))
        have f52 : Fld Z T31.heap b20 "com/example/nonesuch/nonesuch/engine/GroundProgram$GroundAtom" "subject" "I" (.int p1) := ((((c22_2.ext E24).keep K26c (ninS ne24_b20 nin0)).ext E28).keep K31c (ninS ne28_b20 nin0))
        have f53 : Fld Z T31.heap b20 "com/example/nonesuch/nonesuch/engine/GroundProgram$GroundAtom" "object" "I" (.int p2) := ((((c22_3.ext E24).keep K26c (ninS ne24_b20 nin0)).ext E28).keep K31c (ninS ne28_b20 nin0))
        have f54 : Fld Z T31.heap b20 "com/example/nonesuch/nonesuch/engine/GroundProgram$GroundAtom" "negative" "Z" (.int (nar .boolean v4)) := ((((c22_4.ext E24).keep K26c (ninS ne24_b20 nin0)).ext E28).keep K31c (ninS ne28_b20 nin0))
        obtain ⟨cq49, kq49, q49a, q49b, q49c⟩ := isOf hZ rfl f50
        obtain ⟨_, _, ⟨T49, L49, k49, n49⟩, -, X49, ⟨Lc49, hQ49, l49, y49, z49⟩, st49⟩ := Y31.virtualBack hx (y := (⟨"com/example/nonesuch/nonesuch/engine/GroundProgram$GroundAtom", "equals", "(Ljava/lang/Object;)Z"⟩ : MethodName)) (z := (⟨"com/example/nonesuch/nonesuch/engine/GroundProgram$GroundAtom", "equals", "(Ljava/lang/Object;)Z"⟩ : MethodName)) hown (mvT hZ (hw _ (List.mem_of_getElem? (i := 37) rfl))) (mvT hZ (hw _ (List.mem_of_getElem? (i := 38) rfl))) (notFace_of_selects (args := #[]) (mvT hZ (hw _ (List.mem_of_getElem? (i := 40) rfl)))) (mvT hZ (hw _ (List.mem_of_getElem? (i := 40) rfl))) (mvT hZ (hw _ (List.mem_of_getElem? (i := 39) rfl))) (by decide) (backOf (W := 0) (rm4g l Z a0 hw [] b20 b20 p0 p1 p2 (nar .boolean v4) p0 p1 p2 (nar .boolean v4) T31.heap n0 (Nat.le_trans Z0 K31.1) f50 f50 f51 f52 f53 f54 f51 f52 f53 f54) hZ (hw _ (List.mem_of_getElem? (i := 41) rfl)) (hw _ (List.mem_of_getElem? (i := 2) rfl)) (by decide) (by decide)) q49a q49c (g := (mkF m 182 #[.val (.int p0), .val (.int p1), .val (.int p2), .val (.int p3), .val (.int p4), .val (.int p5), .val (.int v4), .val (.int v8), .val (.int v17), .val (.int v18), .val (.int v19), .val (.int v16), .val (.ref b20), .val (.ref b24), .val (.ref b28), .unset] [(.ref b20), (.ref b20)])) rfl (by rw [hml]; rfl) (Steps.refl _) (argsL := [(.ref b20)]) (rest := []) (lenOf pd__28_Ljava_2f_lang_2f_Object_3b__29_Z rfl) rfl (by show 2 * 0 + _ ≤ _; exact Nat.le_of_eq rfl) (hb hby at_182) (fun _ _ => ⟨rfl, rfl, (by decide : 3 + 0 ≤ _), (by decide : 12 + 0 ≤ _)⟩)
        dsimp only [Pt.U, Pt.locs, Pt.cells, Pt.slots] at X49 l49 y49 z49 st49 hQ49
        subst l49 y49 z49
        obtain ⟨rfl, N49q, e49⟩ := hQ49
        have N49 := Fr.app N31 N49q
        obtain ⟨M49, Y49, N49⟩ : ∃ M, Stand p l e room_1 s m #[(.int p0), (.int p1), (.int p2), (.int p3), (.int p4), (.int p5)] below meth c T49 M 3 12 ∧ Fr n0 M := ⟨_, X49, N49⟩
        have pre49 : Lead p e below G (T49.setTop (mkF m 185 #[.val (.int p0), .val (.int p1), .val (.int p2), .val (.int p3), .val (.int p4), .val (.int p5), .val (.int v4), .val (.int v8), .val (.int v17), .val (.int v18), .val (.int v19), .val (.int v16), .val (.ref b20), .val (.ref b24), .val (.ref b28), .unset] [(.int (F4g p0 p1 p2 (nar .boolean v4) p0 p1 p2 (nar .boolean v4)))])) := fun t k => pre48 t (st49.trans k)
        obtain ⟨fs, hr, hrun, hended, hW, hsame⟩ := Y49.leave (v := some (.int (nar .boolean (F4g p0 p1 p2 (nar .boolean v4) p0 p1 p2 (nar .boolean v4))))) (fun h => by rw [Bd.returns] at h; cases h)
        subst hG
        refine ⟨_, _, pre49 _ ?_, hrun, hended, _, _, rfl, ?_, ⟨_, rfl⟩, hW, hsame.mono (by decide) (by decide)⟩
        · show Steps p.tables e below (T49.setTop (mkF m 185 #[.val (.int p0), .val (.int p1), .val (.int p2), .val (.int p3), .val (.int p4), .val (.int p5), .val (.int v4), .val (.int v8), .val (.int v17), .val (.int v18), .val (.int v19), .val (.int v16), .val (.ref b20), .val (.ref b24), .val (.ref b28), .unset] [(.int (F4g p0 p1 p2 (nar .boolean v4) p0 p1 p2 (nar .boolean v4)))])) _
          exact retN Y49 hx (t := .boolean) Bd.returns (by simp) (hb hby at_185) hr
        · show Q0 Z p0 p1 p2 p3 p4 p5 h0 n0 _ T49.heap _
          refine ⟨congrArg (fun z => some (Value.int z)) (Eq.trans (?_ : (nar .boolean (F4g p0 p1 p2 (nar .boolean v4) p0 p1 p2 (nar .boolean v4))) = F0 p0 p1 p2 p3 p4 p5) (own_law p0 p1 p2 p3 p4 p5)), N49⟩
          subst hv19 hv18 hv17 hv16 hv8 hv4
          refine Eq.symm ?_; unfold F0; refine Eq.trans (if_neg hs132_33) ?_; refine Eq.trans (if_neg hs153_40) ?_; refine Eq.trans (if_pos hs175_47) ?_; rfl
      · have pre63 : Lead p e below G (T31.setTop (mkF m 216 #[.val (.int p0), .val (.int p1), .val (.int p2), .val (.int p3), .val (.int p4), .val (.int p5), .val (.int v4), .val (.int v8), .val (.int v17), .val (.int v18), .val (.int v19), .val (.int v16), .val (.ref b20), .val (.ref b24), .val (.ref b28), .unset] [(.int (if p0 = v17 then (if p1 = v18 then (if p2 = v19 then (if v4 = v8 then (1 : Int32) else (0 : Int32)) else (0 : Int32)) else (0 : Int32)) else (0 : Int32)))])) := fun t k => by
          refine pre46 t ?_
          show Steps p.tables e below (T31.setTop (mkF m 175 #[.val (.int p0), .val (.int p1), .val (.int p2), .val (.int p3), .val (.int p4), .val (.int p5), .val (.int v4), .val (.int v8), .val (.int v17), .val (.int v18), .val (.int v19), .val (.int v16), .val (.ref b20), .val (.ref b24), .val (.ref b28), .unset] [(.int (3 : Int32)), (.int v16)])) _
          refine XS.icmpYes Y31.here hx rfl (pc0 := 175) (pc' := 186) rfl (hb hby at_175) rfl (feq hs175_47).2 (by decide) (by decide) ?_
          show Steps p.tables e below (T31.setTop (mkF m 186 #[.val (.int p0), .val (.int p1), .val (.int p2), .val (.int p3), .val (.int p4), .val (.int p5), .val (.int v4), .val (.int v8), .val (.int v17), .val (.int v18), .val (.int v19), .val (.int v16), .val (.ref b20), .val (.ref b24), .val (.ref b28), .unset] [])) _
          refine XS.iloadN Y31.here hx rfl (hb hby at_186) rfl ?_
          show Steps p.tables e below (T31.setTop (mkF m 187 #[.val (.int p0), .val (.int p1), .val (.int p2), .val (.int p3), .val (.int p4), .val (.int p5), .val (.int v4), .val (.int v8), .val (.int v17), .val (.int v18), .val (.int v19), .val (.int v16), .val (.ref b20), .val (.ref b24), .val (.ref b28), .unset] [(.int p0)])) _
          refine XS.iload Y31.here hx rfl (hb hby at_187) rfl ?_
          show Steps p.tables e below (T31.setTop (mkF m 189 #[.val (.int p0), .val (.int p1), .val (.int p2), .val (.int p3), .val (.int p4), .val (.int p5), .val (.int v4), .val (.int v8), .val (.int v17), .val (.int v18), .val (.int v19), .val (.int v16), .val (.ref b20), .val (.ref b24), .val (.ref b28), .unset] [(.int v17), (.int p0)])) _
          have j62 : ∀ t, Steps p.tables e below (T31.setTop (mkF m 216 #[.val (.int p0), .val (.int p1), .val (.int p2), .val (.int p3), .val (.int p4), .val (.int p5), .val (.int v4), .val (.int v8), .val (.int v17), .val (.int v18), .val (.int v19), .val (.int v16), .val (.ref b20), .val (.ref b24), .val (.ref b28), .unset] [(.int (if p0 = v17 then (if p1 = v18 then (if p2 = v19 then (if v4 = v8 then (1 : Int32) else (0 : Int32)) else (0 : Int32)) else (0 : Int32)) else (0 : Int32)))])) t → Steps p.tables e below (T31.setTop (mkF m 189 #[.val (.int p0), .val (.int p1), .val (.int p2), .val (.int p3), .val (.int p4), .val (.int p5), .val (.int v4), .val (.int v8), .val (.int v17), .val (.int v18), .val (.int v19), .val (.int v16), .val (.ref b20), .val (.ref b24), .val (.ref b28), .unset] [(.int v17), (.int p0)])) t := fun t k => by
            by_cases hc189_55 : p0 = v17
            · simp only [if_pos hc189_55] at k
              refine XS.icmpNo Y31.here hx rfl (hb hby at_189) rfl (teq hc189_55).2 ?_
              show Steps p.tables e below (T31.setTop (mkF m 192 #[.val (.int p0), .val (.int p1), .val (.int p2), .val (.int p3), .val (.int p4), .val (.int p5), .val (.int v4), .val (.int v8), .val (.int v17), .val (.int v18), .val (.int v19), .val (.int v16), .val (.ref b20), .val (.ref b24), .val (.ref b28), .unset] [])) _
              refine XS.iloadN Y31.here hx rfl (hb hby at_192) rfl ?_
              show Steps p.tables e below (T31.setTop (mkF m 193 #[.val (.int p0), .val (.int p1), .val (.int p2), .val (.int p3), .val (.int p4), .val (.int p5), .val (.int v4), .val (.int v8), .val (.int v17), .val (.int v18), .val (.int v19), .val (.int v16), .val (.ref b20), .val (.ref b24), .val (.ref b28), .unset] [(.int p1)])) _
              refine XS.iload Y31.here hx rfl (hb hby at_193) rfl ?_
              show Steps p.tables e below (T31.setTop (mkF m 195 #[.val (.int p0), .val (.int p1), .val (.int p2), .val (.int p3), .val (.int p4), .val (.int p5), .val (.int v4), .val (.int v8), .val (.int v17), .val (.int v18), .val (.int v19), .val (.int v16), .val (.ref b20), .val (.ref b24), .val (.ref b28), .unset] [(.int v18), (.int p1)])) _
              have j61 : ∀ t, Steps p.tables e below (T31.setTop (mkF m 216 #[.val (.int p0), .val (.int p1), .val (.int p2), .val (.int p3), .val (.int p4), .val (.int p5), .val (.int v4), .val (.int v8), .val (.int v17), .val (.int v18), .val (.int v19), .val (.int v16), .val (.ref b20), .val (.ref b24), .val (.ref b28), .unset] [(.int (if p1 = v18 then (if p2 = v19 then (if v4 = v8 then (1 : Int32) else (0 : Int32)) else (0 : Int32)) else (0 : Int32)))])) t → Steps p.tables e below (T31.setTop (mkF m 195 #[.val (.int p0), .val (.int p1), .val (.int p2), .val (.int p3), .val (.int p4), .val (.int p5), .val (.int v4), .val (.int v8), .val (.int v17), .val (.int v18), .val (.int v19), .val (.int v16), .val (.ref b20), .val (.ref b24), .val (.ref b28), .unset] [(.int v18), (.int p1)])) t := fun t k => by
                by_cases hc195_56 : p1 = v18
                · simp only [if_pos hc195_56] at k
                  refine XS.icmpNo Y31.here hx rfl (hb hby at_195) rfl (teq hc195_56).2 ?_
                  show Steps p.tables e below (T31.setTop (mkF m 198 #[.val (.int p0), .val (.int p1), .val (.int p2), .val (.int p3), .val (.int p4), .val (.int p5), .val (.int v4), .val (.int v8), .val (.int v17), .val (.int v18), .val (.int v19), .val (.int v16), .val (.ref b20), .val (.ref b24), .val (.ref b28), .unset] [])) _
                  refine XS.iloadN Y31.here hx rfl (hb hby at_198) rfl ?_
                  show Steps p.tables e below (T31.setTop (mkF m 199 #[.val (.int p0), .val (.int p1), .val (.int p2), .val (.int p3), .val (.int p4), .val (.int p5), .val (.int v4), .val (.int v8), .val (.int v17), .val (.int v18), .val (.int v19), .val (.int v16), .val (.ref b20), .val (.ref b24), .val (.ref b28), .unset] [(.int p2)])) _
                  refine XS.iload Y31.here hx rfl (hb hby at_199) rfl ?_
                  show Steps p.tables e below (T31.setTop (mkF m 201 #[.val (.int p0), .val (.int p1), .val (.int p2), .val (.int p3), .val (.int p4), .val (.int p5), .val (.int v4), .val (.int v8), .val (.int v17), .val (.int v18), .val (.int v19), .val (.int v16), .val (.ref b20), .val (.ref b24), .val (.ref b28), .unset] [(.int v19), (.int p2)])) _
                  have j60 : ∀ t, Steps p.tables e below (T31.setTop (mkF m 216 #[.val (.int p0), .val (.int p1), .val (.int p2), .val (.int p3), .val (.int p4), .val (.int p5), .val (.int v4), .val (.int v8), .val (.int v17), .val (.int v18), .val (.int v19), .val (.int v16), .val (.ref b20), .val (.ref b24), .val (.ref b28), .unset] [(.int (if p2 = v19 then (if v4 = v8 then (1 : Int32) else (0 : Int32)) else (0 : Int32)))])) t → Steps p.tables e below (T31.setTop (mkF m 201 #[.val (.int p0), .val (.int p1), .val (.int p2), .val (.int p3), .val (.int p4), .val (.int p5), .val (.int v4), .val (.int v8), .val (.int v17), .val (.int v18), .val (.int v19), .val (.int v16), .val (.ref b20), .val (.ref b24), .val (.ref b28), .unset] [(.int v19), (.int p2)])) t := fun t k => by
                    by_cases hc201_57 : p2 = v19
                    · simp only [if_pos hc201_57] at k
                      refine XS.icmpNo Y31.here hx rfl (hb hby at_201) rfl (teq hc201_57).2 ?_
                      show Steps p.tables e below (T31.setTop (mkF m 204 #[.val (.int p0), .val (.int p1), .val (.int p2), .val (.int p3), .val (.int p4), .val (.int p5), .val (.int v4), .val (.int v8), .val (.int v17), .val (.int v18), .val (.int v19), .val (.int v16), .val (.ref b20), .val (.ref b24), .val (.ref b28), .unset] [])) _
                      refine XS.iload Y31.here hx rfl (hb hby at_204) rfl ?_
                      show Steps p.tables e below (T31.setTop (mkF m 206 #[.val (.int p0), .val (.int p1), .val (.int p2), .val (.int p3), .val (.int p4), .val (.int p5), .val (.int v4), .val (.int v8), .val (.int v17), .val (.int v18), .val (.int v19), .val (.int v16), .val (.ref b20), .val (.ref b24), .val (.ref b28), .unset] [(.int v4)])) _
                      refine XS.iload Y31.here hx rfl (hb hby at_206) rfl ?_
                      show Steps p.tables e below (T31.setTop (mkF m 208 #[.val (.int p0), .val (.int p1), .val (.int p2), .val (.int p3), .val (.int p4), .val (.int p5), .val (.int v4), .val (.int v8), .val (.int v17), .val (.int v18), .val (.int v19), .val (.int v16), .val (.ref b20), .val (.ref b24), .val (.ref b28), .unset] [(.int v8), (.int v4)])) _
                      have j59 : ∀ t, Steps p.tables e below (T31.setTop (mkF m 216 #[.val (.int p0), .val (.int p1), .val (.int p2), .val (.int p3), .val (.int p4), .val (.int p5), .val (.int v4), .val (.int v8), .val (.int v17), .val (.int v18), .val (.int v19), .val (.int v16), .val (.ref b20), .val (.ref b24), .val (.ref b28), .unset] [(.int (if v4 = v8 then (1 : Int32) else (0 : Int32)))])) t → Steps p.tables e below (T31.setTop (mkF m 208 #[.val (.int p0), .val (.int p1), .val (.int p2), .val (.int p3), .val (.int p4), .val (.int p5), .val (.int v4), .val (.int v8), .val (.int v17), .val (.int v18), .val (.int v19), .val (.int v16), .val (.ref b20), .val (.ref b24), .val (.ref b28), .unset] [(.int v8), (.int v4)])) t := fun t k => by
                        by_cases hc208_58 : v4 = v8
                        · simp only [if_pos hc208_58] at k
                          refine XS.icmpNo Y31.here hx rfl (hb hby at_208) rfl (teq hc208_58).2 ?_
                          show Steps p.tables e below (T31.setTop (mkF m 211 #[.val (.int p0), .val (.int p1), .val (.int p2), .val (.int p3), .val (.int p4), .val (.int p5), .val (.int v4), .val (.int v8), .val (.int v17), .val (.int v18), .val (.int v19), .val (.int v16), .val (.ref b20), .val (.ref b24), .val (.ref b28), .unset] [])) _
                          refine XS.iconst Y31.here hx rfl (hb hby at_211) ?_
                          show Steps p.tables e below (T31.setTop (mkF m 212 #[.val (.int p0), .val (.int p1), .val (.int p2), .val (.int p3), .val (.int p4), .val (.int p5), .val (.int v4), .val (.int v8), .val (.int v17), .val (.int v18), .val (.int v19), .val (.int v16), .val (.ref b20), .val (.ref b24), .val (.ref b28), .unset] [(.int (1 : Int32))])) _
                          refine XS.goto Y31.here hx rfl (pc0 := 212) (pc' := 216) rfl (hb hby at_212) (by decide) (by decide) ?_
                          show Steps p.tables e below (T31.setTop (mkF m 216 #[.val (.int p0), .val (.int p1), .val (.int p2), .val (.int p3), .val (.int p4), .val (.int p5), .val (.int v4), .val (.int v8), .val (.int v17), .val (.int v18), .val (.int v19), .val (.int v16), .val (.ref b20), .val (.ref b24), .val (.ref b28), .unset] [(.int (1 : Int32))])) _
                          exact k
                        · simp only [if_neg hc208_58] at k
                          refine XS.icmpYes Y31.here hx rfl (pc0 := 208) (pc' := 215) rfl (hb hby at_208) rfl (feq hc208_58).2 (by decide) (by decide) ?_
                          show Steps p.tables e below (T31.setTop (mkF m 215 #[.val (.int p0), .val (.int p1), .val (.int p2), .val (.int p3), .val (.int p4), .val (.int p5), .val (.int v4), .val (.int v8), .val (.int v17), .val (.int v18), .val (.int v19), .val (.int v16), .val (.ref b20), .val (.ref b24), .val (.ref b28), .unset] [])) _
                          refine XS.iconst Y31.here hx rfl (hb hby at_215) ?_
                          show Steps p.tables e below (T31.setTop (mkF m 216 #[.val (.int p0), .val (.int p1), .val (.int p2), .val (.int p3), .val (.int p4), .val (.int p5), .val (.int v4), .val (.int v8), .val (.int v17), .val (.int v18), .val (.int v19), .val (.int v16), .val (.ref b20), .val (.ref b24), .val (.ref b28), .unset] [(.int (0 : Int32))])) _
                          exact k
                      refine j59 _ ?_
                      show Steps p.tables e below (T31.setTop (mkF m 216 #[.val (.int p0), .val (.int p1), .val (.int p2), .val (.int p3), .val (.int p4), .val (.int p5), .val (.int v4), .val (.int v8), .val (.int v17), .val (.int v18), .val (.int v19), .val (.int v16), .val (.ref b20), .val (.ref b24), .val (.ref b28), .unset] [(.int (if v4 = v8 then (1 : Int32) else (0 : Int32)))])) _
                      exact k
                    · simp only [if_neg hc201_57] at k
                      refine XS.icmpYes Y31.here hx rfl (pc0 := 201) (pc' := 215) rfl (hb hby at_201) rfl (feq hc201_57).2 (by decide) (by decide) ?_
                      show Steps p.tables e below (T31.setTop (mkF m 215 #[.val (.int p0), .val (.int p1), .val (.int p2), .val (.int p3), .val (.int p4), .val (.int p5), .val (.int v4), .val (.int v8), .val (.int v17), .val (.int v18), .val (.int v19), .val (.int v16), .val (.ref b20), .val (.ref b24), .val (.ref b28), .unset] [])) _
                      refine XS.iconst Y31.here hx rfl (hb hby at_215) ?_
                      show Steps p.tables e below (T31.setTop (mkF m 216 #[.val (.int p0), .val (.int p1), .val (.int p2), .val (.int p3), .val (.int p4), .val (.int p5), .val (.int v4), .val (.int v8), .val (.int v17), .val (.int v18), .val (.int v19), .val (.int v16), .val (.ref b20), .val (.ref b24), .val (.ref b28), .unset] [(.int (0 : Int32))])) _
                      exact k
                  refine j60 _ ?_
                  show Steps p.tables e below (T31.setTop (mkF m 216 #[.val (.int p0), .val (.int p1), .val (.int p2), .val (.int p3), .val (.int p4), .val (.int p5), .val (.int v4), .val (.int v8), .val (.int v17), .val (.int v18), .val (.int v19), .val (.int v16), .val (.ref b20), .val (.ref b24), .val (.ref b28), .unset] [(.int (if p2 = v19 then (if v4 = v8 then (1 : Int32) else (0 : Int32)) else (0 : Int32)))])) _
                  exact k
                · simp only [if_neg hc195_56] at k
                  refine XS.icmpYes Y31.here hx rfl (pc0 := 195) (pc' := 215) rfl (hb hby at_195) rfl (feq hc195_56).2 (by decide) (by decide) ?_
                  show Steps p.tables e below (T31.setTop (mkF m 215 #[.val (.int p0), .val (.int p1), .val (.int p2), .val (.int p3), .val (.int p4), .val (.int p5), .val (.int v4), .val (.int v8), .val (.int v17), .val (.int v18), .val (.int v19), .val (.int v16), .val (.ref b20), .val (.ref b24), .val (.ref b28), .unset] [])) _
                  refine XS.iconst Y31.here hx rfl (hb hby at_215) ?_
                  show Steps p.tables e below (T31.setTop (mkF m 216 #[.val (.int p0), .val (.int p1), .val (.int p2), .val (.int p3), .val (.int p4), .val (.int p5), .val (.int v4), .val (.int v8), .val (.int v17), .val (.int v18), .val (.int v19), .val (.int v16), .val (.ref b20), .val (.ref b24), .val (.ref b28), .unset] [(.int (0 : Int32))])) _
                  exact k
              refine j61 _ ?_
              show Steps p.tables e below (T31.setTop (mkF m 216 #[.val (.int p0), .val (.int p1), .val (.int p2), .val (.int p3), .val (.int p4), .val (.int p5), .val (.int v4), .val (.int v8), .val (.int v17), .val (.int v18), .val (.int v19), .val (.int v16), .val (.ref b20), .val (.ref b24), .val (.ref b28), .unset] [(.int (if p1 = v18 then (if p2 = v19 then (if v4 = v8 then (1 : Int32) else (0 : Int32)) else (0 : Int32)) else (0 : Int32)))])) _
              exact k
            · simp only [if_neg hc189_55] at k
              refine XS.icmpYes Y31.here hx rfl (pc0 := 189) (pc' := 215) rfl (hb hby at_189) rfl (feq hc189_55).2 (by decide) (by decide) ?_
              show Steps p.tables e below (T31.setTop (mkF m 215 #[.val (.int p0), .val (.int p1), .val (.int p2), .val (.int p3), .val (.int p4), .val (.int p5), .val (.int v4), .val (.int v8), .val (.int v17), .val (.int v18), .val (.int v19), .val (.int v16), .val (.ref b20), .val (.ref b24), .val (.ref b28), .unset] [])) _
              refine XS.iconst Y31.here hx rfl (hb hby at_215) ?_
              show Steps p.tables e below (T31.setTop (mkF m 216 #[.val (.int p0), .val (.int p1), .val (.int p2), .val (.int p3), .val (.int p4), .val (.int p5), .val (.int v4), .val (.int v8), .val (.int v17), .val (.int v18), .val (.int v19), .val (.int v16), .val (.ref b20), .val (.ref b24), .val (.ref b28), .unset] [(.int (0 : Int32))])) _
              exact k
          refine j62 _ ?_
          show Steps p.tables e below (T31.setTop (mkF m 216 #[.val (.int p0), .val (.int p1), .val (.int p2), .val (.int p3), .val (.int p4), .val (.int p5), .val (.int v4), .val (.int v8), .val (.int v17), .val (.int v18), .val (.int v19), .val (.int v16), .val (.ref b20), .val (.ref b24), .val (.ref b28), .unset] [(.int (if p0 = v17 then (if p1 = v18 then (if p2 = v19 then (if v4 = v8 then (1 : Int32) else (0 : Int32)) else (0 : Int32)) else (0 : Int32)) else (0 : Int32)))])) _
          exact k
        obtain ⟨v64, hv64⟩ : ∃ z : Int32, z = (if p0 = v17 then (if p1 = v18 then (if p2 = v19 then (if v4 = v8 then (1 : Int32) else (0 : Int32)) else (0 : Int32)) else (0 : Int32)) else (0 : Int32)) := ⟨_, rfl⟩
        have pre64 : Lead p e below G (T31.setTop (mkF m 216 #[.val (.int p0), .val (.int p1), .val (.int p2), .val (.int p3), .val (.int p4), .val (.int p5), .val (.int v4), .val (.int v8), .val (.int v17), .val (.int v18), .val (.int v19), .val (.int v16), .val (.ref b20), .val (.ref b24), .val (.ref b28), .unset] [(.int v64)])) := by rw [hv64]; exact pre63
        have pre65 : Lead p e below G (T31.setTop (mkF m 222 #[.val (.int p0), .val (.int p1), .val (.int p2), .val (.int p3), .val (.int p4), .val (.int p5), .val (.int v4), .val (.int v8), .val (.int v17), .val (.int v18), .val (.int v19), .val (.int v16), .val (.ref b20), .val (.ref b24), .val (.ref b28), .val (.int v64)] [(.ref b24), (.ref b20)])) := fun t k => by
          refine pre64 t ?_
          show Steps p.tables e below (T31.setTop (mkF m 216 #[.val (.int p0), .val (.int p1), .val (.int p2), .val (.int p3), .val (.int p4), .val (.int p5), .val (.int v4), .val (.int v8), .val (.int v17), .val (.int v18), .val (.int v19), .val (.int v16), .val (.ref b20), .val (.ref b24), .val (.ref b28), .unset] [(.int v64)])) _
          refine XS.istore Y31.here hx rfl (hb hby at_216) rfl (l' := #[.val (.int p0), .val (.int p1), .val (.int p2), .val (.int p3), .val (.int p4), .val (.int p5), .val (.int v4), .val (.int v8), .val (.int v17), .val (.int v18), .val (.int v19), .val (.int v16), .val (.ref b20), .val (.ref b24), .val (.ref b28), .val (.int v64)]) rfl ?_
          show Steps p.tables e below (T31.setTop (mkF m 218 #[.val (.int p0), .val (.int p1), .val (.int p2), .val (.int p3), .val (.int p4), .val (.int p5), .val (.int v4), .val (.int v8), .val (.int v17), .val (.int v18), .val (.int v19), .val (.int v16), .val (.ref b20), .val (.ref b24), .val (.ref b28), .val (.int v64)] [])) _
          refine XS.aload Y31.here hx rfl (hb hby at_218) rfl rfl ?_
          show Steps p.tables e below (T31.setTop (mkF m 220 #[.val (.int p0), .val (.int p1), .val (.int p2), .val (.int p3), .val (.int p4), .val (.int p5), .val (.int v4), .val (.int v8), .val (.int v17), .val (.int v18), .val (.int v19), .val (.int v16), .val (.ref b20), .val (.ref b24), .val (.ref b28), .val (.int v64)] [(.ref b20)])) _
          refine XS.aload Y31.here hx rfl (hb hby at_220) rfl rfl ?_
          show Steps p.tables e below (T31.setTop (mkF m 222 #[.val (.int p0), .val (.int p1), .val (.int p2), .val (.int p3), .val (.int p4), .val (.int p5), .val (.int v4), .val (.int v8), .val (.int v17), .val (.int v18), .val (.int v19), .val (.int v16), .val (.ref b20), .val (.ref b24), .val (.ref b28), .val (.int v64)] [(.ref b24), (.ref b20)])) _
          exact k
        have f67 : Exa Z T31.heap b20 "com/example/nonesuch/nonesuch/engine/GroundProgram$GroundAtom" := ((f29.ext E28).keep K31c)
        have f68 : Exa Z T31.heap b24 "com/example/nonesuch/nonesuch/engine/GroundProgram$GroundAtom" := ((c26_0.ext E28).keep K31c)
        have f69 : Fld Z T31.heap b20 "com/example/nonesuch/nonesuch/engine/GroundProgram$GroundAtom" "predicate" "I" (.int p0) := ((((c22_1.ext E24).keep K26c (ninS ne24_b20 nin0)).ext E28).keep K31c (ninS ne28_b20 nin0))
        have f70 : Fld Z T31.heap b20 "com/example/nonesuch/nonesuch/engine/GroundProgram$GroundAtom" "subject" "I" (.int p1) := ((((c22_2.ext E24).keep K26c (ninS ne24_b20 nin0)).ext E28).keep K31c (ninS ne28_b20 nin0))
        have f71 : Fld Z T31.heap b20 "com/example/nonesuch/nonesuch/engine/GroundProgram$GroundAtom" "object" "I" (.int p2) := ((((c22_3.ext E24).keep K26c (ninS ne24_b20 nin0)).ext E28).keep K31c (ninS ne28_b20 nin0))
        have f72 : Fld Z T31.heap b20 "com/example/nonesuch/nonesuch/engine/GroundProgram$GroundAtom" "negative" "Z" (.int (nar .boolean v4)) := ((((c22_4.ext E24).keep K26c (ninS ne24_b20 nin0)).ext E28).keep K31c (ninS ne28_b20 nin0))
        have f73 : Fld Z T31.heap b24 "com/example/nonesuch/nonesuch/engine/GroundProgram$GroundAtom" "predicate" "I" (.int v17) := ((c26_1.ext E28).keep K31c (ninS ne28_b24 nin0))
        have f74 : Fld Z T31.heap b24 "com/example/nonesuch/nonesuch/engine/GroundProgram$GroundAtom" "subject" "I" (.int v18) := ((c26_2.ext E28).keep K31c (ninS ne28_b24 nin0))
        have f75 : Fld Z T31.heap b24 "com/example/nonesuch/nonesuch/engine/GroundProgram$GroundAtom" "object" "I" (.int v19) := ((c26_3.ext E28).keep K31c (ninS ne28_b24 nin0))
        have f76 : Fld Z T31.heap b24 "com/example/nonesuch/nonesuch/engine/GroundProgram$GroundAtom" "negative" "Z" (.int (nar .boolean v8)) := ((c26_4.ext E28).keep K31c (ninS ne28_b24 nin0))
        obtain ⟨cq66, kq66, q66a, q66b, q66c⟩ := isOf hZ rfl f67
        obtain ⟨_, _, ⟨T66, L66, k66, n66⟩, -, X66, ⟨Lc66, hQ66, l66, y66, z66⟩, st66⟩ := Y31.virtualBack hx (y := (⟨"com/example/nonesuch/nonesuch/engine/GroundProgram$GroundAtom", "equals", "(Ljava/lang/Object;)Z"⟩ : MethodName)) (z := (⟨"com/example/nonesuch/nonesuch/engine/GroundProgram$GroundAtom", "equals", "(Ljava/lang/Object;)Z"⟩ : MethodName)) hown (mvT hZ (hw _ (List.mem_of_getElem? (i := 37) rfl))) (mvT hZ (hw _ (List.mem_of_getElem? (i := 38) rfl))) (notFace_of_selects (args := #[]) (mvT hZ (hw _ (List.mem_of_getElem? (i := 40) rfl)))) (mvT hZ (hw _ (List.mem_of_getElem? (i := 40) rfl))) (mvT hZ (hw _ (List.mem_of_getElem? (i := 39) rfl))) (by decide) (backOf (W := 0) (rm4g l Z a0 hw [] b20 b24 p0 p1 p2 (nar .boolean v4) v17 v18 v19 (nar .boolean v8) T31.heap n0 (Nat.le_trans Z0 K31.1) f67 f68 f69 f70 f71 f72 f73 f74 f75 f76) hZ (hw _ (List.mem_of_getElem? (i := 41) rfl)) (hw _ (List.mem_of_getElem? (i := 2) rfl)) (by decide) (by decide)) q66a q66c (g := (mkF m 222 #[.val (.int p0), .val (.int p1), .val (.int p2), .val (.int p3), .val (.int p4), .val (.int p5), .val (.int v4), .val (.int v8), .val (.int v17), .val (.int v18), .val (.int v19), .val (.int v16), .val (.ref b20), .val (.ref b24), .val (.ref b28), .val (.int v64)] [(.ref b24), (.ref b20)])) rfl (by rw [hml]; rfl) (Steps.refl _) (argsL := [(.ref b24)]) (rest := []) (lenOf pd__28_Ljava_2f_lang_2f_Object_3b__29_Z rfl) rfl (by show 2 * 0 + _ ≤ _; exact Nat.le_of_eq rfl) (hb hby at_222) (fun _ _ => ⟨rfl, rfl, (by decide : 3 + 0 ≤ _), (by decide : 12 + 0 ≤ _)⟩)
        dsimp only [Pt.U, Pt.locs, Pt.cells, Pt.slots] at X66 l66 y66 z66 st66 hQ66
        subst l66 y66 z66
        obtain ⟨rfl, N66q, e66⟩ := hQ66
        have N66 := Fr.app N31 N66q
        obtain ⟨M66, Y66, N66⟩ : ∃ M, Stand p l e room_1 s m #[(.int p0), (.int p1), (.int p2), (.int p3), (.int p4), (.int p5)] below meth c T66 M 3 12 ∧ Fr n0 M := ⟨_, X66, N66⟩
        have pre66 : Lead p e below G (T66.setTop (mkF m 225 #[.val (.int p0), .val (.int p1), .val (.int p2), .val (.int p3), .val (.int p4), .val (.int p5), .val (.int v4), .val (.int v8), .val (.int v17), .val (.int v18), .val (.int v19), .val (.int v16), .val (.ref b20), .val (.ref b24), .val (.ref b28), .val (.int v64)] [(.int (F4g p0 p1 p2 (nar .boolean v4) v17 v18 v19 (nar .boolean v8)))])) := fun t k => pre65 t (st66.trans k)
        have pre78 : Lead p e below G (T66.setTop (mkF m 227 #[.val (.int p0), .val (.int p1), .val (.int p2), .val (.int p3), .val (.int p4), .val (.int p5), .val (.int v4), .val (.int v8), .val (.int v17), .val (.int v18), .val (.int v19), .val (.int v16), .val (.ref b20), .val (.ref b24), .val (.ref b28), .val (.int v64)] [(.int v64), (.int (F4g p0 p1 p2 (nar .boolean v4) v17 v18 v19 (nar .boolean v8)))])) := fun t k => by
          refine pre66 t ?_
          show Steps p.tables e below (T66.setTop (mkF m 225 #[.val (.int p0), .val (.int p1), .val (.int p2), .val (.int p3), .val (.int p4), .val (.int p5), .val (.int v4), .val (.int v8), .val (.int v17), .val (.int v18), .val (.int v19), .val (.int v16), .val (.ref b20), .val (.ref b24), .val (.ref b28), .val (.int v64)] [(.int (F4g p0 p1 p2 (nar .boolean v4) v17 v18 v19 (nar .boolean v8)))])) _
          refine XS.iload Y66.here hx rfl (hb hby at_225) rfl ?_
          show Steps p.tables e below (T66.setTop (mkF m 227 #[.val (.int p0), .val (.int p1), .val (.int p2), .val (.int p3), .val (.int p4), .val (.int p5), .val (.int v4), .val (.int v8), .val (.int v17), .val (.int v18), .val (.int v19), .val (.int v16), .val (.ref b20), .val (.ref b24), .val (.ref b28), .val (.int v64)] [(.int v64), (.int (F4g p0 p1 p2 (nar .boolean v4) v17 v18 v19 (nar .boolean v8)))])) _
          exact k
        by_cases hs227_79 : (F4g p0 p1 p2 (nar .boolean v4) v17 v18 v19 (nar .boolean v8)) = v64
        · have pre80 : Lead p e below G (T66.setTop (mkF m 234 #[.val (.int p0), .val (.int p1), .val (.int p2), .val (.int p3), .val (.int p4), .val (.int p5), .val (.int v4), .val (.int v8), .val (.int v17), .val (.int v18), .val (.int v19), .val (.int v16), .val (.ref b20), .val (.ref b24), .val (.ref b28), .val (.int v64)] [(.ref b20), (.ref b24)])) := fun t k => by
            refine pre78 t ?_
            show Steps p.tables e below (T66.setTop (mkF m 227 #[.val (.int p0), .val (.int p1), .val (.int p2), .val (.int p3), .val (.int p4), .val (.int p5), .val (.int v4), .val (.int v8), .val (.int v17), .val (.int v18), .val (.int v19), .val (.int v16), .val (.ref b20), .val (.ref b24), .val (.ref b28), .val (.int v64)] [(.int v64), (.int (F4g p0 p1 p2 (nar .boolean v4) v17 v18 v19 (nar .boolean v8)))])) _
            refine XS.icmpNo Y66.here hx rfl (hb hby at_227) rfl (teq hs227_79).2 ?_
            show Steps p.tables e below (T66.setTop (mkF m 230 #[.val (.int p0), .val (.int p1), .val (.int p2), .val (.int p3), .val (.int p4), .val (.int p5), .val (.int v4), .val (.int v8), .val (.int v17), .val (.int v18), .val (.int v19), .val (.int v16), .val (.ref b20), .val (.ref b24), .val (.ref b28), .val (.int v64)] [])) _
            refine XS.aload Y66.here hx rfl (hb hby at_230) rfl rfl ?_
            show Steps p.tables e below (T66.setTop (mkF m 232 #[.val (.int p0), .val (.int p1), .val (.int p2), .val (.int p3), .val (.int p4), .val (.int p5), .val (.int v4), .val (.int v8), .val (.int v17), .val (.int v18), .val (.int v19), .val (.int v16), .val (.ref b20), .val (.ref b24), .val (.ref b28), .val (.int v64)] [(.ref b24)])) _
            refine XS.aload Y66.here hx rfl (hb hby at_232) rfl rfl ?_
            show Steps p.tables e below (T66.setTop (mkF m 234 #[.val (.int p0), .val (.int p1), .val (.int p2), .val (.int p3), .val (.int p4), .val (.int p5), .val (.int v4), .val (.int v8), .val (.int v17), .val (.int v18), .val (.int v19), .val (.int v16), .val (.ref b20), .val (.ref b24), .val (.ref b28), .val (.int v64)] [(.ref b20), (.ref b24)])) _
            exact k
          obtain ⟨cq81, kq81, q81a, q81b, q81c⟩ := isOf hZ e66 f68
          obtain ⟨_, _, ⟨T81, L81, k81, n81⟩, -, X81, ⟨Lc81, hQ81, l81, y81, z81⟩, st81⟩ := Y66.virtualBack hx (y := (⟨"com/example/nonesuch/nonesuch/engine/GroundProgram$GroundAtom", "equals", "(Ljava/lang/Object;)Z"⟩ : MethodName)) (z := (⟨"com/example/nonesuch/nonesuch/engine/GroundProgram$GroundAtom", "equals", "(Ljava/lang/Object;)Z"⟩ : MethodName)) hown (mvT hZ (hw _ (List.mem_of_getElem? (i := 37) rfl))) (mvT hZ (hw _ (List.mem_of_getElem? (i := 38) rfl))) (notFace_of_selects (args := #[]) (mvT hZ (hw _ (List.mem_of_getElem? (i := 40) rfl)))) (mvT hZ (hw _ (List.mem_of_getElem? (i := 40) rfl))) (mvT hZ (hw _ (List.mem_of_getElem? (i := 39) rfl))) (by decide) (backOf (W := 0) (rm4g l Z a0 hw [] b24 b20 v17 v18 v19 (nar .boolean v8) p0 p1 p2 (nar .boolean v4) T31.heap n0 (Nat.le_trans Z0 K31.1) f68 f67 f73 f74 f75 f76 f69 f70 f71 f72) hZ (hw _ (List.mem_of_getElem? (i := 41) rfl)) (hw _ (List.mem_of_getElem? (i := 2) rfl)) (by decide) (by decide)) q81a q81c (g := (mkF m 234 #[.val (.int p0), .val (.int p1), .val (.int p2), .val (.int p3), .val (.int p4), .val (.int p5), .val (.int v4), .val (.int v8), .val (.int v17), .val (.int v18), .val (.int v19), .val (.int v16), .val (.ref b20), .val (.ref b24), .val (.ref b28), .val (.int v64)] [(.ref b20), (.ref b24)])) rfl (by rw [hml]; rfl) (Steps.refl _) (argsL := [(.ref b20)]) (rest := []) (lenOf pd__28_Ljava_2f_lang_2f_Object_3b__29_Z rfl) rfl (by show 2 * 0 + _ ≤ _; exact Nat.le_of_eq rfl) (hb hby at_234) (fun _ _ => ⟨rfl, e66, (by decide : 3 + 0 ≤ _), (by decide : 12 + 0 ≤ _)⟩)
          dsimp only [Pt.U, Pt.locs, Pt.cells, Pt.slots] at X81 l81 y81 z81 st81 hQ81
          subst l81 y81 z81
          obtain ⟨rfl, N81q, e81⟩ := hQ81
          have N81 := Fr.app N66 N81q
          obtain ⟨M81, Y81, N81⟩ : ∃ M, Stand p l e room_1 s m #[(.int p0), (.int p1), (.int p2), (.int p3), (.int p4), (.int p5)] below meth c T81 M 3 12 ∧ Fr n0 M := ⟨_, X81, N81⟩
          have pre81 : Lead p e below G (T81.setTop (mkF m 237 #[.val (.int p0), .val (.int p1), .val (.int p2), .val (.int p3), .val (.int p4), .val (.int p5), .val (.int v4), .val (.int v8), .val (.int v17), .val (.int v18), .val (.int v19), .val (.int v16), .val (.ref b20), .val (.ref b24), .val (.ref b28), .val (.int v64)] [(.int (F4g v17 v18 v19 (nar .boolean v8) p0 p1 p2 (nar .boolean v4)))])) := fun t k => pre80 t (st81.trans k)
          have pre84 : Lead p e below G (T81.setTop (mkF m 247 #[.val (.int p0), .val (.int p1), .val (.int p2), .val (.int p3), .val (.int p4), .val (.int p5), .val (.int v4), .val (.int v8), .val (.int v17), .val (.int v18), .val (.int v19), .val (.int v16), .val (.ref b20), .val (.ref b24), .val (.ref b28), .val (.int v64)] [(.int (if (F4g v17 v18 v19 (nar .boolean v8) p0 p1 p2 (nar .boolean v4)) = v64 then (1 : Int32) else (0 : Int32)))])) := fun t k => by
            refine pre81 t ?_
            show Steps p.tables e below (T81.setTop (mkF m 237 #[.val (.int p0), .val (.int p1), .val (.int p2), .val (.int p3), .val (.int p4), .val (.int p5), .val (.int v4), .val (.int v8), .val (.int v17), .val (.int v18), .val (.int v19), .val (.int v16), .val (.ref b20), .val (.ref b24), .val (.ref b28), .val (.int v64)] [(.int (F4g v17 v18 v19 (nar .boolean v8) p0 p1 p2 (nar .boolean v4)))])) _
            refine XS.iload Y81.here hx rfl (hb hby at_237) rfl ?_
            show Steps p.tables e below (T81.setTop (mkF m 239 #[.val (.int p0), .val (.int p1), .val (.int p2), .val (.int p3), .val (.int p4), .val (.int p5), .val (.int v4), .val (.int v8), .val (.int v17), .val (.int v18), .val (.int v19), .val (.int v16), .val (.ref b20), .val (.ref b24), .val (.ref b28), .val (.int v64)] [(.int v64), (.int (F4g v17 v18 v19 (nar .boolean v8) p0 p1 p2 (nar .boolean v4)))])) _
            have j83 : ∀ t, Steps p.tables e below (T81.setTop (mkF m 247 #[.val (.int p0), .val (.int p1), .val (.int p2), .val (.int p3), .val (.int p4), .val (.int p5), .val (.int v4), .val (.int v8), .val (.int v17), .val (.int v18), .val (.int v19), .val (.int v16), .val (.ref b20), .val (.ref b24), .val (.ref b28), .val (.int v64)] [(.int (if (F4g v17 v18 v19 (nar .boolean v8) p0 p1 p2 (nar .boolean v4)) = v64 then (1 : Int32) else (0 : Int32)))])) t → Steps p.tables e below (T81.setTop (mkF m 239 #[.val (.int p0), .val (.int p1), .val (.int p2), .val (.int p3), .val (.int p4), .val (.int p5), .val (.int v4), .val (.int v8), .val (.int v17), .val (.int v18), .val (.int v19), .val (.int v16), .val (.ref b20), .val (.ref b24), .val (.ref b28), .val (.int v64)] [(.int v64), (.int (F4g v17 v18 v19 (nar .boolean v8) p0 p1 p2 (nar .boolean v4)))])) t := fun t k => by
              by_cases hc239_82 : (F4g v17 v18 v19 (nar .boolean v8) p0 p1 p2 (nar .boolean v4)) = v64
              · simp only [if_pos hc239_82] at k
                refine XS.icmpNo Y81.here hx rfl (hb hby at_239) rfl (teq hc239_82).2 ?_
                show Steps p.tables e below (T81.setTop (mkF m 242 #[.val (.int p0), .val (.int p1), .val (.int p2), .val (.int p3), .val (.int p4), .val (.int p5), .val (.int v4), .val (.int v8), .val (.int v17), .val (.int v18), .val (.int v19), .val (.int v16), .val (.ref b20), .val (.ref b24), .val (.ref b28), .val (.int v64)] [])) _
                refine XS.iconst Y81.here hx rfl (hb hby at_242) ?_
                show Steps p.tables e below (T81.setTop (mkF m 243 #[.val (.int p0), .val (.int p1), .val (.int p2), .val (.int p3), .val (.int p4), .val (.int p5), .val (.int v4), .val (.int v8), .val (.int v17), .val (.int v18), .val (.int v19), .val (.int v16), .val (.ref b20), .val (.ref b24), .val (.ref b28), .val (.int v64)] [(.int (1 : Int32))])) _
                refine XS.goto Y81.here hx rfl (pc0 := 243) (pc' := 247) rfl (hb hby at_243) (by decide) (by decide) ?_
                show Steps p.tables e below (T81.setTop (mkF m 247 #[.val (.int p0), .val (.int p1), .val (.int p2), .val (.int p3), .val (.int p4), .val (.int p5), .val (.int v4), .val (.int v8), .val (.int v17), .val (.int v18), .val (.int v19), .val (.int v16), .val (.ref b20), .val (.ref b24), .val (.ref b28), .val (.int v64)] [(.int (1 : Int32))])) _
                exact k
              · simp only [if_neg hc239_82] at k
                refine XS.icmpYes Y81.here hx rfl (pc0 := 239) (pc' := 246) rfl (hb hby at_239) rfl (feq hc239_82).2 (by decide) (by decide) ?_
                show Steps p.tables e below (T81.setTop (mkF m 246 #[.val (.int p0), .val (.int p1), .val (.int p2), .val (.int p3), .val (.int p4), .val (.int p5), .val (.int v4), .val (.int v8), .val (.int v17), .val (.int v18), .val (.int v19), .val (.int v16), .val (.ref b20), .val (.ref b24), .val (.ref b28), .val (.int v64)] [])) _
                refine XS.iconst Y81.here hx rfl (hb hby at_246) ?_
                show Steps p.tables e below (T81.setTop (mkF m 247 #[.val (.int p0), .val (.int p1), .val (.int p2), .val (.int p3), .val (.int p4), .val (.int p5), .val (.int v4), .val (.int v8), .val (.int v17), .val (.int v18), .val (.int v19), .val (.int v16), .val (.ref b20), .val (.ref b24), .val (.ref b28), .val (.int v64)] [(.int (0 : Int32))])) _
                exact k
            refine j83 _ ?_
            show Steps p.tables e below (T81.setTop (mkF m 247 #[.val (.int p0), .val (.int p1), .val (.int p2), .val (.int p3), .val (.int p4), .val (.int p5), .val (.int v4), .val (.int v8), .val (.int v17), .val (.int v18), .val (.int v19), .val (.int v16), .val (.ref b20), .val (.ref b24), .val (.ref b28), .val (.int v64)] [(.int (if (F4g v17 v18 v19 (nar .boolean v8) p0 p1 p2 (nar .boolean v4)) = v64 then (1 : Int32) else (0 : Int32)))])) _
            exact k
          obtain ⟨v85, hv85⟩ : ∃ z : Int32, z = (if (F4g v17 v18 v19 (nar .boolean v8) p0 p1 p2 (nar .boolean v4)) = v64 then (1 : Int32) else (0 : Int32)) := ⟨_, rfl⟩
          have pre85 : Lead p e below G (T81.setTop (mkF m 247 #[.val (.int p0), .val (.int p1), .val (.int p2), .val (.int p3), .val (.int p4), .val (.int p5), .val (.int v4), .val (.int v8), .val (.int v17), .val (.int v18), .val (.int v19), .val (.int v16), .val (.ref b20), .val (.ref b24), .val (.ref b28), .val (.int v64)] [(.int v85)])) := by rw [hv85]; exact pre84
          obtain ⟨fs, hr, hrun, hended, hW, hsame⟩ := Y81.leave (v := some (.int (nar .boolean v85))) (fun h => by rw [Bd.returns] at h; cases h)
          subst hG
          refine ⟨_, _, pre85 _ ?_, hrun, hended, _, _, rfl, ?_, ⟨_, rfl⟩, hW, hsame.mono (by decide) (by decide)⟩
          · show Steps p.tables e below (T81.setTop (mkF m 247 #[.val (.int p0), .val (.int p1), .val (.int p2), .val (.int p3), .val (.int p4), .val (.int p5), .val (.int v4), .val (.int v8), .val (.int v17), .val (.int v18), .val (.int v19), .val (.int v16), .val (.ref b20), .val (.ref b24), .val (.ref b28), .val (.int v64)] [(.int v85)])) _
            exact retN Y81 hx (t := .boolean) Bd.returns (by simp) (hb hby at_247) hr
          · show Q0 Z p0 p1 p2 p3 p4 p5 h0 n0 _ T81.heap _
            refine ⟨congrArg (fun z => some (Value.int z)) (Eq.trans (?_ : (nar .boolean v85) = F0 p0 p1 p2 p3 p4 p5) (own_law p0 p1 p2 p3 p4 p5)), N81⟩
            subst hv85 hv64 hv19 hv18 hv17 hv16 hv8 hv4
            refine Eq.symm ?_; unfold F0; refine Eq.trans (if_neg hs132_33) ?_; refine Eq.trans (if_neg hs153_40) ?_; refine Eq.trans (if_neg hs175_47) ?_; refine Eq.trans (if_pos hs227_79) ?_; rfl
        · obtain ⟨fs, hr, hrun, hended, hW, hsame⟩ := Y66.leave (v := some (.int (nar .boolean (0 : Int32)))) (fun h => by rw [Bd.returns] at h; cases h)
          subst hG
          refine ⟨_, _, pre78 _ ?_, hrun, hended, _, _, rfl, ?_, ⟨_, rfl⟩, hW, hsame.mono (by decide) (by decide)⟩
          · show Steps p.tables e below (T66.setTop (mkF m 227 #[.val (.int p0), .val (.int p1), .val (.int p2), .val (.int p3), .val (.int p4), .val (.int p5), .val (.int v4), .val (.int v8), .val (.int v17), .val (.int v18), .val (.int v19), .val (.int v16), .val (.ref b20), .val (.ref b24), .val (.ref b28), .val (.int v64)] [(.int v64), (.int (F4g p0 p1 p2 (nar .boolean v4) v17 v18 v19 (nar .boolean v8)))])) _
            refine XS.icmpYes Y66.here hx rfl (pc0 := 227) (pc' := 246) rfl (hb hby at_227) rfl (feq hs227_79).2 (by decide) (by decide) ?_
            show Steps p.tables e below (T66.setTop (mkF m 246 #[.val (.int p0), .val (.int p1), .val (.int p2), .val (.int p3), .val (.int p4), .val (.int p5), .val (.int v4), .val (.int v8), .val (.int v17), .val (.int v18), .val (.int v19), .val (.int v16), .val (.ref b20), .val (.ref b24), .val (.ref b28), .val (.int v64)] [])) _
            refine XS.iconst Y66.here hx rfl (hb hby at_246) ?_
            show Steps p.tables e below (T66.setTop (mkF m 247 #[.val (.int p0), .val (.int p1), .val (.int p2), .val (.int p3), .val (.int p4), .val (.int p5), .val (.int v4), .val (.int v8), .val (.int v17), .val (.int v18), .val (.int v19), .val (.int v16), .val (.ref b20), .val (.ref b24), .val (.ref b28), .val (.int v64)] [(.int (0 : Int32))])) _
            exact retN Y66 hx (t := .boolean) Bd.returns (by simp) (hb hby at_247) hr
          · show Q0 Z p0 p1 p2 p3 p4 p5 h0 n0 _ T66.heap _
            refine ⟨congrArg (fun z => some (Value.int z)) (Eq.trans (?_ : (nar .boolean (0 : Int32)) = F0 p0 p1 p2 p3 p4 p5) (own_law p0 p1 p2 p3 p4 p5)), N66⟩
            subst hv64 hv19 hv18 hv17 hv16 hv8 hv4
            refine Eq.symm ?_; unfold F0; refine Eq.trans (if_neg hs132_33) ?_; refine Eq.trans (if_neg hs153_40) ?_; refine Eq.trans (if_neg hs175_47) ?_; refine Eq.trans (if_neg hs227_79) ?_; rfl
set_option maxRecDepth 65536 in
set_option maxHeartbeats 40000000 in
theorem comes_1 {Post : Tables → Env → Array Value → State → Outcome → State → Prop} (hpost : ∀ tb e args s v u, (limb_1_1.after args s (.returned v) u = true ∧ limb_1_2.after args s (.returned v) u = true ∧ True) → FrameEnd s (.returned v) u (Jvm.fieldLocs frame_1_writes args s ++ Jvm.arrayLocs frame_1_arrays args s ++ Jvm.staticLocs frame_1_statics s) 16 128 → Post tb e args s (.returned v) u) :
    ArmFor flags0 classFile x code maxLocals ret World_1 tables_1 room_1 Calls_1 rest_1 Pre_1 Post := by
  intro l hfl _ _ p e ha hc hk s m args below hf hA hF happ hP
  obtain ⟨hcalls, hrest, hpre⟩ := hP
  obtain ⟨-, -, -, hnamed, -, -, -, hat⟩ := (Spec.applies_iff hf).mp happ
  obtain ⟨hg, hn⟩ := and_e (Cond.before_iff.mp (show (Jvm.Cond.and given_1 narrow_1).before args s = true from hpre))
  obtain ⟨g1, g2⟩ := and_e hg
  obtain ⟨g3, g4⟩ := and_e g2
  obtain ⟨g5, g6⟩ := and_e g4
  obtain ⟨g7, g8⟩ := and_e g6
  obtain ⟨g9, g10⟩ := and_e g8
  obtain ⟨g11, g12⟩ := and_e g10
  obtain ⟨w0, w1, w2, w3, w4, w5, rfl⟩ : ∃ w0 w1 w2 w3 w4 w5 : Value, args = #[w0, w1, w2, w3, w4, w5] := by
    have hs : args.size = 6 := by simpa [Cond.value, given_1] using g1
    obtain ⟨L⟩ := args
    match L, hs with
    | [w0, w1, w2, w3, w4, w5], _ => exact ⟨w0, w1, w2, w3, w4, w5, rfl⟩
  have hw := fun d (hd : d ∈ tables_1) => atoms_spec (ws := Jvm.Cond.code x code maxLocals ret :: tables_1) hat d (List.mem_cons_of_mem _ hd)
  obtain ⟨i0, ei0⟩ := is_v g3
  obtain rfl : w0 = (.int i0) := Option.some.inj ei0
  obtain ⟨i1, ei1⟩ := is_v g5
  obtain rfl : w1 = (.int i1) := Option.some.inj ei1
  obtain ⟨i2, ei2⟩ := is_v g7
  obtain rfl : w2 = (.int i2) := Option.some.inj ei2
  obtain ⟨i3, ei3⟩ := is_v g9
  obtain rfl : w3 = (.int i3) := Option.some.inj ei3
  obtain ⟨i4, ei4⟩ := is_v g11
  obtain rfl : w4 = (.int i4) := Option.some.inj ei4
  obtain ⟨i5, ei5⟩ := is_v g12
  obtain rfl : w5 = (.int i5) := Option.some.inj ei5
  obtain ⟨n, o, h1, h2, h3, _, L, rfl, ⟨rfl, N⟩, hq⟩ := rm0 l s _ hw tables_1 i0 i1 i2 i3 i4 i5 s.heap s.heap.size (Nat.le_refl _) p e ha hc hk s m _ below hf ((Spec.applies_iff_loose hf).mp happ).1 ⟨rfl, State.Warmed39.refl s, rfl⟩ trivial
  refine ⟨n, _, h1, h2, h3, hpost _ _ _ _ _ _ ⟨Cond.after_iff.mpr rfl, Cond.after_iff.mpr (eq_i res_at (Term.int_eval (1)) rfl), trivial⟩ ⟨hq.1, hq.2.1, (hq.2.2.sift fun y hy => Or.inr (N y hy)).mono (by decide) (by decide)⟩⟩
theorem main_1_1 : Claimed_1_1 := comes_1 fun _ _ _ _ _ _ h hF => ⟨h.1, hF⟩
theorem main_1_2 : Claimed_1_2 := comes_1 fun _ _ _ _ _ _ h hF => ⟨h.2.1, hF⟩
end Jvm.Pilot.@@N@@
namespace Jvm.Pilot.@@N@@
open Jvm Jvm.ClassFile Sem Op Lib Jvm.Free Jvm.Stand Jvm.Pilot.@@N@@.Jvm.D
/-! MADE BY PROGRAM (witnessworld.py) out of the Statement's table words and the real class files: 11 classes; the members and pool entries that the words name. The judged class is class 1, her method 1. -/
namespace start1
open Jvm.ClassFile
def u (s : String) : CpInfo := .utf8 (stringToUtf16 s)
/-- a pool by its gaps: so many unusable entries, then the entry; so many at the end -/
def gap : Nat → List CpInfo → List CpInfo
  | 0, r => r
  | n + 1, r => .unusable :: gap n r
def poolList (es : List (Nat × CpInfo)) (last : Nat) : List CpInfo := es.foldr (fun e r => gap e.1 (e.2 :: r)) (gap last [])
def pool (es : List (Nat × CpInfo)) (last : Nat) : Array CpInfo := ⟨poolList es last⟩
def fileOf (pool : Array CpInfo) (this : Nat) (attrs : Array Attribute := #[]) (ms : Array MethodInfo := #[]) (fl : Nat := 33) (sup : Nat := 0) (ifs : Array Nat := #[]) (fds : Array FieldInfo := #[]) : ClassFile where
  minorVersion := 0
  majorVersion := 65
  constantPool := pool
  accessFlags := fl
  thisClass := this
  superClass := sup
  interfaces := ifs
  fields := fds
  methods := ms
  attributes := attrs
def plain (name : String) (sup : Option ClassId) : Class where
  name := name
  kind := .ordinary
  loader := none
  accessFlags := 33
  super := sup
  interfaces := #[]
  cf := none
  fields := #[]
  methods := #[]
  instanceTypes := #[]
  staticTypes := #[]
  resolved := #[]
  callSites := []
  init := .initialized
  statics := none
  mirror := none

def pool0 : Array CpInfo := pool [(5, u "<init>"), (0, u "()V"), (1, .class_ 10), (1, u "java/lang/Object")] 113

def k0c0 : Code := { maxStack := 0, maxLocals := 1, code := object_method_1_code, exceptionTable := #[], attributes := #[] }
def k0m0 : Method := { name := "<init>", desc := "()V", sig := { parameters := [], returnType := none }, accessFlags := 1, code := some k0c0 }
/-- java/lang/Object -/
def k0 : Class := { plain "java/lang/Object" none with
  accessFlags := 33
  interfaces := #[]
  cf := some (fileOf pool0 8 #[] #[{ accessFlags := 1, nameIndex := 5, descriptorIndex := 6, attributes := #[] }] 33 0 #[] #[])
  fields := #[]
  methods := #[k0m0]
  instanceTypes := #[]
  staticTypes := #[]
  resolved := Array.replicate 124 none
  statics := none }

def pool1 : Array CpInfo := pool [(2, .class_ 4), (1, u "java/lang/Object"), (0, u "<init>"), (0, u "()V"), (0, .class_ 8), (0, u "com/example/nonesuch/nonesuch/engine/GroundProgram$GroundAtom"), (0, .methodref 7 10), (0, .nameAndType 5 11), (0, u "(IIIZ)V"), (0, .class_ 13), (0, u "com/example/nonesuch/nonesuch/engine/AtomPattern"), (0, .methodref 12 10), (0, .methodref 7 16), (0, .nameAndType 17 18), (0, u "equals"), (0, u "(Ljava/lang/Object;)Z"), (0, .class_ 20), (0, u "com/example/nonesuch/nonesuch/engine/GroundAtomEqualsPinLaw"), (2, u "law"), (0, u "(IIIIII)Z")] 7

def k1m0 : Method := { name := "<init>", desc := "()V", sig := { parameters := [], returnType := none }, accessFlags := 1, code := none }
def k1c1 : Code := { maxStack := 6, maxLocals := 16, code := code, exceptionTable := #[], attributes := #[] }
def k1m1 : Method := { name := "law", desc := "(IIIIII)Z", sig := { parameters := [.int, .int, .int, .int, .int, .int], returnType := some .boolean }, accessFlags := 9, code := some k1c1 }
/-- com/example/nonesuch/nonesuch/engine/GroundAtomEqualsPinLaw -/
def k1 : Class := { plain "com/example/nonesuch/nonesuch/engine/GroundAtomEqualsPinLaw" (some 0) with
  accessFlags := 49
  interfaces := #[]
  cf := some (fileOf pool1 19 #[] #[{ accessFlags := 1, nameIndex := 5, descriptorIndex := 6, attributes := #[] }, { accessFlags := 9, nameIndex := 23, descriptorIndex := 24, attributes := #[] }] 49 2 #[] #[])
  fields := #[]
  methods := #[k1m0, k1m1]
  instanceTypes := #[]
  staticTypes := #[]
  resolved := Array.replicate 32 none
  statics := none }

def pool2 : Array CpInfo := pool [(1, .methodref 2 3), (0, .class_ 4), (0, .nameAndType 5 6), (0, u "java/lang/Object"), (0, u "<init>"), (0, u "()V"), (0, .class_ 8), (0, u "java/lang/Record")] 13

def k2c0 : Code := { maxStack := 1, maxLocals := 1, code := jdk_30_method_1_code, exceptionTable := #[], attributes := #[] }
def k2m0 : Method := { name := "<init>", desc := "()V", sig := { parameters := [], returnType := none }, accessFlags := 4, code := some k2c0 }
/-- java/lang/Record -/
def k2 : Class := { plain "java/lang/Record" (some 0) with
  accessFlags := 1057
  interfaces := #[]
  cf := some (fileOf pool2 7 #[] #[{ accessFlags := 4, nameIndex := 5, descriptorIndex := 6, attributes := #[] }] 1057 2 #[] #[])
  fields := #[]
  methods := #[k2m0]
  instanceTypes := #[]
  staticTypes := #[]
  resolved := Array.replicate 22 none
  statics := none }

def pool3 : Array CpInfo := pool [(1, .class_ 2), (0, u "com/example/nonesuch/nonesuch/engine/GroundProgram"), (0, .methodref 4 5), (0, .class_ 6), (0, .nameAndType 7 8), (0, u "java/lang/Record"), (0, u "<init>"), (0, u "()V"), (0, .fieldref 10 11), (0, .class_ 12), (0, .nameAndType 13 14), (0, u "com/example/nonesuch/nonesuch/engine/GroundProgram$GroundAtom"), (0, u "predicate"), (0, u "I"), (0, .fieldref 10 16), (0, .nameAndType 17 14), (0, u "subject"), (0, .fieldref 10 19), (0, .nameAndType 20 14), (0, u "object"), (0, .fieldref 10 22), (0, .nameAndType 23 24), (0, u "negative"), (0, u "Z"), (12, u "(IIIZ)V"), (6, u "equals"), (0, u "(Ljava/lang/Object;)Z")] 27

def k3c0 : Code := { maxStack := 2, maxLocals := 5, code := prog_19_method_1_code, exceptionTable := #[], attributes := #[] }
def k3m0 : Method := { name := "<init>", desc := "(IIIZ)V", sig := { parameters := [.int, .int, .int, .boolean], returnType := none }, accessFlags := 0, code := some k3c0 }
def k3c1 : Code := { maxStack := 2, maxLocals := 3, code := prog_19_method_4_code, exceptionTable := #[], attributes := #[] }
def k3m1 : Method := { name := "equals", desc := "(Ljava/lang/Object;)Z", sig := { parameters := [(.object "java/lang/Object")], returnType := some .boolean }, accessFlags := 1, code := some k3c1 }
/-- com/example/nonesuch/nonesuch/engine/GroundProgram$GroundAtom -/
def k3 : Class := { plain "com/example/nonesuch/nonesuch/engine/GroundProgram$GroundAtom" (some 2) with
  accessFlags := 48
  interfaces := #[]
  cf := some (fileOf pool3 10 #[.nestHost 1] #[{ accessFlags := 0, nameIndex := 7, descriptorIndex := 37, attributes := #[] }, { accessFlags := 1, nameIndex := 44, descriptorIndex := 45, attributes := #[] }] 48 4 #[] #[{ accessFlags := 18, nameIndex := 13, descriptorIndex := 14, attributes := #[] }, { accessFlags := 18, nameIndex := 17, descriptorIndex := 14, attributes := #[] }, { accessFlags := 18, nameIndex := 20, descriptorIndex := 14, attributes := #[] }, { accessFlags := 18, nameIndex := 23, descriptorIndex := 24, attributes := #[] }])
  fields := #[{ name := "predicate", type := .int, accessFlags := 18, slot := 0, constantValue := 0 }, { name := "subject", type := .int, accessFlags := 18, slot := 1, constantValue := 0 }, { name := "object", type := .int, accessFlags := 18, slot := 2, constantValue := 0 }, { name := "negative", type := .boolean, accessFlags := 18, slot := 3, constantValue := 0 }]
  methods := #[k3m0, k3m1]
  instanceTypes := #[.int, .int, .int, .boolean]
  staticTypes := #[]
  resolved := Array.replicate 73 none
  statics := none }

def pool4 : Array CpInfo := pool [(1, .methodref 2 3), (0, .class_ 4), (0, .nameAndType 5 6), (0, u "java/lang/Record"), (0, u "<init>"), (0, u "()V"), (0, .fieldref 8 9), (0, .class_ 10), (0, .nameAndType 11 12), (0, u "com/example/nonesuch/nonesuch/engine/AtomPattern"), (0, u "predicate"), (0, u "I"), (0, .fieldref 8 14), (0, .nameAndType 15 12), (0, u "subject"), (0, .fieldref 8 17), (0, .nameAndType 18 12), (0, u "object"), (0, .fieldref 8 20), (0, .nameAndType 21 22), (0, u "negative"), (0, u "Z"), (12, u "(IIIZ)V")] 30

def k4c0 : Code := { maxStack := 2, maxLocals := 5, code := prog_3_method_1_code, exceptionTable := #[], attributes := #[] }
def k4m0 : Method := { name := "<init>", desc := "(IIIZ)V", sig := { parameters := [.int, .int, .int, .boolean], returnType := none }, accessFlags := 0, code := some k4c0 }
/-- com/example/nonesuch/nonesuch/engine/AtomPattern -/
def k4 : Class := { plain "com/example/nonesuch/nonesuch/engine/AtomPattern" (some 2) with
  accessFlags := 48
  interfaces := #[]
  cf := some (fileOf pool4 8 #[] #[{ accessFlags := 0, nameIndex := 5, descriptorIndex := 35, attributes := #[] }] 48 2 #[] #[{ accessFlags := 18, nameIndex := 11, descriptorIndex := 12, attributes := #[] }, { accessFlags := 18, nameIndex := 15, descriptorIndex := 12, attributes := #[] }, { accessFlags := 18, nameIndex := 18, descriptorIndex := 12, attributes := #[] }, { accessFlags := 18, nameIndex := 21, descriptorIndex := 22, attributes := #[] }])
  fields := #[{ name := "predicate", type := .int, accessFlags := 18, slot := 0, constantValue := 0 }, { name := "subject", type := .int, accessFlags := 18, slot := 1, constantValue := 0 }, { name := "object", type := .int, accessFlags := 18, slot := 2, constantValue := 0 }, { name := "negative", type := .boolean, accessFlags := 18, slot := 3, constantValue := 0 }]
  methods := #[k4m0]
  instanceTypes := #[.int, .int, .int, .boolean]
  staticTypes := #[]
  resolved := Array.replicate 66 none
  statics := none }

def pool5 : Array CpInfo := pool [(1, u "java/lang/Cloneable"), (0, .class_ 1), (0, u "java/lang/Object"), (0, .class_ 3)] 3

/-- java/lang/Cloneable -/
def k5 : Class := { plain "java/lang/Cloneable" (some 0) with
  accessFlags := 1537
  interfaces := #[]
  cf := some (fileOf pool5 2 #[] #[] 1537 4 #[] #[])
  fields := #[]
  methods := #[]
  instanceTypes := #[]
  staticTypes := #[]
  resolved := Array.replicate 8 none
  statics := none }

def pool6 : Array CpInfo := pool [(1, u "java/io/Serializable"), (0, .class_ 1), (0, u "java/lang/Object"), (0, .class_ 3)] 3

/-- java/io/Serializable -/
def k6 : Class := { plain "java/io/Serializable" (some 0) with
  accessFlags := 1537
  interfaces := #[]
  cf := some (fileOf pool6 2 #[] #[] 1537 4 #[] #[])
  fields := #[]
  methods := #[]
  instanceTypes := #[]
  staticTypes := #[]
  resolved := Array.replicate 8 none
  statics := none }

/-- the primitive byte -/
def k7 : Class := { plain "byte" none with kind := .primitive 'B', accessFlags := 0x411 }
/-- [B -/
def k8 : Class := { plain "[B" (some 0) with kind := .array 7 .byte, interfaces := #[5, 6], accessFlags := 1041 }

/-- the primitive int -/
def k9 : Class := { plain "int" none with kind := .primitive 'I', accessFlags := 0x411 }
/-- [I -/
def k10 : Class := { plain "[I" (some 0) with kind := .array 9 .int, interfaces := #[5, 6], accessFlags := 1041 }

def heap : Heap := #[]
def classes : Array Class := #[k0, k1, k2, k3, k4, k5, k6, k7, k8, k9, k10]
def interned : List (Array UInt16 × Addr) := []
def slotsUsed : Nat := 0
def theMethod : MethodId := ⟨1, 1⟩
def args0 : Array Value := #[.int 5, .int 9, .int 9, .int 9, .int 9, .int 9]
def aboutOver (below : List Frame) : State where
  vm := { classes := classes, interned := interned.toArray }
  heap := heap
  slotsUsed := slotsUsed
  threads := #[{ frames := .invoking theMethod args0 :: below }]
def below0 : List Frame := [.native { method := ⟨0, 0⟩, args := #[] }]
def about1 : State := aboutOver below0
def p0 : Program := .bare "" "" ""
def e0 : Env := launch0.env 0 0 0
theorem w_frames : about1.frames = Frame.invoking theMethod args0 :: below0 := rfl
set_option maxRecDepth 65536 in
theorem w_args : argsFit about1.vm theMethod args0 = true := by decide +kernel
set_option maxRecDepth 65536 in
theorem w_heap : heapFits about1 = true := by decide +kernel
set_option maxRecDepth 65536 in
theorem w_runnable : about1.curStatus? = some .runnable := by decide +kernel
set_option maxRecDepth 65536 in
theorem w_alone : about1.alone = true := by decide +kernel
set_option maxRecDepth 65536 in
theorem w_named : about1.methodNamed? x = some theMethod := by decide +kernel
set_option maxRecDepth 65536 in
theorem w_hears : about1.hears theMethod below0 = true := by decide +kernel
set_option maxRecDepth 65536 in
theorem w_ripe : about1.ripe theMethod args0 below0 = true := by decide +kernel
theorem w_running : about1.status = .running := rfl
set_option maxRecDepth 65536 in
theorem w_room : about1.hasRoom e0.platform room_1 = true :=
  launch0.hasRoom_least _ room_1 (by decide +kernel) (by decide +kernel) (by decide +kernel) (by decide +kernel) (by decide +kernel) (by decide +kernel)
theorem allAtoms_all (ts : List Jvm.Cond) (a : Array Jvm.Value) (st : Jvm.State) : (allAtoms ts).before a st = ts.all (fun c => c.before a st) := by
  induction ts with
  | nil => rfl
  | cons c t ih =>
    show (Jvm.Cond.and c (allAtoms t)).before a st = _
    rw [Jvm.Cond.before_and, ih, List.all_cons]
def words1 : List Jvm.Cond := Jvm.Cond.code x code maxLocals ret :: tables_1
/-- a 'code' word, met by the world's own term for the bytes: nothing is compared byte by byte -/
theorem code_word {y : MethodName} {bytes : ByteArray} {mx : Nat} {rt : Option FieldType} {a : Array Value} {s : State} {m : MethodId} {meth : Method} {c : Code} (h1 : s.methodNamed? y = some m) (h2 : s.vm.method? m = some meth) (h3 : meth.code = some c) (h4 : c.code = bytes)
    (h5 : (c.maxLocals == mx && c.exceptionTable.isEmpty && decide (c.maxStack ≤ mostOperands) && decide (meth.sig.returnType = rt) && !meth.locks && decide (parseMethodDescriptor y.desc = some meth.sig)) = true) : (Jvm.Cond.code y bytes mx rt).before a s = true := by
  simp only [Bool.and_eq_true, beq_iff_eq, Bool.not_eq_true', decide_eq_true_eq] at h5
  obtain ⟨⟨⟨⟨⟨g1, g2⟩, g3⟩, g4⟩, g5⟩, g6⟩ := h5
  simp [Cond.before, Cond.holds, Cond.value, h1, h2, h3, h4, g1, g2, g3, g4, g5, g6]
def isCode : Jvm.Cond → Bool
  | .code _ _ _ _ => true
  | _ => false
theorem all_split {L : List Jvm.Cond} {P : Jvm.Cond → Bool} (h1 : L.all (fun c => isCode c || P c) = true) (h2 : ∀ c ∈ L.filter isCode, P c = true) : L.all P = true := by
  refine List.all_eq_true.mpr fun c hc => ?_
  have h := List.all_eq_true.mp h1 c hc
  rcases Bool.eq_false_or_eq_true (isCode c) with hi | hi
  · exact h2 c (List.mem_filter.mpr ⟨hc, hi⟩)
  · simpa [hi] using h
set_option maxRecDepth 65536 in
theorem w_c0 : (Jvm.Cond.code x code maxLocals ret).before args0 about1 = true := code_word (m := ⟨1, 1⟩) (meth := k1m1) (c := k1c1) (by decide +kernel) rfl rfl rfl (by decide +kernel)
set_option maxRecDepth 65536 in
theorem w_c1 : (Jvm.Cond.code ({ cls := "com/example/nonesuch/nonesuch/engine/GroundProgram$GroundAtom", name := "<init>", desc := "(IIIZ)V" } : Jvm.MethodName) prog_19_method_1_code (5 : Nat) (Option.none : Option Jvm.ClassFile.FieldType)).before args0 about1 = true := code_word (m := ⟨3, 0⟩) (meth := k3m0) (c := k3c0) (by decide +kernel) rfl rfl rfl (by decide +kernel)
set_option maxRecDepth 65536 in
theorem w_c2 : (Jvm.Cond.code ({ cls := "java/lang/Record", name := "<init>", desc := "()V" } : Jvm.MethodName) jdk_30_method_1_code (1 : Nat) (Option.none : Option Jvm.ClassFile.FieldType)).before args0 about1 = true := code_word (m := ⟨2, 0⟩) (meth := k2m0) (c := k2c0) (by decide +kernel) rfl rfl rfl (by decide +kernel)
set_option maxRecDepth 65536 in
theorem w_c3 : (Jvm.Cond.code ({ cls := "java/lang/Object", name := "<init>", desc := "()V" } : Jvm.MethodName) object_method_1_code (1 : Nat) (Option.none : Option Jvm.ClassFile.FieldType)).before args0 about1 = true := code_word (m := ⟨0, 0⟩) (meth := k0m0) (c := k0c0) (by decide +kernel) rfl rfl rfl (by decide +kernel)
set_option maxRecDepth 65536 in
theorem w_c4 : (Jvm.Cond.code ({ cls := "com/example/nonesuch/nonesuch/engine/AtomPattern", name := "<init>", desc := "(IIIZ)V" } : Jvm.MethodName) prog_3_method_1_code (5 : Nat) (Option.none : Option Jvm.ClassFile.FieldType)).before args0 about1 = true := code_word (m := ⟨4, 0⟩) (meth := k4m0) (c := k4c0) (by decide +kernel) rfl rfl rfl (by decide +kernel)
set_option maxRecDepth 65536 in
theorem w_c5 : (Jvm.Cond.code ({ cls := "com/example/nonesuch/nonesuch/engine/GroundProgram$GroundAtom", name := "equals", desc := "(Ljava/lang/Object;)Z" } : Jvm.MethodName) prog_19_method_4_code (3 : Nat) (Option.some Jvm.ClassFile.FieldType.boolean)).before args0 about1 = true := code_word (m := ⟨3, 1⟩) (meth := k3m1) (c := k3c1) (by decide +kernel) rfl rfl rfl (by decide +kernel)
def codes1 : List Jvm.Cond := [Jvm.Cond.code x code maxLocals ret, Jvm.Cond.code ({ cls := "com/example/nonesuch/nonesuch/engine/GroundProgram$GroundAtom", name := "<init>", desc := "(IIIZ)V" } : Jvm.MethodName) prog_19_method_1_code (5 : Nat) (Option.none : Option Jvm.ClassFile.FieldType), Jvm.Cond.code ({ cls := "java/lang/Record", name := "<init>", desc := "()V" } : Jvm.MethodName) jdk_30_method_1_code (1 : Nat) (Option.none : Option Jvm.ClassFile.FieldType), Jvm.Cond.code ({ cls := "java/lang/Object", name := "<init>", desc := "()V" } : Jvm.MethodName) object_method_1_code (1 : Nat) (Option.none : Option Jvm.ClassFile.FieldType), Jvm.Cond.code ({ cls := "com/example/nonesuch/nonesuch/engine/AtomPattern", name := "<init>", desc := "(IIIZ)V" } : Jvm.MethodName) prog_3_method_1_code (5 : Nat) (Option.none : Option Jvm.ClassFile.FieldType), Jvm.Cond.code ({ cls := "com/example/nonesuch/nonesuch/engine/GroundProgram$GroundAtom", name := "equals", desc := "(Ljava/lang/Object;)Z" } : Jvm.MethodName) prog_19_method_4_code (3 : Nat) (Option.some Jvm.ClassFile.FieldType.boolean)]
set_option maxRecDepth 65536 in
theorem codes_eq : words1.filter isCode = codes1 := rfl
theorem w_codes : ∀ c ∈ words1.filter isCode, c.before args0 about1 = true := by
  rw [codes_eq]
  intro c hc
  simp only [codes1, List.mem_cons, List.not_mem_nil, or_false] at hc
  rcases hc with rfl | rfl | rfl | rfl | rfl | rfl
  · exact w_c0
  · exact w_c1
  · exact w_c2
  · exact w_c3
  · exact w_c4
  · exact w_c5
set_option maxRecDepth 65536 in
theorem w_t1 : (words1.take 24).all (fun c => isCode c || c.before args0 about1) = true := by decide +kernel
set_option maxRecDepth 65536 in
theorem w_t2 : (words1.drop 24).all (fun c => isCode c || c.before args0 about1) = true := by decide +kernel
theorem w_tables : (allAtoms (Jvm.Cond.code x code maxLocals ret :: tables_1)).before args0 about1 = true := by
  rw [allAtoms_all]
  show words1.all (fun c => c.before args0 about1) = true
  refine all_split ?_ w_codes
  rw [← List.take_append_drop 24 words1, List.all_append, w_t1, w_t2]
  rfl
set_option maxRecDepth 65536 in
theorem w_case : (Jvm.Cond.and given_1 narrow_1).before args0 about1 = true := by decide +kernel
theorem w_applies : (headSpec (Jvm.Cond.code x code maxLocals ret :: tables_1) room_1).applies x e0.platform about1 = true :=
  (Spec.applies_iff w_frames).mpr ⟨w_running, w_runnable, w_alone, w_named, w_hears, w_ripe, w_room, w_tables⟩
theorem atStart : AtStart classFile x code maxLocals ret World_1 tables_1 room_1 Calls_1 rest_1 Pre_1 launch0 p0 e0 about1 theMethod args0 below0 :=
  ⟨lists_1, trivial, launch0.admits_env _ _ _, launch0.least_env, fairChoices_fair.cas, fairChoices_fair.clock, w_frames, w_args, w_heap, w_applies, trivial, trivial, w_case⟩
end start1
theorem witness_1 : WitnessClaimed_1 := ⟨start1.p0, start1.e0, start1.about1, start1.theMethod, start1.args0, start1.below0, start1.atStart⟩
end Jvm.Pilot.@@N@@

import JvmDerived
import JvmDerived.Pilot.@@N@@Statement
import JvmDerived.Pilot.@@N@@Code
set_option linter.unusedVariables false
set_option linter.unusedSimpArgs false
@@BLOCK:NumsL.lean.txt@@
@@BLOCK:Masks.lean.txt@@
namespace Jvm.RoadKit
open Sem ClassFile Op Lib Jvm.Stand Jvm.Free Jvm.LawKit
section New
variable {p : Program} {l : Launch} {e : Env} {R : Room} {s : State} {m : MethodId} {args : Array Value} {below : List Frame} {meth : Method} {c : Code} {T : State} {locs : List Loc} {cells slots : Nat}
theorem retI (X : Stand p l e R s m args below meth c T locs cells slots) (hx : p.tables.exec = Jvm.exec) {pc : Nat} {Ls : Array Slot} {z : Int32} {rest : List Value} (hret : meth.sig.returnType = some .int) (hd : decode c.code pc = .ok (.ireturn, 1)) {fs : List Frame}
    (hl : ∀ (f : JFrame) (acts : List Action), f.method = m → f.locked = none → f.entered = [] → (doReturn e (T.setTop f) acts (some (.int z))).1 = T.setFrames fs) : Steps p.tables e below (T.setTop (mkF m pc Ls (.int z :: rest))) (T.setFrames fs) := by
  have hm' : T.vm.method? m = some meth := X.method'
  have hn : narrow .int (.int z) = .int z := rfl
  show Steps p.tables e below (T.setTop { method := m, pc := pc, locals := Ls, stack := _ :: rest, locked := none }) _
  jvm_step X.here [X.here.top, hx, hd, hm', hret, hn]
  first | (intro acts; rw [hl _ acts rfl rfl rfl]) | rw [hl _ _ rfl rfl rfl]
  exact Steps.refl _
theorem retJ (X : Stand p l e R s m args below meth c T locs cells slots) (hx : p.tables.exec = Jvm.exec) {pc : Nat} {Ls : Array Slot} {z : Int64} {rest : List Value} (hret : meth.sig.returnType = some .long) (hd : decode c.code pc = .ok (.lreturn, 1)) {fs : List Frame}
    (hl : ∀ (f : JFrame) (acts : List Action), f.method = m → f.locked = none → f.entered = [] → (doReturn e (T.setTop f) acts (some (.long z))).1 = T.setFrames fs) : Steps p.tables e below (T.setTop (mkF m pc Ls (.long z :: rest))) (T.setFrames fs) := by
  have hm' : T.vm.method? m = some meth := X.method'
  have hn : narrow .long (.long z) = .long z := rfl
  show Steps p.tables e below (T.setTop { method := m, pc := pc, locals := Ls, stack := _ :: rest, locked := none }) _
  jvm_step X.here [X.here.top, hx, hd, hm', hret, hn]
  first | (intro acts; rw [hl _ acts rfl rfl rfl]) | rw [hl _ _ rfl rfl rfl]
  exact Steps.refl _
end New
theorem own_ite {α : Type} {P : Prop} [Decidable P] {f : α → Prop} {a b : α} (ha : f a) (hb : f b) : f (if P then a else b) := by split <;> assumption
theorem own_lc_eq {x y : Int64} : lcmpW x y = 0 ↔ x = y := by rw [lcW]; exact lc_eq x y
theorem own_lc_lt {x y : Int64} : lcmpW x y < 0 ↔ x < y := by rw [lcW]; exact lc_lt x y
theorem own_lc_gt {x y : Int64} : 0 < lcmpW x y ↔ y < x := by rw [lcW]; exact lc_gt x y
end Jvm.RoadKit
namespace Jvm.RoadKit
open Sem ClassFile Op Lib Jvm.Stand Jvm.Free Jvm.LawKit
section Own
variable {Z : State} {h h' : Heap} {a b : Addr} {ty : FieldType} {n j : Int32} {sl : Nat} {v : Value} {ws : List Addr} {α : Type} {mk : α → Value} {g : Nat → α} {w : α}
/-- an array: its kind, its length and, by a function, what it holds -/
def JV (mk : α → Value) (Z : State) (h : Heap) (a : Addr) (ty : FieldType) (n : Int32) (g : Nat → α) : Prop := ∃ c : Cell, Arr Z h a c ty ∧ c.slots.size = n.toNatClampNeg ∧ ¬ n < 0 ∧ ∀ i, i < c.slots.size → c.slots[i]? = some (mk (g i))
def updF (g : Nat → α) (k : Nat) (w : α) : Nat → α := fun i => if i = k then w else g i
theorem JV.lt (F : JV mk Z h a ty n g) : a < h.size := by obtain ⟨c, A, -⟩ := F; exact A.lt
theorem JV.ext (F : JV mk Z h a ty n g) (E : Ext h h') : JV mk Z h' a ty n g := by obtain ⟨c, A, r⟩ := F; exact ⟨c, A.ext E, r⟩
theorem JV.other (F : JV mk Z h b ty n g) (W : Wr h h' a sl v) (q : b ≠ a) : JV mk Z h' b ty n g := by obtain ⟨c, A, r⟩ := F; exact ⟨c, A.other W q, r⟩
theorem JV.keep (F : JV mk Z h a ty n g) (K : Keep h h' ws) (q : a ∉ ws) : JV mk Z h' a ty n g := by obtain ⟨c, A, r⟩ := F; exact ⟨c, ⟨K.2.1 a c A.1 q, A.2⟩, r⟩
theorem JV.new {k : ClassId} (A : Arr Z h a (newA k ty n) ty) (q : ¬ n < 0) (w : α) (hd : defaultValue ty = mk w) : JV mk Z h a ty n (fun _ => w) := by
  obtain ⟨c, A', -, S, N, H, -⟩ := Arv.new A q
  exact ⟨c, A', S, N, fun i hi => by rw [H i hi, hd]; rfl⟩
theorem JV.in (F : JV mk Z h a ty n g) (q : ¬ j < 0 ∧ j < n) : ∃ c : Cell, Arr Z h a c ty ∧ ¬ (j < 0 ∨ c.slots.size ≤ j.toNatClampNeg) ∧ c.slots[j.toNatClampNeg]? = some (mk (g j.toNatClampNeg)) := by
  obtain ⟨c, A, S, N, H⟩ := F
  have hin := inb_of S q
  exact ⟨c, A, hin, H _ (Nat.lt_of_not_le fun y => hin (Or.inr y))⟩
theorem JV.len (F : JV mk Z h a ty n g) : ∃ c : Cell, Arr Z h a c ty ∧ c.slots.size.toInt32 = n := by
  obtain ⟨c, A, S, N, H⟩ := F
  exact ⟨c, A, len_of S N⟩
theorem JV.nn (F : JV mk Z h a ty n g) : ¬ n < 0 := by obtain ⟨c, A, S, N, H⟩ := F; exact N
theorem JV.set (F : JV mk Z h a ty n g) (W : Wr h h' a j.toNatClampNeg (mk w)) : JV mk Z h' a ty n (updF g j.toNatClampNeg w) := by
  obtain ⟨c, A, S, N, H⟩ := F
  refine ⟨_, A.same W, ?_, N, ?_⟩
  · rw [← S]; simp [Cell.setSlot]
  · intro i hi
    have hi' : i < c.slots.size := by simpa [Cell.setSlot] using hi
    obtain ⟨cell, h1, -, h3, rfl⟩ := W
    cases A.1.symm.trans h1
    by_cases e : i = j.toNatClampNeg
    · subst e; simp [Cell.setSlot, updF, hi']
    · rw [show (c.setSlot j.toNatClampNeg (mk w)).slots[i]? = c.slots[i]? from by simp [Cell.setSlot, Array.getElem?_setIfInBounds, Ne.symm e], H i hi']
      simp [updF, e]
end Own
end Jvm.RoadKit
namespace Jvm.Pilot.@@N@@
open Jvm Jvm.ClassFile Sem Op Lib Jvm.Free Jvm.Stand Jvm.LawKit Jvm.RoadKit Bundle Jvm.Pilot.@@N@@.Jvm.D
def Lead (p : Program) (e : Env) (below : List Frame) (A B : State) : Prop := ∀ t, Steps p.tables e below B t → Steps p.tables e below A t
theorem d1_0 : decode jdk_29_method_65_code 0 = .ok (.iload_n 0, 1) := by decide +kernel
theorem d1_1 : decode jdk_29_method_65_code 1 = .ok (.iload_n 1, 1) := by decide +kernel
theorem d1_2 : decode jdk_29_method_65_code 2 = .ok (.if_icmp .lt 7, 3) := by decide +kernel
theorem d1_5 : decode jdk_29_method_65_code 5 = .ok (.iload_n 0, 1) := by decide +kernel
theorem d1_6 : decode jdk_29_method_65_code 6 = .ok (.goto 4, 3) := by decide +kernel
theorem d1_9 : decode jdk_29_method_65_code 9 = .ok (.iload_n 1, 1) := by decide +kernel
theorem d1_10 : decode jdk_29_method_65_code 10 = .ok (.ireturn, 1) := by decide +kernel
def F1 (p0 : Int32) (p1 : Int32) : Int32 := (if p0 < p1 then p1 else p0)
theorem ef_1 (m : MethodId) (p0 : Int32) (p1 : Int32) : entryFrame m #[(.int p0), (.int p1)] 2 = mkF m 0 #[.val (.int p0), .val (.int p1)] [] := by first | (simp [entryFrame, mkF, argsToLocals, Value.category]; done) | rfl
def Q1 (Z : State) (p0 : Int32) (p1 : Int32)  (h0 : Heap) (n0 : Nat) (v : Option Value) (h : Heap) (L : List Loc) : Prop := v = some (.int (F1 p0 p1)) ∧ Fr n0 L ∧ h = h0
set_option maxRecDepth 65536 in
set_option maxHeartbeats 40000000 in
theorem rm1 (l : Launch) (Z : State) (a0 : Array Value) (hw : ∀ d ∈ tables_1, d.before a0 Z = true) (ws : List Jvm.Cond) (p0 : Int32) (p1 : Int32)  (h0 : Heap) (n0 : Nat) (Z0 : n0 ≤ h0.size)  :
    MetFree l (⟨"java/lang/Math", "max", "(II)I"⟩ : MethodName) (head1 (Jvm.Cond.code (⟨"java/lang/Math", "max", "(II)I"⟩ : MethodName) jdk_29_method_65_code 2 (some .int) :: ws) ({ frames := 0, cells := 0, slots := 0, locals := 0 } : Room)) (fun a U => a = #[(.int p0), (.int p1)] ∧ Z.Warmed39 U.vm ∧ U.heap = h0) (fun _ _ _ _ _ => True) (fun _ U o U' => ∃ v L, o = .returned v ∧ Q1 Z p0 p1 h0 n0 v U'.heap L ∧ FrameEnd U o U' L ({ frames := 0, cells := 0, slots := 0, locals := 0 } : Room).cells ({ frames := 0, cells := 0, slots := 0, locals := 0 } : Room).slots) := by
  refine MetFree.of_bodySF (Jvm.Free.JP.mathPlain rfl (by decide +kernel)) hisR ?_
  intro p e s m args below meth c s₁ Bd hml0 hP hK
  obtain ⟨rfl, hZ, hh⟩ := hP
  have hx := Bd.exec
  have hby := Bd.bytes
  have hml : c.maxLocals = 2 := hml0
  have hown : s.vm.findClass "java/lang/Math" = some m.cls := findClass_of_methodNamed Bd.named
  have hnm := (name_of_methodNamed Bd.named Bd.method).1
  have X0 : Stand p l e ({ frames := 0, cells := 0, slots := 0, locals := 0 } : Room) s m #[(.int p0), (.int p1)] below meth c s₁ [] 0 0 := Stand.of_body Bd
  have e0 : s₁.heap = h0 := by rw [← hh, Bd.state]; rfl
  have N0 := Fr.nil n0
  have K0 : Keep h0 h0 [] := Keep.refl _ _
  obtain ⟨G, hG⟩ : ∃ z, z = s₁.setTop (entryFrame m #[(.int p0), (.int p1)] 2) := ⟨_, rfl⟩
  have pre0 : Lead p e below G (s₁.setTop (mkF m 0 #[.val (.int p0), .val (.int p1)] [])) := fun t k => by rw [hG]; exact castTop (ef_1 m p0 p1) k
  obtain ⟨fs, hr, hrun, hended, hW, hsame⟩ := X0.leave (v := some (.int (if p0 < p1 then p1 else p0))) (fun h => by rw [Bd.returns] at h; cases h)
  subst hG
  refine ⟨_, _, pre0 _ ?_, hrun, hended, _, _, rfl, ?_, ⟨_, rfl⟩, hW, hsame.mono (by decide) (by decide)⟩
  · show Steps p.tables e below (s₁.setTop (mkF m 0 #[.val (.int p0), .val (.int p1)] [])) _
    refine XS.iloadN X0.here hx rfl (hb hby d1_0) rfl ?_
    show Steps p.tables e below (s₁.setTop (mkF m 1 #[.val (.int p0), .val (.int p1)] [(.int p0)])) _
    refine XS.iloadN X0.here hx rfl (hb hby d1_1) rfl ?_
    show Steps p.tables e below (s₁.setTop (mkF m 2 #[.val (.int p0), .val (.int p1)] [(.int p1), (.int p0)])) _
    have j2 : ∀ t, Steps p.tables e below (s₁.setTop (mkF m 10 #[.val (.int p0), .val (.int p1)] [(.int (if p0 < p1 then p1 else p0))])) t → Steps p.tables e below (s₁.setTop (mkF m 2 #[.val (.int p0), .val (.int p1)] [(.int p1), (.int p0)])) t := fun t k => by
      by_cases hc2_1 : p0 < p1
      · simp only [if_pos hc2_1] at k
        refine XS.icmpYes X0.here hx rfl (pc0 := 2) (pc' := 9) rfl (hb hby d1_2) rfl (tlt hc2_1).1 (by decide) (by decide) ?_
        show Steps p.tables e below (s₁.setTop (mkF m 9 #[.val (.int p0), .val (.int p1)] [])) _
        refine XS.iloadN X0.here hx rfl (hb hby d1_9) rfl ?_
        show Steps p.tables e below (s₁.setTop (mkF m 10 #[.val (.int p0), .val (.int p1)] [(.int p1)])) _
        exact k
      · simp only [if_neg hc2_1] at k
        refine XS.icmpNo X0.here hx rfl (hb hby d1_2) rfl (flt hc2_1).1 ?_
        show Steps p.tables e below (s₁.setTop (mkF m 5 #[.val (.int p0), .val (.int p1)] [])) _
        refine XS.iloadN X0.here hx rfl (hb hby d1_5) rfl ?_
        show Steps p.tables e below (s₁.setTop (mkF m 6 #[.val (.int p0), .val (.int p1)] [(.int p0)])) _
        refine XS.goto X0.here hx rfl (pc0 := 6) (pc' := 10) rfl (hb hby d1_6) (by decide) (by decide) ?_
        show Steps p.tables e below (s₁.setTop (mkF m 10 #[.val (.int p0), .val (.int p1)] [(.int p0)])) _
        exact k
    refine j2 _ ?_
    show Steps p.tables e below (s₁.setTop (mkF m 10 #[.val (.int p0), .val (.int p1)] [(.int (if p0 < p1 then p1 else p0))])) _
    exact retI X0 hx Bd.returns (hb hby d1_10) hr
  · show Q1 Z p0 p1 h0 n0 _ s₁.heap _
    rw [e0]
    have hv_ : (if p0 < p1 then p1 else p0) = F1 p0 p1 := by
      skip
      rfl
    exact ⟨congrArg (fun z => some (Value.int z)) hv_, N0, rfl⟩
theorem d3_0 : decode jdk_30_method_1_code 0 = .ok (.aload_n 0, 1) := by decide +kernel
theorem d3_1 : decode jdk_30_method_1_code 1 = .ok (.invokespecial 1, 3) := by decide +kernel
theorem d3_4 : decode jdk_30_method_1_code 4 = .ok (.return_, 1) := by decide +kernel
theorem pn_java_lang_Record : plainName "java/lang/Record" = true := by first | (simp [plainName, overriddenIn]; done) | decide +kernel
theorem ef_3 (m : MethodId) (o0 : Addr) : entryFrame m #[(.ref o0)] 1 = mkF m 0 #[.val (.ref o0)] [] := by first | (simp [entryFrame, mkF, argsToLocals, Value.category]; done) | rfl
def Q3 (Z : State) (o0 : Addr)  (h0 : Heap) (n0 : Nat) (v : Option Value) (h : Heap) (L : List Loc) : Prop := v = none ∧ Fr n0 L ∧ h = h0
set_option maxRecDepth 65536 in
set_option maxHeartbeats 40000000 in
theorem rm3 (l : Launch) (Z : State) (a0 : Array Value) (hw : ∀ d ∈ tables_1, d.before a0 Z = true) (ws : List Jvm.Cond) (o0 : Addr)  (h0 : Heap) (n0 : Nat) (Z0 : n0 ≤ h0.size)  :
    MetFree l (⟨"java/lang/Record", "<init>", "()V"⟩ : MethodName) (head1 (Jvm.Cond.code (⟨"java/lang/Record", "<init>", "()V"⟩ : MethodName) jdk_30_method_1_code 1 none :: ws) ({ frames := 1, cells := 0, slots := 0, locals := 12 } : Room)) (fun a U => a = #[(.ref o0)] ∧ Z.Warmed39 U.vm ∧ U.heap = h0) (fun _ _ _ _ _ => True) (fun _ U o U' => ∃ v L, o = .returned v ∧ Q3 Z o0 h0 n0 v U'.heap L ∧ FrameEnd U o U' L ({ frames := 1, cells := 0, slots := 0, locals := 12 } : Room).cells ({ frames := 1, cells := 0, slots := 0, locals := 12 } : Room).slots) := by
  refine MetFree.of_bodySF (plainFor_of_name pn_java_lang_Record) hisR ?_
  intro p e s m args below meth c s₁ Bd hml0 hP hK
  obtain ⟨rfl, hZ, hh⟩ := hP
  have hx := Bd.exec
  have hby := Bd.bytes
  have hml : c.maxLocals = 1 := hml0
  have hown : s.vm.findClass "java/lang/Record" = some m.cls := findClass_of_methodNamed Bd.named
  have hnm := (name_of_methodNamed Bd.named Bd.method).1
  have X0 : Stand p l e ({ frames := 1, cells := 0, slots := 0, locals := 12 } : Room) s m #[(.ref o0)] below meth c s₁ [] 0 0 := Stand.of_body Bd
  have e0 : s₁.heap = h0 := by rw [← hh, Bd.state]; rfl
  have N0 := Fr.nil n0
  have K0 : Keep h0 h0 [] := Keep.refl _ _
  obtain ⟨G, hG⟩ : ∃ z, z = s₁.setTop (entryFrame m #[(.ref o0)] 1) := ⟨_, rfl⟩
  have pre0 : Lead p e below G (s₁.setTop (mkF m 0 #[.val (.ref o0)] [])) := fun t k => by rw [hG]; exact castTop (ef_3 m o0) k
  have pre1 : Lead p e below G (s₁.setTop (mkF m 1 #[.val (.ref o0)] [(.ref o0)])) := fun t k => by
    refine pre0 t ?_
    show Steps p.tables e below (s₁.setTop (mkF m 0 #[.val (.ref o0)] [])) _
    refine XS.aloadN X0.here hx rfl (hb hby d3_0) rfl rfl ?_
    show Steps p.tables e below (s₁.setTop (mkF m 1 #[.val (.ref o0)] [(.ref o0)])) _
    exact k
  obtain ⟨T2, X2, e2, st2⟩ := initO X0 hx hZ hown (hw _ (List.mem_of_getElem? (i := 17) rfl)) (hw _ (List.mem_of_getElem? (i := 18) rfl)) (hw _ (List.mem_of_getElem? (i := 19) rfl)) e0 (g := (mkF m 1 #[.val (.ref o0)] [(.ref o0)])) rfl (by rw [hml]; rfl) rfl (hb hby d3_1) (by decide) (W := 0) (by show 2 * 0 + _ ≤ _; exact Nat.le_of_eq rfl) (by decide)
  have pre2 : Lead p e below G (T2.setTop (mkF m 4 #[.val (.ref o0)] [])) := fun t k => pre1 t (st2 _ k)
  obtain ⟨fs, hr, hrun, hended, hW, hsame⟩ := X2.leave (v := none) (fun _ => rfl)
  subst hG
  refine ⟨_, _, pre2 _ ?_, hrun, hended, _, _, rfl, ?_, ⟨_, rfl⟩, hW, hsame.mono (by decide) (by decide)⟩
  · show Steps p.tables e below (T2.setTop (mkF m 4 #[.val (.ref o0)] [])) _
    exact X2.returnOut hx Bd.returns (hb hby d3_4) hr
  · show Q3 Z o0 h0 n0 _ T2.heap _
    rw [e2]
    exact ⟨rfl, N0, rfl⟩
theorem pd__28__29_V : parseMethodDescriptor "()V" = some ⟨[], none⟩ := by decide +kernel
theorem d2_0 : decode prog_19_method_1_code 0 = .ok (.aload_n 0, 1) := by decide +kernel
theorem d2_1 : decode prog_19_method_1_code 1 = .ok (.invokespecial 1, 3) := by decide +kernel
theorem d2_4 : decode prog_19_method_1_code 4 = .ok (.aload_n 0, 1) := by decide +kernel
theorem d2_5 : decode prog_19_method_1_code 5 = .ok (.iload_n 1, 1) := by decide +kernel
theorem d2_6 : decode prog_19_method_1_code 6 = .ok (.putfield 7, 3) := by decide +kernel
theorem d2_9 : decode prog_19_method_1_code 9 = .ok (.aload_n 0, 1) := by decide +kernel
theorem d2_10 : decode prog_19_method_1_code 10 = .ok (.iload_n 2, 1) := by decide +kernel
theorem d2_11 : decode prog_19_method_1_code 11 = .ok (.putfield 13, 3) := by decide +kernel
theorem d2_14 : decode prog_19_method_1_code 14 = .ok (.aload_n 0, 1) := by decide +kernel
theorem d2_15 : decode prog_19_method_1_code 15 = .ok (.iload_n 3, 1) := by decide +kernel
theorem d2_16 : decode prog_19_method_1_code 16 = .ok (.putfield 16, 3) := by decide +kernel
theorem d2_19 : decode prog_19_method_1_code 19 = .ok (.aload_n 0, 1) := by decide +kernel
theorem d2_20 : decode prog_19_method_1_code 20 = .ok (.iload 4, 2) := by decide +kernel
theorem d2_22 : decode prog_19_method_1_code 22 = .ok (.putfield 19, 3) := by decide +kernel
theorem d2_25 : decode prog_19_method_1_code 25 = .ok (.aload_n 0, 1) := by decide +kernel
theorem d2_26 : decode prog_19_method_1_code 26 = .ok (.iload 5, 2) := by decide +kernel
theorem d2_28 : decode prog_19_method_1_code 28 = .ok (.putfield 22, 3) := by decide +kernel
theorem d2_31 : decode prog_19_method_1_code 31 = .ok (.aload_n 0, 1) := by decide +kernel
theorem d2_32 : decode prog_19_method_1_code 32 = .ok (.aload 6, 2) := by decide +kernel
theorem d2_34 : decode prog_19_method_1_code 34 = .ok (.putfield 25, 3) := by decide +kernel
theorem d2_37 : decode prog_19_method_1_code 37 = .ok (.return_, 1) := by decide +kernel
theorem pn_com_example_quintet_quintet_card_CommandApdu : plainName "com/example/quintet/quintet/card/CommandApdu" = true := by first | (simp [plainName, overriddenIn]; done) | decide +kernel
theorem ef_2 (m : MethodId) (o0 : Addr) (p1 : Int32) (p2 : Int32) (p3 : Int32) (p4 : Int32) (p5 : Int32) (o6 : Addr) : entryFrame m #[(.ref o0), (.int p1), (.int p2), (.int p3), (.int p4), (.int p5), (.ref o6)] 7 = mkF m 0 #[.val (.ref o0), .val (.int p1), .val (.int p2), .val (.int p3), .val (.int p4), .val (.int p5), .val (.ref o6)] [] := by first | (simp [entryFrame, mkF, argsToLocals, Value.category]; done) | rfl
def Q2 (Z : State) (o0 : Addr) (p1 : Int32) (p2 : Int32) (p3 : Int32) (p4 : Int32) (p5 : Int32) (o6 : Addr)  (h0 : Heap) (n0 : Nat) (v : Option Value) (h : Heap) (L : List Loc) : Prop := v = none ∧ Fr n0 L ∧ Keep h0 h [o0] ∧ Exa Z h o0 "com/example/quintet/quintet/card/CommandApdu" ∧ Fld Z h o0 "com/example/quintet/quintet/card/CommandApdu" "p3" "I" (.int p5) ∧ Fld Z h o0 "com/example/quintet/quintet/card/CommandApdu" "data" "[B" (.ref o6)
set_option maxRecDepth 65536 in
set_option maxHeartbeats 40000000 in
theorem rm2 (l : Launch) (Z : State) (a0 : Array Value) (hw : ∀ d ∈ tables_1, d.before a0 Z = true) (ws : List Jvm.Cond) (o0 : Addr) (p1 : Int32) (p2 : Int32) (p3 : Int32) (p4 : Int32) (p5 : Int32) (o6 : Addr)  (h0 : Heap) (n0 : Nat) (Z0 : n0 ≤ h0.size) (P0_E : Exa Z h0 o0 "com/example/quintet/quintet/card/CommandApdu") (P1_G : n0 ≤ o0) (P2_F : Fld Z h0 o0 "com/example/quintet/quintet/card/CommandApdu" "cla" "I" (.int (0 : Int32))) (P3_F : Fld Z h0 o0 "com/example/quintet/quintet/card/CommandApdu" "ins" "I" (.int (0 : Int32))) (P4_F : Fld Z h0 o0 "com/example/quintet/quintet/card/CommandApdu" "p1" "I" (.int (0 : Int32))) (P5_F : Fld Z h0 o0 "com/example/quintet/quintet/card/CommandApdu" "p2" "I" (.int (0 : Int32))) (P6_F : Fld Z h0 o0 "com/example/quintet/quintet/card/CommandApdu" "p3" "I" (.int (0 : Int32))) (P7_F : Fld Z h0 o0 "com/example/quintet/quintet/card/CommandApdu" "data" "[B" .null) :
    MetFree l (⟨"com/example/quintet/quintet/card/CommandApdu", "<init>", "(IIIII[B)V"⟩ : MethodName) (head1 (Jvm.Cond.code (⟨"com/example/quintet/quintet/card/CommandApdu", "<init>", "(IIIII[B)V"⟩ : MethodName) prog_19_method_1_code 7 none :: ws) ({ frames := 2, cells := 0, slots := 0, locals := 24 } : Room)) (fun a U => a = #[(.ref o0), (.int p1), (.int p2), (.int p3), (.int p4), (.int p5), (.ref o6)] ∧ Z.Warmed39 U.vm ∧ U.heap = h0) (fun _ _ _ _ _ => True) (fun _ U o U' => ∃ v L, o = .returned v ∧ Q2 Z o0 p1 p2 p3 p4 p5 o6 h0 n0 v U'.heap L ∧ FrameEnd U o U' L ({ frames := 2, cells := 0, slots := 0, locals := 24 } : Room).cells ({ frames := 2, cells := 0, slots := 0, locals := 24 } : Room).slots) := by
  refine MetFree.of_bodySF (plainFor_of_name pn_com_example_quintet_quintet_card_CommandApdu) hisR ?_
  intro p e s m args below meth c s₁ Bd hml0 hP hK
  obtain ⟨rfl, hZ, hh⟩ := hP
  have hx := Bd.exec
  have hby := Bd.bytes
  have hml : c.maxLocals = 7 := hml0
  have hown : s.vm.findClass "com/example/quintet/quintet/card/CommandApdu" = some m.cls := findClass_of_methodNamed Bd.named
  have hnm := (name_of_methodNamed Bd.named Bd.method).1
  have X0 : Stand p l e ({ frames := 2, cells := 0, slots := 0, locals := 24 } : Room) s m #[(.ref o0), (.int p1), (.int p2), (.int p3), (.int p4), (.int p5), (.ref o6)] below meth c s₁ [] 0 0 := Stand.of_body Bd
  have e0 : s₁.heap = h0 := by rw [← hh, Bd.state]; rfl
  have N0 := Fr.nil n0
  have K0 : Keep h0 h0 [o0] := Keep.refl _ _
  obtain ⟨G, hG⟩ : ∃ z, z = s₁.setTop (entryFrame m #[(.ref o0), (.int p1), (.int p2), (.int p3), (.int p4), (.int p5), (.ref o6)] 7) := ⟨_, rfl⟩
  have pre0 : Lead p e below G (s₁.setTop (mkF m 0 #[.val (.ref o0), .val (.int p1), .val (.int p2), .val (.int p3), .val (.int p4), .val (.int p5), .val (.ref o6)] [])) := fun t k => by rw [hG]; exact castTop (ef_2 m o0 p1 p2 p3 p4 p5 o6) k
  have pre1 : Lead p e below G (s₁.setTop (mkF m 1 #[.val (.ref o0), .val (.int p1), .val (.int p2), .val (.int p3), .val (.int p4), .val (.int p5), .val (.ref o6)] [(.ref o0)])) := fun t k => by
    refine pre0 t ?_
    show Steps p.tables e below (s₁.setTop (mkF m 0 #[.val (.ref o0), .val (.int p1), .val (.int p2), .val (.int p3), .val (.int p4), .val (.int p5), .val (.ref o6)] [])) _
    refine XS.aloadN X0.here hx rfl (hb hby d2_0) rfl rfl ?_
    show Steps p.tables e below (s₁.setTop (mkF m 1 #[.val (.ref o0), .val (.int p1), .val (.int p2), .val (.int p3), .val (.int p4), .val (.int p5), .val (.ref o6)] [(.ref o0)])) _
    exact k
  obtain ⟨_, _, ⟨T2, L2, k2, n2⟩, -, X2, ⟨Lc2, hQ2, l2, y2, z2⟩, st2⟩ := X0.specialBack hx (y := (⟨"java/lang/Record", "<init>", "()V"⟩ : MethodName)) rfl hown (mvT hZ (hw _ (List.mem_of_getElem? (i := 12) rfl))) (mvT hZ (hw _ (List.mem_of_getElem? (i := 13) rfl))) (mvT hZ (hw _ (List.mem_of_getElem? (i := 16) rfl))) (by decide) (backOf (W := 0) (rm3 l Z a0 hw [] o0  h0 n0 (Nat.le_trans Z0 K0.1) ) hZ (hw _ (List.mem_of_getElem? (i := 16) rfl)) (hw _ (List.mem_of_getElem? (i := 15) rfl)) (by decide) (by decide)) (g := (mkF m 1 #[.val (.ref o0), .val (.int p1), .val (.int p2), .val (.int p3), .val (.int p4), .val (.int p5), .val (.ref o6)] [(.ref o0)])) rfl (by rw [hml]; rfl) (Steps.refl _) (a := o0) (argsL := []) (rest := []) (lenOf pd__28__29_V rfl) rfl (by show 2 * 0 + _ ≤ _; exact Nat.le_of_eq rfl) (hb hby d2_1) (fun _ _ => ⟨rfl, e0, (by decide : 0 + 0 ≤ _), (by decide : 0 + 0 ≤ _)⟩)
  dsimp only [Pt.U, Pt.locs, Pt.cells, Pt.slots] at X2 l2 y2 z2 st2 hQ2
  subst l2 y2 z2
  obtain ⟨rfl, N2q, e2⟩ := hQ2
  have N2 := Fr.app N0 N2q
  have pre2 : Lead p e below G (T2.setTop (mkF m 4 #[.val (.ref o0), .val (.int p1), .val (.int p2), .val (.int p3), .val (.int p4), .val (.int p5), .val (.ref o6)] [])) := fun t k => pre1 t (st2.trans k)
  have pre3 : Lead p e below G (T2.setTop (mkF m 6 #[.val (.ref o0), .val (.int p1), .val (.int p2), .val (.int p3), .val (.int p4), .val (.int p5), .val (.ref o6)] [(.int p1), (.ref o0)])) := fun t k => by
    refine pre2 t ?_
    show Steps p.tables e below (T2.setTop (mkF m 4 #[.val (.ref o0), .val (.int p1), .val (.int p2), .val (.int p3), .val (.int p4), .val (.int p5), .val (.ref o6)] [])) _
    refine XS.aloadN X2.here hx rfl (hb hby d2_4) rfl rfl ?_
    show Steps p.tables e below (T2.setTop (mkF m 5 #[.val (.ref o0), .val (.int p1), .val (.int p2), .val (.int p3), .val (.int p4), .val (.int p5), .val (.ref o6)] [(.ref o0)])) _
    refine XS.iloadN X2.here hx rfl (hb hby d2_5) rfl ?_
    show Steps p.tables e below (T2.setTop (mkF m 6 #[.val (.ref o0), .val (.int p1), .val (.int p2), .val (.int p3), .val (.int p4), .val (.int p5), .val (.ref o6)] [(.int p1), (.ref o0)])) _
    exact k
  obtain ⟨T4, h4, X4, e4, W4, st4⟩ := putF X2 hx hZ hown (host := "") (Or.inl (hw _ (List.mem_of_getElem? (i := 20) rfl))) Via.refl e2 P2_F P0_E (Or.inr ⟨(hw _ (List.mem_of_getElem? (i := 21) rfl)), rfl, hnm⟩) (hw _ (List.mem_of_getElem? (i := 7) rfl)) (ty := .int) (by decide) rfl rfl (g := (mkF m 6 #[.val (.ref o0), .val (.int p1), .val (.int p2), .val (.int p3), .val (.int p4), .val (.int p5), .val (.ref o6)] [(.int p1), (.ref o0)])) rfl rfl (hb hby d2_6)
  have N4 := Fr.snoc X4 N2 P1_G
  have K4 : Keep h0 h4 [o0] := K0.wr W4 (Or.inl (List.mem_of_getElem? (i := 0) rfl))
  have Fw4 : Fld Z h4 o0 "com/example/quintet/quintet/card/CommandApdu" "cla" "I" (.int p1) := P2_F.same W4
  have pre4 : Lead p e below G (T4.setTop (mkF m 9 #[.val (.ref o0), .val (.int p1), .val (.int p2), .val (.int p3), .val (.int p4), .val (.int p5), .val (.ref o6)] [])) := fun t k => pre3 t (st4 _ k)
  have pre5 : Lead p e below G (T4.setTop (mkF m 11 #[.val (.ref o0), .val (.int p1), .val (.int p2), .val (.int p3), .val (.int p4), .val (.int p5), .val (.ref o6)] [(.int p2), (.ref o0)])) := fun t k => by
    refine pre4 t ?_
    show Steps p.tables e below (T4.setTop (mkF m 9 #[.val (.ref o0), .val (.int p1), .val (.int p2), .val (.int p3), .val (.int p4), .val (.int p5), .val (.ref o6)] [])) _
    refine XS.aloadN X4.here hx rfl (hb hby d2_9) rfl rfl ?_
    show Steps p.tables e below (T4.setTop (mkF m 10 #[.val (.ref o0), .val (.int p1), .val (.int p2), .val (.int p3), .val (.int p4), .val (.int p5), .val (.ref o6)] [(.ref o0)])) _
    refine XS.iloadN X4.here hx rfl (hb hby d2_10) rfl ?_
    show Steps p.tables e below (T4.setTop (mkF m 11 #[.val (.ref o0), .val (.int p1), .val (.int p2), .val (.int p3), .val (.int p4), .val (.int p5), .val (.ref o6)] [(.int p2), (.ref o0)])) _
    exact k
  have f7 : Fld Z h4 o0 "com/example/quintet/quintet/card/CommandApdu" "ins" "I" (.int (0 : Int32)) := (P3_F.other W4 (Or.inr (slot_ne (Or.inr (hw _ (List.mem_of_getElem? (i := 23) rfl))) (Or.inr (hw _ (List.mem_of_getElem? (i := 21) rfl))) (by decide) (t := .int) (t' := .int) (by decide) (by decide))))
  have f8 : Exa Z h4 o0 "com/example/quintet/quintet/card/CommandApdu" := (P0_E.wr W4)
  obtain ⟨T6, h6, X6, e6, W6, st6⟩ := putF X4 hx hZ hown (host := "") (Or.inl (hw _ (List.mem_of_getElem? (i := 22) rfl))) Via.refl e4 f7 f8 (Or.inr ⟨(hw _ (List.mem_of_getElem? (i := 23) rfl)), rfl, hnm⟩) (hw _ (List.mem_of_getElem? (i := 7) rfl)) (ty := .int) (by decide) rfl rfl (g := (mkF m 11 #[.val (.ref o0), .val (.int p1), .val (.int p2), .val (.int p3), .val (.int p4), .val (.int p5), .val (.ref o6)] [(.int p2), (.ref o0)])) rfl rfl (hb hby d2_11)
  have N6 := Fr.snoc X6 N4 P1_G
  have K6 : Keep h0 h6 [o0] := K4.wr W6 (Or.inl (List.mem_of_getElem? (i := 0) rfl))
  have Fw6 : Fld Z h6 o0 "com/example/quintet/quintet/card/CommandApdu" "ins" "I" (.int p2) := f7.same W6
  have pre6 : Lead p e below G (T6.setTop (mkF m 14 #[.val (.ref o0), .val (.int p1), .val (.int p2), .val (.int p3), .val (.int p4), .val (.int p5), .val (.ref o6)] [])) := fun t k => pre5 t (st6 _ k)
  have pre9 : Lead p e below G (T6.setTop (mkF m 16 #[.val (.ref o0), .val (.int p1), .val (.int p2), .val (.int p3), .val (.int p4), .val (.int p5), .val (.ref o6)] [(.int p3), (.ref o0)])) := fun t k => by
    refine pre6 t ?_
    show Steps p.tables e below (T6.setTop (mkF m 14 #[.val (.ref o0), .val (.int p1), .val (.int p2), .val (.int p3), .val (.int p4), .val (.int p5), .val (.ref o6)] [])) _
    refine XS.aloadN X6.here hx rfl (hb hby d2_14) rfl rfl ?_
    show Steps p.tables e below (T6.setTop (mkF m 15 #[.val (.ref o0), .val (.int p1), .val (.int p2), .val (.int p3), .val (.int p4), .val (.int p5), .val (.ref o6)] [(.ref o0)])) _
    refine XS.iloadN X6.here hx rfl (hb hby d2_15) rfl ?_
    show Steps p.tables e below (T6.setTop (mkF m 16 #[.val (.ref o0), .val (.int p1), .val (.int p2), .val (.int p3), .val (.int p4), .val (.int p5), .val (.ref o6)] [(.int p3), (.ref o0)])) _
    exact k
  have f11 : Fld Z h6 o0 "com/example/quintet/quintet/card/CommandApdu" "p1" "I" (.int (0 : Int32)) := ((P4_F.other W4 (Or.inr (slot_ne (Or.inr (hw _ (List.mem_of_getElem? (i := 25) rfl))) (Or.inr (hw _ (List.mem_of_getElem? (i := 21) rfl))) (by decide) (t := .int) (t' := .int) (by decide) (by decide)))).other W6 (Or.inr (slot_ne (Or.inr (hw _ (List.mem_of_getElem? (i := 25) rfl))) (Or.inr (hw _ (List.mem_of_getElem? (i := 23) rfl))) (by decide) (t := .int) (t' := .int) (by decide) (by decide))))
  have f12 : Exa Z h6 o0 "com/example/quintet/quintet/card/CommandApdu" := (f8.wr W6)
  obtain ⟨T10, h10, X10, e10, W10, st10⟩ := putF X6 hx hZ hown (host := "") (Or.inl (hw _ (List.mem_of_getElem? (i := 24) rfl))) Via.refl e6 f11 f12 (Or.inr ⟨(hw _ (List.mem_of_getElem? (i := 25) rfl)), rfl, hnm⟩) (hw _ (List.mem_of_getElem? (i := 7) rfl)) (ty := .int) (by decide) rfl rfl (g := (mkF m 16 #[.val (.ref o0), .val (.int p1), .val (.int p2), .val (.int p3), .val (.int p4), .val (.int p5), .val (.ref o6)] [(.int p3), (.ref o0)])) rfl rfl (hb hby d2_16)
  have N10 := Fr.snoc X10 N6 P1_G
  have K10 : Keep h0 h10 [o0] := K6.wr W10 (Or.inl (List.mem_of_getElem? (i := 0) rfl))
  have Fw10 : Fld Z h10 o0 "com/example/quintet/quintet/card/CommandApdu" "p1" "I" (.int p3) := f11.same W10
  have pre10 : Lead p e below G (T10.setTop (mkF m 19 #[.val (.ref o0), .val (.int p1), .val (.int p2), .val (.int p3), .val (.int p4), .val (.int p5), .val (.ref o6)] [])) := fun t k => pre9 t (st10 _ k)
  have pre13 : Lead p e below G (T10.setTop (mkF m 22 #[.val (.ref o0), .val (.int p1), .val (.int p2), .val (.int p3), .val (.int p4), .val (.int p5), .val (.ref o6)] [(.int p4), (.ref o0)])) := fun t k => by
    refine pre10 t ?_
    show Steps p.tables e below (T10.setTop (mkF m 19 #[.val (.ref o0), .val (.int p1), .val (.int p2), .val (.int p3), .val (.int p4), .val (.int p5), .val (.ref o6)] [])) _
    refine XS.aloadN X10.here hx rfl (hb hby d2_19) rfl rfl ?_
    show Steps p.tables e below (T10.setTop (mkF m 20 #[.val (.ref o0), .val (.int p1), .val (.int p2), .val (.int p3), .val (.int p4), .val (.int p5), .val (.ref o6)] [(.ref o0)])) _
    refine XS.iload X10.here hx rfl (hb hby d2_20) rfl ?_
    show Steps p.tables e below (T10.setTop (mkF m 22 #[.val (.ref o0), .val (.int p1), .val (.int p2), .val (.int p3), .val (.int p4), .val (.int p5), .val (.ref o6)] [(.int p4), (.ref o0)])) _
    exact k
  have f15 : Fld Z h10 o0 "com/example/quintet/quintet/card/CommandApdu" "p2" "I" (.int (0 : Int32)) := (((P5_F.other W4 (Or.inr (slot_ne (Or.inr (hw _ (List.mem_of_getElem? (i := 27) rfl))) (Or.inr (hw _ (List.mem_of_getElem? (i := 21) rfl))) (by decide) (t := .int) (t' := .int) (by decide) (by decide)))).other W6 (Or.inr (slot_ne (Or.inr (hw _ (List.mem_of_getElem? (i := 27) rfl))) (Or.inr (hw _ (List.mem_of_getElem? (i := 23) rfl))) (by decide) (t := .int) (t' := .int) (by decide) (by decide)))).other W10 (Or.inr (slot_ne (Or.inr (hw _ (List.mem_of_getElem? (i := 27) rfl))) (Or.inr (hw _ (List.mem_of_getElem? (i := 25) rfl))) (by decide) (t := .int) (t' := .int) (by decide) (by decide))))
  have f16 : Exa Z h10 o0 "com/example/quintet/quintet/card/CommandApdu" := (f12.wr W10)
  obtain ⟨T14, h14, X14, e14, W14, st14⟩ := putF X10 hx hZ hown (host := "") (Or.inl (hw _ (List.mem_of_getElem? (i := 26) rfl))) Via.refl e10 f15 f16 (Or.inr ⟨(hw _ (List.mem_of_getElem? (i := 27) rfl)), rfl, hnm⟩) (hw _ (List.mem_of_getElem? (i := 7) rfl)) (ty := .int) (by decide) rfl rfl (g := (mkF m 22 #[.val (.ref o0), .val (.int p1), .val (.int p2), .val (.int p3), .val (.int p4), .val (.int p5), .val (.ref o6)] [(.int p4), (.ref o0)])) rfl rfl (hb hby d2_22)
  have N14 := Fr.snoc X14 N10 P1_G
  have K14 : Keep h0 h14 [o0] := K10.wr W14 (Or.inl (List.mem_of_getElem? (i := 0) rfl))
  have Fw14 : Fld Z h14 o0 "com/example/quintet/quintet/card/CommandApdu" "p2" "I" (.int p4) := f15.same W14
  have pre14 : Lead p e below G (T14.setTop (mkF m 25 #[.val (.ref o0), .val (.int p1), .val (.int p2), .val (.int p3), .val (.int p4), .val (.int p5), .val (.ref o6)] [])) := fun t k => pre13 t (st14 _ k)
  have pre17 : Lead p e below G (T14.setTop (mkF m 28 #[.val (.ref o0), .val (.int p1), .val (.int p2), .val (.int p3), .val (.int p4), .val (.int p5), .val (.ref o6)] [(.int p5), (.ref o0)])) := fun t k => by
    refine pre14 t ?_
    show Steps p.tables e below (T14.setTop (mkF m 25 #[.val (.ref o0), .val (.int p1), .val (.int p2), .val (.int p3), .val (.int p4), .val (.int p5), .val (.ref o6)] [])) _
    refine XS.aloadN X14.here hx rfl (hb hby d2_25) rfl rfl ?_
    show Steps p.tables e below (T14.setTop (mkF m 26 #[.val (.ref o0), .val (.int p1), .val (.int p2), .val (.int p3), .val (.int p4), .val (.int p5), .val (.ref o6)] [(.ref o0)])) _
    refine XS.iload X14.here hx rfl (hb hby d2_26) rfl ?_
    show Steps p.tables e below (T14.setTop (mkF m 28 #[.val (.ref o0), .val (.int p1), .val (.int p2), .val (.int p3), .val (.int p4), .val (.int p5), .val (.ref o6)] [(.int p5), (.ref o0)])) _
    exact k
  have f19 : Fld Z h14 o0 "com/example/quintet/quintet/card/CommandApdu" "p3" "I" (.int (0 : Int32)) := ((((P6_F.other W4 (Or.inr (slot_ne (Or.inr (hw _ (List.mem_of_getElem? (i := 29) rfl))) (Or.inr (hw _ (List.mem_of_getElem? (i := 21) rfl))) (by decide) (t := .int) (t' := .int) (by decide) (by decide)))).other W6 (Or.inr (slot_ne (Or.inr (hw _ (List.mem_of_getElem? (i := 29) rfl))) (Or.inr (hw _ (List.mem_of_getElem? (i := 23) rfl))) (by decide) (t := .int) (t' := .int) (by decide) (by decide)))).other W10 (Or.inr (slot_ne (Or.inr (hw _ (List.mem_of_getElem? (i := 29) rfl))) (Or.inr (hw _ (List.mem_of_getElem? (i := 25) rfl))) (by decide) (t := .int) (t' := .int) (by decide) (by decide)))).other W14 (Or.inr (slot_ne (Or.inr (hw _ (List.mem_of_getElem? (i := 29) rfl))) (Or.inr (hw _ (List.mem_of_getElem? (i := 27) rfl))) (by decide) (t := .int) (t' := .int) (by decide) (by decide))))
  have f20 : Exa Z h14 o0 "com/example/quintet/quintet/card/CommandApdu" := (f16.wr W14)
  obtain ⟨T18, h18, X18, e18, W18, st18⟩ := putF X14 hx hZ hown (host := "") (Or.inl (hw _ (List.mem_of_getElem? (i := 28) rfl))) Via.refl e14 f19 f20 (Or.inr ⟨(hw _ (List.mem_of_getElem? (i := 29) rfl)), rfl, hnm⟩) (hw _ (List.mem_of_getElem? (i := 7) rfl)) (ty := .int) (by decide) rfl rfl (g := (mkF m 28 #[.val (.ref o0), .val (.int p1), .val (.int p2), .val (.int p3), .val (.int p4), .val (.int p5), .val (.ref o6)] [(.int p5), (.ref o0)])) rfl rfl (hb hby d2_28)
  have N18 := Fr.snoc X18 N14 P1_G
  have K18 : Keep h0 h18 [o0] := K14.wr W18 (Or.inl (List.mem_of_getElem? (i := 0) rfl))
  have Fw18 : Fld Z h18 o0 "com/example/quintet/quintet/card/CommandApdu" "p3" "I" (.int p5) := f19.same W18
  have pre18 : Lead p e below G (T18.setTop (mkF m 31 #[.val (.ref o0), .val (.int p1), .val (.int p2), .val (.int p3), .val (.int p4), .val (.int p5), .val (.ref o6)] [])) := fun t k => pre17 t (st18 _ k)
  have pre21 : Lead p e below G (T18.setTop (mkF m 34 #[.val (.ref o0), .val (.int p1), .val (.int p2), .val (.int p3), .val (.int p4), .val (.int p5), .val (.ref o6)] [(.ref o6), (.ref o0)])) := fun t k => by
    refine pre18 t ?_
    show Steps p.tables e below (T18.setTop (mkF m 31 #[.val (.ref o0), .val (.int p1), .val (.int p2), .val (.int p3), .val (.int p4), .val (.int p5), .val (.ref o6)] [])) _
    refine XS.aloadN X18.here hx rfl (hb hby d2_31) rfl rfl ?_
    show Steps p.tables e below (T18.setTop (mkF m 32 #[.val (.ref o0), .val (.int p1), .val (.int p2), .val (.int p3), .val (.int p4), .val (.int p5), .val (.ref o6)] [(.ref o0)])) _
    refine XS.aload X18.here hx rfl (hb hby d2_32) rfl rfl ?_
    show Steps p.tables e below (T18.setTop (mkF m 34 #[.val (.ref o0), .val (.int p1), .val (.int p2), .val (.int p3), .val (.int p4), .val (.int p5), .val (.ref o6)] [(.ref o6), (.ref o0)])) _
    exact k
  have f23 : Fld Z h18 o0 "com/example/quintet/quintet/card/CommandApdu" "data" "[B" .null := (((((P7_F.other W4 (Or.inr (slot_ne (Or.inr (hw _ (List.mem_of_getElem? (i := 31) rfl))) (Or.inr (hw _ (List.mem_of_getElem? (i := 21) rfl))) (by decide) (t := (.array .byte)) (t' := .int) (by decide) (by decide)))).other W6 (Or.inr (slot_ne (Or.inr (hw _ (List.mem_of_getElem? (i := 31) rfl))) (Or.inr (hw _ (List.mem_of_getElem? (i := 23) rfl))) (by decide) (t := (.array .byte)) (t' := .int) (by decide) (by decide)))).other W10 (Or.inr (slot_ne (Or.inr (hw _ (List.mem_of_getElem? (i := 31) rfl))) (Or.inr (hw _ (List.mem_of_getElem? (i := 25) rfl))) (by decide) (t := (.array .byte)) (t' := .int) (by decide) (by decide)))).other W14 (Or.inr (slot_ne (Or.inr (hw _ (List.mem_of_getElem? (i := 31) rfl))) (Or.inr (hw _ (List.mem_of_getElem? (i := 27) rfl))) (by decide) (t := (.array .byte)) (t' := .int) (by decide) (by decide)))).other W18 (Or.inr (slot_ne (Or.inr (hw _ (List.mem_of_getElem? (i := 31) rfl))) (Or.inr (hw _ (List.mem_of_getElem? (i := 29) rfl))) (by decide) (t := (.array .byte)) (t' := .int) (by decide) (by decide))))
  have f24 : Exa Z h18 o0 "com/example/quintet/quintet/card/CommandApdu" := (f20.wr W18)
  obtain ⟨T22, h22, X22, e22, W22, st22⟩ := putF X18 hx hZ hown (host := "") (Or.inl (hw _ (List.mem_of_getElem? (i := 30) rfl))) Via.refl e18 f23 f24 (Or.inr ⟨(hw _ (List.mem_of_getElem? (i := 31) rfl)), rfl, hnm⟩) (hw _ (List.mem_of_getElem? (i := 7) rfl)) (ty := (.array .byte)) (by decide) rfl rfl (g := (mkF m 34 #[.val (.ref o0), .val (.int p1), .val (.int p2), .val (.int p3), .val (.int p4), .val (.int p5), .val (.ref o6)] [(.ref o6), (.ref o0)])) rfl rfl (hb hby d2_34)
  have N22 := Fr.snoc X22 N18 P1_G
  have K22 : Keep h0 h22 [o0] := K18.wr W22 (Or.inl (List.mem_of_getElem? (i := 0) rfl))
  have Fw22 : Fld Z h22 o0 "com/example/quintet/quintet/card/CommandApdu" "data" "[B" (.ref o6) := f23.same W22
  have pre22 : Lead p e below G (T22.setTop (mkF m 37 #[.val (.ref o0), .val (.int p1), .val (.int p2), .val (.int p3), .val (.int p4), .val (.int p5), .val (.ref o6)] [])) := fun t k => pre21 t (st22 _ k)
  obtain ⟨fs, hr, hrun, hended, hW, hsame⟩ := X22.leave (v := none) (fun _ => rfl)
  subst hG
  refine ⟨_, _, pre22 _ ?_, hrun, hended, _, _, rfl, ?_, ⟨_, rfl⟩, hW, hsame.mono (by decide) (by decide)⟩
  · show Steps p.tables e below (T22.setTop (mkF m 37 #[.val (.ref o0), .val (.int p1), .val (.int p2), .val (.int p3), .val (.int p4), .val (.int p5), .val (.ref o6)] [])) _
    exact X22.returnOut hx Bd.returns (hb hby d2_37) hr
  · show Q2 Z o0 p1 p2 p3 p4 p5 o6 h0 n0 _ T22.heap _
    rw [e22]
    have f25 : Exa Z h22 o0 "com/example/quintet/quintet/card/CommandApdu" := (f24.wr W22)
    have f26 : Fld Z h22 o0 "com/example/quintet/quintet/card/CommandApdu" "p3" "I" (.int p5) := (Fw18.other W22 (Or.inr (slot_ne (Or.inr (hw _ (List.mem_of_getElem? (i := 29) rfl))) (Or.inr (hw _ (List.mem_of_getElem? (i := 31) rfl))) (by decide) (t := .int) (t' := (.array .byte)) (by decide) (by decide))))
    exact ⟨rfl, N22, K22, f25, f26, Fw22⟩
theorem d5_0 : decode prog_19_method_3_code 0 = .ok (.aload_n 0, 1) := by decide +kernel
theorem d5_1 : decode prog_19_method_3_code 1 = .ok (.getfield 22, 3) := by decide +kernel
theorem d5_4 : decode prog_19_method_3_code 4 = .ok (.ifCond .le 19, 3) := by decide +kernel
theorem d5_7 : decode prog_19_method_3_code 7 = .ok (.aload_n 0, 1) := by decide +kernel
theorem d5_8 : decode prog_19_method_3_code 8 = .ok (.getfield 25, 3) := by decide +kernel
theorem d5_11 : decode prog_19_method_3_code 11 = .ok (.arraylength, 1) := by decide +kernel
theorem d5_12 : decode prog_19_method_3_code 12 = .ok (.aload_n 0, 1) := by decide +kernel
theorem d5_13 : decode prog_19_method_3_code 13 = .ok (.getfield 22, 3) := by decide +kernel
theorem d5_16 : decode prog_19_method_3_code 16 = .ok (.if_icmp .ne 7, 3) := by decide +kernel
theorem d5_19 : decode prog_19_method_3_code 19 = .ok (.iconst 1, 1) := by decide +kernel
theorem d5_20 : decode prog_19_method_3_code 20 = .ok (.goto 4, 3) := by decide +kernel
theorem d5_23 : decode prog_19_method_3_code 23 = .ok (.iconst 0, 1) := by decide +kernel
theorem d5_24 : decode prog_19_method_3_code 24 = .ok (.ireturn, 1) := by decide +kernel
def F5 (xv : Int32) (nl : Int32) : Int32 := if (0 : Int32) < xv then ((nar .boolean (if nl = xv then (1 : Int32) else (0 : Int32)))) else ((nar .boolean (0 : Int32)))
theorem ef_5 (m : MethodId) (o0 : Addr) : entryFrame m #[(.ref o0)] 1 = mkF m 0 #[.val (.ref o0)] [] := by first | (simp [entryFrame, mkF, argsToLocals, Value.category]; done) | rfl
def Q5 (Z : State) (o0 : Addr) (xv : Int32) (wa : Addr) (nl : Int32) (ga : Nat → Int32) (h0 : Heap) (n0 : Nat) (v : Option Value) (h : Heap) (L : List Loc) : Prop := v = some (.int (F5 xv nl)) ∧ Fr n0 L ∧ h = h0
set_option maxRecDepth 65536 in
set_option maxHeartbeats 40000000 in
theorem rm5 (l : Launch) (Z : State) (a0 : Array Value) (hw : ∀ d ∈ tables_1, d.before a0 Z = true) (ws : List Jvm.Cond) (o0 : Addr) (xv : Int32) (wa : Addr) (nl : Int32) (ga : Nat → Int32) (h0 : Heap) (n0 : Nat) (Z0 : n0 ≤ h0.size) (P0_F : Fld Z h0 o0 "com/example/quintet/quintet/card/CommandApdu" "p3" "I" (.int xv)) (P1_F : Fld Z h0 o0 "com/example/quintet/quintet/card/CommandApdu" "data" "[B" (.ref wa)) (P2_V : JV Value.int Z h0 wa .byte nl ga) :
    MetFree l (⟨"com/example/quintet/quintet/card/CommandApdu", "sendsLcBytes", "()Z"⟩ : MethodName) (head1 (Jvm.Cond.code (⟨"com/example/quintet/quintet/card/CommandApdu", "sendsLcBytes", "()Z"⟩ : MethodName) prog_19_method_3_code 1 (some .boolean) :: ws) ({ frames := 0, cells := 0, slots := 0, locals := 0 } : Room)) (fun a U => a = #[(.ref o0)] ∧ Z.Warmed39 U.vm ∧ U.heap = h0) (fun _ _ _ _ _ => True) (fun _ U o U' => ∃ v L, o = .returned v ∧ Q5 Z o0 xv wa nl ga h0 n0 v U'.heap L ∧ FrameEnd U o U' L ({ frames := 0, cells := 0, slots := 0, locals := 0 } : Room).cells ({ frames := 0, cells := 0, slots := 0, locals := 0 } : Room).slots) := by
  refine MetFree.of_bodySF (plainFor_of_name pn_com_example_quintet_quintet_card_CommandApdu) hisR ?_
  intro p e s m args below meth c s₁ Bd hml0 hP hK
  obtain ⟨rfl, hZ, hh⟩ := hP
  have hx := Bd.exec
  have hby := Bd.bytes
  have hml : c.maxLocals = 1 := hml0
  have hown : s.vm.findClass "com/example/quintet/quintet/card/CommandApdu" = some m.cls := findClass_of_methodNamed Bd.named
  have hnm := (name_of_methodNamed Bd.named Bd.method).1
  have X0 : Stand p l e ({ frames := 0, cells := 0, slots := 0, locals := 0 } : Room) s m #[(.ref o0)] below meth c s₁ [] 0 0 := Stand.of_body Bd
  have e0 : s₁.heap = h0 := by rw [← hh, Bd.state]; rfl
  have N0 := Fr.nil n0
  have K0 : Keep h0 h0 [] := Keep.refl _ _
  obtain ⟨G, hG⟩ : ∃ z, z = s₁.setTop (entryFrame m #[(.ref o0)] 1) := ⟨_, rfl⟩
  have pre0 : Lead p e below G (s₁.setTop (mkF m 0 #[.val (.ref o0)] [])) := fun t k => by rw [hG]; exact castTop (ef_5 m o0) k
  have pre1 : Lead p e below G (s₁.setTop (mkF m 1 #[.val (.ref o0)] [(.ref o0)])) := fun t k => by
    refine pre0 t ?_
    show Steps p.tables e below (s₁.setTop (mkF m 0 #[.val (.ref o0)] [])) _
    refine XS.aloadN X0.here hx rfl (hb hby d5_0) rfl rfl ?_
    show Steps p.tables e below (s₁.setTop (mkF m 1 #[.val (.ref o0)] [(.ref o0)])) _
    exact k
  obtain ⟨T2, X2, e2, st2⟩ := getF X0 hx hZ hown (host := "") (Or.inl (hw _ (List.mem_of_getElem? (i := 28) rfl))) Via.refl e0 P0_F (g := (mkF m 1 #[.val (.ref o0)] [(.ref o0)])) rfl rfl (hb hby d5_1)
  have pre2 : Lead p e below G (T2.setTop (mkF m 4 #[.val (.ref o0)] [(.int xv)])) := fun t k => pre1 t (st2 _ k)
  by_cases hs4_4 : (0 : Int32) < xv
  · have pre5 : Lead p e below G (T2.setTop (mkF m 8 #[.val (.ref o0)] [(.ref o0)])) := fun t k => by
      refine pre2 t ?_
      show Steps p.tables e below (T2.setTop (mkF m 4 #[.val (.ref o0)] [(.int xv)])) _
      refine XS.ifNo X2.here hx rfl (hb hby d5_4) rfl ((if0 _ _).trans (tlt hs4_4).2.2.2) ?_
      show Steps p.tables e below (T2.setTop (mkF m 7 #[.val (.ref o0)] [])) _
      refine XS.aloadN X2.here hx rfl (hb hby d5_7) rfl rfl ?_
      show Steps p.tables e below (T2.setTop (mkF m 8 #[.val (.ref o0)] [(.ref o0)])) _
      exact k
    obtain ⟨T6, X6, e6, st6⟩ := getF X2 hx hZ hown (host := "") (Or.inl (hw _ (List.mem_of_getElem? (i := 30) rfl))) Via.refl e2 P1_F (g := (mkF m 8 #[.val (.ref o0)] [(.ref o0)])) rfl rfl (hb hby d5_8)
    have pre6 : Lead p e below G (T6.setTop (mkF m 11 #[.val (.ref o0)] [(.ref wa)])) := fun t k => pre5 t (st6 _ k)
    obtain ⟨cl7, Ar7, len7⟩ := P2_V.len
    have st7 := X6.arraylength hx (by rw [e6]; exact Ar7.1) (State.isArrayOf_alike hZ.alike Ar7.2.1) (g := (mkF m 11 #[.val (.ref o0)] [(.ref wa)])) rfl rfl (hb hby d5_11)
    rw [len7] at st7
    have pre7 : Lead p e below G (T6.setTop (mkF m 12 #[.val (.ref o0)] [(.int nl)])) := fun t k => pre6 t (st7 _ k)
    have pre8 : Lead p e below G (T6.setTop (mkF m 13 #[.val (.ref o0)] [(.ref o0), (.int nl)])) := fun t k => by
      refine pre7 t ?_
      show Steps p.tables e below (T6.setTop (mkF m 12 #[.val (.ref o0)] [(.int nl)])) _
      refine XS.aloadN X6.here hx rfl (hb hby d5_12) rfl rfl ?_
      show Steps p.tables e below (T6.setTop (mkF m 13 #[.val (.ref o0)] [(.ref o0), (.int nl)])) _
      exact k
    obtain ⟨T9, X9, e9, st9⟩ := getF X6 hx hZ hown (host := "") (Or.inl (hw _ (List.mem_of_getElem? (i := 28) rfl))) Via.refl e6 P0_F (g := (mkF m 13 #[.val (.ref o0)] [(.ref o0), (.int nl)])) rfl rfl (hb hby d5_13)
    have pre9 : Lead p e below G (T9.setTop (mkF m 16 #[.val (.ref o0)] [(.int xv), (.int nl)])) := fun t k => pre8 t (st9 _ k)
    obtain ⟨fs, hr, hrun, hended, hW, hsame⟩ := X9.leave (v := some (.int (nar .boolean (if nl = xv then (1 : Int32) else (0 : Int32))))) (fun h => by rw [Bd.returns] at h; cases h)
    subst hG
    refine ⟨_, _, pre9 _ ?_, hrun, hended, _, _, rfl, ?_, ⟨_, rfl⟩, hW, hsame.mono (by decide) (by decide)⟩
    · show Steps p.tables e below (T9.setTop (mkF m 16 #[.val (.ref o0)] [(.int xv), (.int nl)])) _
      have j11 : ∀ t, Steps p.tables e below (T9.setTop (mkF m 24 #[.val (.ref o0)] [(.int (if nl = xv then (1 : Int32) else (0 : Int32)))])) t → Steps p.tables e below (T9.setTop (mkF m 16 #[.val (.ref o0)] [(.int xv), (.int nl)])) t := fun t k => by
        by_cases hc16_10 : nl = xv
        · simp only [if_pos hc16_10] at k
          refine XS.icmpNo X9.here hx rfl (hb hby d5_16) rfl (teq hc16_10).2 ?_
          show Steps p.tables e below (T9.setTop (mkF m 19 #[.val (.ref o0)] [])) _
          refine XS.iconst X9.here hx rfl (hb hby d5_19) ?_
          show Steps p.tables e below (T9.setTop (mkF m 20 #[.val (.ref o0)] [(.int (1 : Int32))])) _
          refine XS.goto X9.here hx rfl (pc0 := 20) (pc' := 24) rfl (hb hby d5_20) (by decide) (by decide) ?_
          show Steps p.tables e below (T9.setTop (mkF m 24 #[.val (.ref o0)] [(.int (1 : Int32))])) _
          exact k
        · simp only [if_neg hc16_10] at k
          refine XS.icmpYes X9.here hx rfl (pc0 := 16) (pc' := 23) rfl (hb hby d5_16) rfl (feq hc16_10).2 (by decide) (by decide) ?_
          show Steps p.tables e below (T9.setTop (mkF m 23 #[.val (.ref o0)] [])) _
          refine XS.iconst X9.here hx rfl (hb hby d5_23) ?_
          show Steps p.tables e below (T9.setTop (mkF m 24 #[.val (.ref o0)] [(.int (0 : Int32))])) _
          exact k
      refine j11 _ ?_
      show Steps p.tables e below (T9.setTop (mkF m 24 #[.val (.ref o0)] [(.int (if nl = xv then (1 : Int32) else (0 : Int32)))])) _
      exact retN X9 hx (t := .boolean) Bd.returns (by simp) (hb hby d5_24) hr
    · show Q5 Z o0 xv wa nl ga h0 n0 _ T9.heap _
      rw [e9]
      have hv_ : (nar .boolean (if nl = xv then (1 : Int32) else (0 : Int32))) = F5 xv nl := by
        skip
        unfold F5; simp only [if_pos hs4_4]
      exact ⟨congrArg (fun z => some (Value.int z)) hv_, N0, rfl⟩
  · obtain ⟨fs, hr, hrun, hended, hW, hsame⟩ := X2.leave (v := some (.int (nar .boolean (0 : Int32)))) (fun h => by rw [Bd.returns] at h; cases h)
    subst hG
    refine ⟨_, _, pre2 _ ?_, hrun, hended, _, _, rfl, ?_, ⟨_, rfl⟩, hW, hsame.mono (by decide) (by decide)⟩
    · show Steps p.tables e below (T2.setTop (mkF m 4 #[.val (.ref o0)] [(.int xv)])) _
      refine XS.ifYes X2.here hx rfl (pc0 := 4) (pc' := 23) rfl (hb hby d5_4) rfl ((if0 _ _).trans (flt hs4_4).2.2.2) (by decide) (by decide) ?_
      show Steps p.tables e below (T2.setTop (mkF m 23 #[.val (.ref o0)] [])) _
      refine XS.iconst X2.here hx rfl (hb hby d5_23) ?_
      show Steps p.tables e below (T2.setTop (mkF m 24 #[.val (.ref o0)] [(.int (0 : Int32))])) _
      exact retN X2 hx (t := .boolean) Bd.returns (by simp) (hb hby d5_24) hr
    · show Q5 Z o0 xv wa nl ga h0 n0 _ T2.heap _
      rw [e2]
      have hv_ : (nar .boolean (0 : Int32)) = F5 xv nl := by
        skip
        unfold F5; simp only [if_neg hs4_4]
      exact ⟨congrArg (fun z => some (Value.int z)) hv_, N0, rfl⟩
theorem pd__28_II_29_I : parseMethodDescriptor "(II)I" = some ⟨[.int, .int], some .int⟩ := by decide +kernel
theorem pd__28_IIIII_5b_B_29_V : parseMethodDescriptor "(IIIII[B)V" = some ⟨[.int, .int, .int, .int, .int, (.array .byte)], none⟩ := by decide +kernel
theorem pd__28__29_Z : parseMethodDescriptor "()Z" = some ⟨[], some .boolean⟩ := by decide +kernel
def F0 (p0 : Int32) (p1 : Int32) (p2 : Int32) (p3 : Int32) : Int32 := let v2 : Int32 := (((p0.toUInt32 >>> ((8 : Int32) &&& 31).toUInt32).toInt32) &&& (255 : Int32)); let v4 : Int32 := (((p0.toUInt32 >>> ((16 : Int32) &&& 31).toUInt32).toInt32) &&& (255 : Int32)); let v6 : Int32 := (((p0.toUInt32 >>> ((24 : Int32) &&& 31).toUInt32).toInt32) &&& (255 : Int32)); let v8 : Int32 := (((p1 &&& (2147483647 : Int32)) - ((p1 &&& (2147483647 : Int32)) / (257 : Int32)) * (257 : Int32)) - (1 : Int32)); let v10 : Int32 := (((p2 &&& (2147483647 : Int32)) - ((p2 &&& (2147483647 : Int32)) / (5 : Int32)) * (5 : Int32)) - (2 : Int32)); if (0 : Int32) < (F1 (0 : Int32) (v8 + v10)) then (let g19 : Nat → Int32 := (updF (fun _ => (0 : Int32)) 0 (nar .byte (p3.toInt8.toInt32))); let v21 : Int32 := ((p3 >>> ((8 : Int32) &&& 31)).toInt8.toInt32); let v22 : Int32 := ((F1 (0 : Int32) (v8 + v10)) - (1 : Int32)); let v32 : Int32 := (if (0 : Int32) < v8 then (if v10 = (0 : Int32) then (1 : Int32) else (0 : Int32)) else (0 : Int32)); let v39 : Int32 := (if (F5 v8 (F1 (0 : Int32) (v8 + v10))) = v32 then (1 : Int32) else (0 : Int32)); (nar .boolean v39)) else (let v49 : Int32 := (if (0 : Int32) < v8 then (if v10 = (0 : Int32) then (1 : Int32) else (0 : Int32)) else (0 : Int32)); let v56 : Int32 := (if (F5 v8 (F1 (0 : Int32) (v8 + v10))) = v49 then (1 : Int32) else (0 : Int32)); (nar .boolean v56))
def LEN (p0 : Int32) (p1 : Int32) (p2 : Int32) (p3 : Int32) : Int32 := let v2 : Int32 := (((p0.toUInt32 >>> ((8 : Int32) &&& 31).toUInt32).toInt32) &&& (255 : Int32)); let v4 : Int32 := (((p0.toUInt32 >>> ((16 : Int32) &&& 31).toUInt32).toInt32) &&& (255 : Int32)); let v6 : Int32 := (((p0.toUInt32 >>> ((24 : Int32) &&& 31).toUInt32).toInt32) &&& (255 : Int32)); let v8 : Int32 := (((p1 &&& (2147483647 : Int32)) - ((p1 &&& (2147483647 : Int32)) / (257 : Int32)) * (257 : Int32)) - (1 : Int32)); let v10 : Int32 := (((p2 &&& (2147483647 : Int32)) - ((p2 &&& (2147483647 : Int32)) / (5 : Int32)) * (5 : Int32)) - (2 : Int32)); (F1 (0 : Int32) (v8 + v10))
theorem own_max (x : Int32) : (x &&& (2147483647 : Int32)).toInt = x.toInt % 2 ^ 31 := Jvm.Kit.i32_mask x _ (k := 31) (by decide) (by decide)
theorem own_rem (a k : Int32) (ha : 0 ≤ a.toInt) (hk : 0 < k.toInt) : (a - a / k * k).toInt = a.toInt % k.toInt := by
  have b1 := Int32.le_toInt a; have b2 := Int32.toInt_lt a
  have d : (a / k).toInt = a.toInt / k.toInt := by rw [Jvm.Kit.i32_div (by omega), Int.tdiv_eq_ediv_of_nonneg ha]
  have q0 : 0 ≤ a.toInt / k.toInt := Int.ediv_nonneg ha (by omega)
  have q1 : a.toInt / k.toInt * k.toInt ≤ a.toInt := Int.ediv_mul_le _ (by omega)
  have q2 : 0 ≤ a.toInt / k.toInt * k.toInt := Int.mul_nonneg q0 (by omega)
  have m : (a / k * k).toInt = a.toInt / k.toInt * k.toInt := by rw [Jvm.Kit.i32_mul, d] <;> rw [d] <;> omega
  rw [Jvm.Kit.i32_sub (by omega) (by omega), m, Int.emod_def, Int.mul_comm]
theorem own_nar0 : nar .boolean (0 : Int32) = 0 := by decide
theorem own_nar1 : nar .boolean (1 : Int32) = 1 := by decide
theorem own_nat {a : Int32} {k : Nat} (h : a.toInt ≤ k) : a.toNatClampNeg ≤ k := by
  show a.toInt.toNat ≤ k
  omega
theorem own_at0 {n : Int32} (h : (0 : Int32) < n) : ¬ (0 : Int32) < 0 ∧ (0 : Int32) < n := ⟨by decide, h⟩
theorem own_last {n : Int32} (h : (0 : Int32) < n) : ¬ n - 1 < 0 ∧ n - 1 < n := by
  have c1 : (1 : Int32).toInt = 1 := by decide
  rw [Int32.lt_iff_toInt_lt, Int32.toInt_zero] at h
  have b := Int32.toInt_lt n
  have d : (n - 1).toInt = n.toInt - 1 := by rw [Jvm.Kit.i32_sub, c1] <;> omega
  rw [Int32.lt_iff_toInt_lt, Int32.lt_iff_toInt_lt, d, Int32.toInt_zero]; omega
theorem own_p3 (a : Int32) : -1 ≤ (((a &&& (2147483647 : Int32)) - ((a &&& (2147483647 : Int32)) / (257 : Int32)) * (257 : Int32)) - (1 : Int32)).toInt ∧ (((a &&& (2147483647 : Int32)) - ((a &&& (2147483647 : Int32)) / (257 : Int32)) * (257 : Int32)) - (1 : Int32)).toInt ≤ 255 := by
  have h1 := own_max a
  have c : (257 : Int32).toInt = 257 := by decide
  have c1 : (1 : Int32).toInt = 1 := by decide
  have h2 := own_rem (a &&& 2147483647) 257 (by omega) (by omega)
  rw [c] at h2
  have h3 : ((a &&& (2147483647 : Int32)) - ((a &&& (2147483647 : Int32)) / (257 : Int32)) * (257 : Int32) - 1).toInt = ((a &&& (2147483647 : Int32)) - ((a &&& (2147483647 : Int32)) / (257 : Int32)) * (257 : Int32)).toInt - 1 := by rw [Jvm.Kit.i32_sub, c1] <;> omega
  omega
theorem own_d (a : Int32) : -2 ≤ (((a &&& (2147483647 : Int32)) - ((a &&& (2147483647 : Int32)) / (5 : Int32)) * (5 : Int32)) - (2 : Int32)).toInt ∧ (((a &&& (2147483647 : Int32)) - ((a &&& (2147483647 : Int32)) / (5 : Int32)) * (5 : Int32)) - (2 : Int32)).toInt ≤ 2 := by
  have h1 := own_max a
  have c : (5 : Int32).toInt = 5 := by decide
  have c1 : (2 : Int32).toInt = 2 := by decide
  have h2 := own_rem (a &&& 2147483647) 5 (by omega) (by omega)
  rw [c] at h2
  have h3 : ((a &&& (2147483647 : Int32)) - ((a &&& (2147483647 : Int32)) / (5 : Int32)) * (5 : Int32) - 2).toInt = ((a &&& (2147483647 : Int32)) - ((a &&& (2147483647 : Int32)) / (5 : Int32)) * (5 : Int32)).toInt - 2 := by rw [Jvm.Kit.i32_sub, c1] <;> omega
  omega
theorem own_mx (x : Int32) : (F1 0 x).toInt = if 0 < x.toInt then x.toInt else 0 := by
  simp only [F1, Int32.lt_iff_toInt_lt, Int32.toInt_zero]
  split <;> simp
theorem own_sum (p1 p2 : Int32) : ∃ a b : Int32, (((p1 &&& (2147483647 : Int32)) - ((p1 &&& (2147483647 : Int32)) / (257 : Int32)) * (257 : Int32)) - (1 : Int32)) = a ∧ (((p2 &&& (2147483647 : Int32)) - ((p2 &&& (2147483647 : Int32)) / (5 : Int32)) * (5 : Int32)) - (2 : Int32)) = b ∧ (a + b).toInt = a.toInt + b.toInt ∧ -1 ≤ a.toInt ∧ a.toInt ≤ 255 ∧ -2 ≤ b.toInt ∧ b.toInt ≤ 2 := by
  have h1 := own_p3 p1
  have h2 := own_d p2
  refine ⟨_, _, rfl, rfl, ?_, h1.1, h1.2, h2.1, h2.2⟩
  rw [Jvm.Kit.i32_add] <;> omega
theorem own_len (p0 p1 p2 p3 : Int32) : ¬ LEN p0 p1 p2 p3 < 0 ∧ (LEN p0 p1 p2 p3).toNatClampNeg ≤ 512 := by
  obtain ⟨a, b, ha, hb, h⟩ := own_sum p1 p2
  simp only [LEN]
  rw [ha, hb]
  have m := own_mx (a + b)
  rw [Int32.lt_iff_toInt_lt, Int32.toInt_zero]
  split at m <;> exact ⟨by omega, own_nat (by omega)⟩
theorem own_law (p0 p1 p2 p3 : Int32) : F0 p0 p1 p2 p3 = 1 := by
  obtain ⟨a, b, ha, hb, h⟩ := own_sum p1 p2
  simp only [F0]
  rw [ha, hb]
  have m := own_mx (a + b)
  have key : nar .boolean (if F5 a (F1 0 (a + b)) = (if (0 : Int32) < a then (if b = 0 then (1 : Int32) else 0) else 0) then (1 : Int32) else 0) = 1 := by
    have e1 : (0 < a) ↔ 0 < a.toInt := by rw [Int32.lt_iff_toInt_lt, Int32.toInt_zero]
    have e2 : (b = 0) ↔ b.toInt = 0 := by rw [← Int32.toInt_inj, Int32.toInt_zero]
    have e3 : (F1 0 (a + b) = a) ↔ (F1 0 (a + b)).toInt = a.toInt := Int32.toInt_inj.symm
    simp only [F5, e1, e2, e3, m]
    by_cases q1 : 0 < a.toInt
    · simp only [q1, if_true]
      by_cases q2 : b.toInt = 0
      · have : (if 0 < (a + b).toInt then (a + b).toInt else 0) = a.toInt := by split <;> omega
        simp only [this, q2, if_true]; decide
      · have : ¬ ((if 0 < (a + b).toInt then (a + b).toInt else 0) = a.toInt) := by split <;> omega
        simp only [this, q2, if_false]; decide
    · simp only [q1, if_false]; decide
  split <;> exact key

theorem pn_com_example_quintet_quintet_card_CommandApduSendsLcBytesPinLaw : plainName "com/example/quintet/quintet/card/CommandApduSendsLcBytesPinLaw" = true := by first | (simp [plainName, overriddenIn]; done) | decide +kernel
theorem ef_0 (m : MethodId) (p0 : Int32) (p1 : Int32) (p2 : Int32) (p3 : Int32) : entryFrame m #[(.int p0), (.int p1), (.int p2), (.int p3)] maxLocals = mkF m 0 #[.val (.int p0), .val (.int p1), .val (.int p2), .val (.int p3), .unset, .unset, .unset, .unset, .unset, .unset, .unset, .unset, .unset, .unset] [] := by first | (simp [entryFrame, mkF, argsToLocals, Value.category, maxLocals]; done) | rfl
def Q0 (Z : State) (p0 : Int32) (p1 : Int32) (p2 : Int32) (p3 : Int32)  (h0 : Heap) (n0 : Nat) (v : Option Value) (h : Heap) (L : List Loc) : Prop := v = some (.int (1 : Int32)) ∧ Fr n0 L
set_option maxRecDepth 65536 in
set_option maxHeartbeats 40000000 in
theorem rm0 (l : Launch) (Z : State) (a0 : Array Value) (hw : ∀ d ∈ tables_1, d.before a0 Z = true) (ws : List Jvm.Cond) (p0 : Int32) (p1 : Int32) (p2 : Int32) (p3 : Int32)  (h0 : Heap) (n0 : Nat) (Z0 : n0 ≤ h0.size)  :
    MetFree l x (head1 (Jvm.Cond.code x code maxLocals ret :: ws) room_1) (fun a U => a = #[(.int p0), (.int p1), (.int p2), (.int p3)] ∧ Z.Warmed39 U.vm ∧ U.heap = h0) (fun _ _ _ _ _ => True) (fun _ U o U' => ∃ v L, o = .returned v ∧ Q0 Z p0 p1 p2 p3 h0 n0 v U'.heap L ∧ FrameEnd U o U' L room_1.cells room_1.slots) := by
  refine MetFree.of_bodySF (plainFor_of_name pn_com_example_quintet_quintet_card_CommandApduSendsLcBytesPinLaw) hisR ?_
  intro p e s m args below meth c s₁ Bd hml0 hP hK
  obtain ⟨rfl, hZ, hh⟩ := hP
  have hx := Bd.exec
  have hby := Bd.bytes
  have hml : c.maxLocals = 14 := hml0
  have hown : s.vm.findClass "com/example/quintet/quintet/card/CommandApduSendsLcBytesPinLaw" = some m.cls := findClass_of_methodNamed Bd.named
  have hnm := (name_of_methodNamed Bd.named Bd.method).1
  have X0 : Stand p l e room_1 s m #[(.int p0), (.int p1), (.int p2), (.int p3)] below meth c s₁ [] 0 0 := Stand.of_body Bd
  have e0 : s₁.heap = h0 := by rw [← hh, Bd.state]; rfl
  have N0 := Fr.nil n0
  have K0 : Keep h0 h0 [] := Keep.refl _ _
  obtain ⟨G, hG⟩ : ∃ z, z = s₁.setTop (entryFrame m #[(.int p0), (.int p1), (.int p2), (.int p3)] maxLocals) := ⟨_, rfl⟩
  have pre0 : Lead p e below G (s₁.setTop (mkF m 0 #[.val (.int p0), .val (.int p1), .val (.int p2), .val (.int p3), .unset, .unset, .unset, .unset, .unset, .unset, .unset, .unset, .unset, .unset] [])) := fun t k => by rw [hG]; exact castTop (ef_0 m p0 p1 p2 p3) k
  have pre1 : Lead p e below G (s₁.setTop (mkF m 17 #[.val (.int p0), .val (.int p1), .val (.int p2), .val (.int p3), .val (.int (p0 &&& (255 : Int32))), .val (.int (((p0.toUInt32 >>> ((8 : Int32) &&& 31).toUInt32).toInt32) &&& (255 : Int32))), .unset, .unset, .unset, .unset, .unset, .unset, .unset, .unset] [])) := fun t k => by
    refine pre0 t ?_
    show Steps p.tables e below (s₁.setTop (mkF m 0 #[.val (.int p0), .val (.int p1), .val (.int p2), .val (.int p3), .unset, .unset, .unset, .unset, .unset, .unset, .unset, .unset, .unset, .unset] [])) _
    refine XS.iloadN X0.here hx rfl (hb hby at_0) rfl ?_
    show Steps p.tables e below (s₁.setTop (mkF m 1 #[.val (.int p0), .val (.int p1), .val (.int p2), .val (.int p3), .unset, .unset, .unset, .unset, .unset, .unset, .unset, .unset, .unset, .unset] [(.int p0)])) _
    refine XS.sipush X0.here hx rfl (hb hby at_1) ?_
    show Steps p.tables e below (s₁.setTop (mkF m 4 #[.val (.int p0), .val (.int p1), .val (.int p2), .val (.int p3), .unset, .unset, .unset, .unset, .unset, .unset, .unset, .unset, .unset, .unset] [(.int (255 : Int32)), (.int p0)])) _
    refine XS.iand X0.here hx rfl (hb hby at_4) rfl ?_
    show Steps p.tables e below (s₁.setTop (mkF m 5 #[.val (.int p0), .val (.int p1), .val (.int p2), .val (.int p3), .unset, .unset, .unset, .unset, .unset, .unset, .unset, .unset, .unset, .unset] [(.int (p0 &&& (255 : Int32)))])) _
    refine XS.istore X0.here hx rfl (hb hby at_5) rfl (l' := #[.val (.int p0), .val (.int p1), .val (.int p2), .val (.int p3), .val (.int (p0 &&& (255 : Int32))), .unset, .unset, .unset, .unset, .unset, .unset, .unset, .unset, .unset]) rfl ?_
    show Steps p.tables e below (s₁.setTop (mkF m 7 #[.val (.int p0), .val (.int p1), .val (.int p2), .val (.int p3), .val (.int (p0 &&& (255 : Int32))), .unset, .unset, .unset, .unset, .unset, .unset, .unset, .unset, .unset] [])) _
    refine XS.iloadN X0.here hx rfl (hb hby at_7) rfl ?_
    show Steps p.tables e below (s₁.setTop (mkF m 8 #[.val (.int p0), .val (.int p1), .val (.int p2), .val (.int p3), .val (.int (p0 &&& (255 : Int32))), .unset, .unset, .unset, .unset, .unset, .unset, .unset, .unset, .unset] [(.int p0)])) _
    refine XS.bipush X0.here hx rfl (hb hby at_8) ?_
    show Steps p.tables e below (s₁.setTop (mkF m 10 #[.val (.int p0), .val (.int p1), .val (.int p2), .val (.int p3), .val (.int (p0 &&& (255 : Int32))), .unset, .unset, .unset, .unset, .unset, .unset, .unset, .unset, .unset] [(.int (8 : Int32)), (.int p0)])) _
    refine XS.iushr X0.here hx rfl (hb hby at_10) rfl ?_
    show Steps p.tables e below (s₁.setTop (mkF m 11 #[.val (.int p0), .val (.int p1), .val (.int p2), .val (.int p3), .val (.int (p0 &&& (255 : Int32))), .unset, .unset, .unset, .unset, .unset, .unset, .unset, .unset, .unset] [(.int ((p0.toUInt32 >>> ((8 : Int32) &&& 31).toUInt32).toInt32))])) _
    refine XS.sipush X0.here hx rfl (hb hby at_11) ?_
    show Steps p.tables e below (s₁.setTop (mkF m 14 #[.val (.int p0), .val (.int p1), .val (.int p2), .val (.int p3), .val (.int (p0 &&& (255 : Int32))), .unset, .unset, .unset, .unset, .unset, .unset, .unset, .unset, .unset] [(.int (255 : Int32)), (.int ((p0.toUInt32 >>> ((8 : Int32) &&& 31).toUInt32).toInt32))])) _
    refine XS.iand X0.here hx rfl (hb hby at_14) rfl ?_
    show Steps p.tables e below (s₁.setTop (mkF m 15 #[.val (.int p0), .val (.int p1), .val (.int p2), .val (.int p3), .val (.int (p0 &&& (255 : Int32))), .unset, .unset, .unset, .unset, .unset, .unset, .unset, .unset, .unset] [(.int (((p0.toUInt32 >>> ((8 : Int32) &&& 31).toUInt32).toInt32) &&& (255 : Int32)))])) _
    refine XS.istore X0.here hx rfl (hb hby at_15) rfl (l' := #[.val (.int p0), .val (.int p1), .val (.int p2), .val (.int p3), .val (.int (p0 &&& (255 : Int32))), .val (.int (((p0.toUInt32 >>> ((8 : Int32) &&& 31).toUInt32).toInt32) &&& (255 : Int32))), .unset, .unset, .unset, .unset, .unset, .unset, .unset, .unset]) rfl ?_
    show Steps p.tables e below (s₁.setTop (mkF m 17 #[.val (.int p0), .val (.int p1), .val (.int p2), .val (.int p3), .val (.int (p0 &&& (255 : Int32))), .val (.int (((p0.toUInt32 >>> ((8 : Int32) &&& 31).toUInt32).toInt32) &&& (255 : Int32))), .unset, .unset, .unset, .unset, .unset, .unset, .unset, .unset] [])) _
    exact k
  obtain ⟨v2, hv2⟩ : ∃ z : Int32, z = (((p0.toUInt32 >>> ((8 : Int32) &&& 31).toUInt32).toInt32) &&& (255 : Int32)) := ⟨_, rfl⟩
  have pre2 : Lead p e below G (s₁.setTop (mkF m 17 #[.val (.int p0), .val (.int p1), .val (.int p2), .val (.int p3), .val (.int (p0 &&& (255 : Int32))), .val (.int v2), .unset, .unset, .unset, .unset, .unset, .unset, .unset, .unset] [])) := by rw [hv2]; exact pre1
  have pre3 : Lead p e below G (s₁.setTop (mkF m 27 #[.val (.int p0), .val (.int p1), .val (.int p2), .val (.int p3), .val (.int (p0 &&& (255 : Int32))), .val (.int v2), .val (.int (((p0.toUInt32 >>> ((16 : Int32) &&& 31).toUInt32).toInt32) &&& (255 : Int32))), .unset, .unset, .unset, .unset, .unset, .unset, .unset] [])) := fun t k => by
    refine pre2 t ?_
    show Steps p.tables e below (s₁.setTop (mkF m 17 #[.val (.int p0), .val (.int p1), .val (.int p2), .val (.int p3), .val (.int (p0 &&& (255 : Int32))), .val (.int v2), .unset, .unset, .unset, .unset, .unset, .unset, .unset, .unset] [])) _
    refine XS.iloadN X0.here hx rfl (hb hby at_17) rfl ?_
    show Steps p.tables e below (s₁.setTop (mkF m 18 #[.val (.int p0), .val (.int p1), .val (.int p2), .val (.int p3), .val (.int (p0 &&& (255 : Int32))), .val (.int v2), .unset, .unset, .unset, .unset, .unset, .unset, .unset, .unset] [(.int p0)])) _
    refine XS.bipush X0.here hx rfl (hb hby at_18) ?_
    show Steps p.tables e below (s₁.setTop (mkF m 20 #[.val (.int p0), .val (.int p1), .val (.int p2), .val (.int p3), .val (.int (p0 &&& (255 : Int32))), .val (.int v2), .unset, .unset, .unset, .unset, .unset, .unset, .unset, .unset] [(.int (16 : Int32)), (.int p0)])) _
    refine XS.iushr X0.here hx rfl (hb hby at_20) rfl ?_
    show Steps p.tables e below (s₁.setTop (mkF m 21 #[.val (.int p0), .val (.int p1), .val (.int p2), .val (.int p3), .val (.int (p0 &&& (255 : Int32))), .val (.int v2), .unset, .unset, .unset, .unset, .unset, .unset, .unset, .unset] [(.int ((p0.toUInt32 >>> ((16 : Int32) &&& 31).toUInt32).toInt32))])) _
    refine XS.sipush X0.here hx rfl (hb hby at_21) ?_
    show Steps p.tables e below (s₁.setTop (mkF m 24 #[.val (.int p0), .val (.int p1), .val (.int p2), .val (.int p3), .val (.int (p0 &&& (255 : Int32))), .val (.int v2), .unset, .unset, .unset, .unset, .unset, .unset, .unset, .unset] [(.int (255 : Int32)), (.int ((p0.toUInt32 >>> ((16 : Int32) &&& 31).toUInt32).toInt32))])) _
    refine XS.iand X0.here hx rfl (hb hby at_24) rfl ?_
    show Steps p.tables e below (s₁.setTop (mkF m 25 #[.val (.int p0), .val (.int p1), .val (.int p2), .val (.int p3), .val (.int (p0 &&& (255 : Int32))), .val (.int v2), .unset, .unset, .unset, .unset, .unset, .unset, .unset, .unset] [(.int (((p0.toUInt32 >>> ((16 : Int32) &&& 31).toUInt32).toInt32) &&& (255 : Int32)))])) _
    refine XS.istore X0.here hx rfl (hb hby at_25) rfl (l' := #[.val (.int p0), .val (.int p1), .val (.int p2), .val (.int p3), .val (.int (p0 &&& (255 : Int32))), .val (.int v2), .val (.int (((p0.toUInt32 >>> ((16 : Int32) &&& 31).toUInt32).toInt32) &&& (255 : Int32))), .unset, .unset, .unset, .unset, .unset, .unset, .unset]) rfl ?_
    show Steps p.tables e below (s₁.setTop (mkF m 27 #[.val (.int p0), .val (.int p1), .val (.int p2), .val (.int p3), .val (.int (p0 &&& (255 : Int32))), .val (.int v2), .val (.int (((p0.toUInt32 >>> ((16 : Int32) &&& 31).toUInt32).toInt32) &&& (255 : Int32))), .unset, .unset, .unset, .unset, .unset, .unset, .unset] [])) _
    exact k
  obtain ⟨v4, hv4⟩ : ∃ z : Int32, z = (((p0.toUInt32 >>> ((16 : Int32) &&& 31).toUInt32).toInt32) &&& (255 : Int32)) := ⟨_, rfl⟩
  have pre4 : Lead p e below G (s₁.setTop (mkF m 27 #[.val (.int p0), .val (.int p1), .val (.int p2), .val (.int p3), .val (.int (p0 &&& (255 : Int32))), .val (.int v2), .val (.int v4), .unset, .unset, .unset, .unset, .unset, .unset, .unset] [])) := by rw [hv4]; exact pre3
  have pre5 : Lead p e below G (s₁.setTop (mkF m 37 #[.val (.int p0), .val (.int p1), .val (.int p2), .val (.int p3), .val (.int (p0 &&& (255 : Int32))), .val (.int v2), .val (.int v4), .val (.int (((p0.toUInt32 >>> ((24 : Int32) &&& 31).toUInt32).toInt32) &&& (255 : Int32))), .unset, .unset, .unset, .unset, .unset, .unset] [])) := fun t k => by
    refine pre4 t ?_
    show Steps p.tables e below (s₁.setTop (mkF m 27 #[.val (.int p0), .val (.int p1), .val (.int p2), .val (.int p3), .val (.int (p0 &&& (255 : Int32))), .val (.int v2), .val (.int v4), .unset, .unset, .unset, .unset, .unset, .unset, .unset] [])) _
    refine XS.iloadN X0.here hx rfl (hb hby at_27) rfl ?_
    show Steps p.tables e below (s₁.setTop (mkF m 28 #[.val (.int p0), .val (.int p1), .val (.int p2), .val (.int p3), .val (.int (p0 &&& (255 : Int32))), .val (.int v2), .val (.int v4), .unset, .unset, .unset, .unset, .unset, .unset, .unset] [(.int p0)])) _
    refine XS.bipush X0.here hx rfl (hb hby at_28) ?_
    show Steps p.tables e below (s₁.setTop (mkF m 30 #[.val (.int p0), .val (.int p1), .val (.int p2), .val (.int p3), .val (.int (p0 &&& (255 : Int32))), .val (.int v2), .val (.int v4), .unset, .unset, .unset, .unset, .unset, .unset, .unset] [(.int (24 : Int32)), (.int p0)])) _
    refine XS.iushr X0.here hx rfl (hb hby at_30) rfl ?_
    show Steps p.tables e below (s₁.setTop (mkF m 31 #[.val (.int p0), .val (.int p1), .val (.int p2), .val (.int p3), .val (.int (p0 &&& (255 : Int32))), .val (.int v2), .val (.int v4), .unset, .unset, .unset, .unset, .unset, .unset, .unset] [(.int ((p0.toUInt32 >>> ((24 : Int32) &&& 31).toUInt32).toInt32))])) _
    refine XS.sipush X0.here hx rfl (hb hby at_31) ?_
    show Steps p.tables e below (s₁.setTop (mkF m 34 #[.val (.int p0), .val (.int p1), .val (.int p2), .val (.int p3), .val (.int (p0 &&& (255 : Int32))), .val (.int v2), .val (.int v4), .unset, .unset, .unset, .unset, .unset, .unset, .unset] [(.int (255 : Int32)), (.int ((p0.toUInt32 >>> ((24 : Int32) &&& 31).toUInt32).toInt32))])) _
    refine XS.iand X0.here hx rfl (hb hby at_34) rfl ?_
    show Steps p.tables e below (s₁.setTop (mkF m 35 #[.val (.int p0), .val (.int p1), .val (.int p2), .val (.int p3), .val (.int (p0 &&& (255 : Int32))), .val (.int v2), .val (.int v4), .unset, .unset, .unset, .unset, .unset, .unset, .unset] [(.int (((p0.toUInt32 >>> ((24 : Int32) &&& 31).toUInt32).toInt32) &&& (255 : Int32)))])) _
    refine XS.istore X0.here hx rfl (hb hby at_35) rfl (l' := #[.val (.int p0), .val (.int p1), .val (.int p2), .val (.int p3), .val (.int (p0 &&& (255 : Int32))), .val (.int v2), .val (.int v4), .val (.int (((p0.toUInt32 >>> ((24 : Int32) &&& 31).toUInt32).toInt32) &&& (255 : Int32))), .unset, .unset, .unset, .unset, .unset, .unset]) rfl ?_
    show Steps p.tables e below (s₁.setTop (mkF m 37 #[.val (.int p0), .val (.int p1), .val (.int p2), .val (.int p3), .val (.int (p0 &&& (255 : Int32))), .val (.int v2), .val (.int v4), .val (.int (((p0.toUInt32 >>> ((24 : Int32) &&& 31).toUInt32).toInt32) &&& (255 : Int32))), .unset, .unset, .unset, .unset, .unset, .unset] [])) _
    exact k
  obtain ⟨v6, hv6⟩ : ∃ z : Int32, z = (((p0.toUInt32 >>> ((24 : Int32) &&& 31).toUInt32).toInt32) &&& (255 : Int32)) := ⟨_, rfl⟩
  have pre6 : Lead p e below G (s₁.setTop (mkF m 37 #[.val (.int p0), .val (.int p1), .val (.int p2), .val (.int p3), .val (.int (p0 &&& (255 : Int32))), .val (.int v2), .val (.int v4), .val (.int v6), .unset, .unset, .unset, .unset, .unset, .unset] [])) := by rw [hv6]; exact pre5
  have pre7 : Lead p e below G (s₁.setTop (mkF m 49 #[.val (.int p0), .val (.int p1), .val (.int p2), .val (.int p3), .val (.int (p0 &&& (255 : Int32))), .val (.int v2), .val (.int v4), .val (.int v6), .val (.int (((p1 &&& (2147483647 : Int32)) - ((p1 &&& (2147483647 : Int32)) / (257 : Int32)) * (257 : Int32)) - (1 : Int32))), .unset, .unset, .unset, .unset, .unset] [])) := fun t k => by
    refine pre6 t ?_
    show Steps p.tables e below (s₁.setTop (mkF m 37 #[.val (.int p0), .val (.int p1), .val (.int p2), .val (.int p3), .val (.int (p0 &&& (255 : Int32))), .val (.int v2), .val (.int v4), .val (.int v6), .unset, .unset, .unset, .unset, .unset, .unset] [])) _
    refine XS.iloadN X0.here hx rfl (hb hby at_37) rfl ?_
    show Steps p.tables e below (s₁.setTop (mkF m 38 #[.val (.int p0), .val (.int p1), .val (.int p2), .val (.int p3), .val (.int (p0 &&& (255 : Int32))), .val (.int v2), .val (.int v4), .val (.int v6), .unset, .unset, .unset, .unset, .unset, .unset] [(.int p1)])) _
    refine X0.ldcInt hx hown (mvT hZ (hw _ (List.mem_of_getElem? (i := 0) rfl))) (g := (mkF m 38 #[.val (.int p0), .val (.int p1), .val (.int p2), .val (.int p3), .val (.int (p0 &&& (255 : Int32))), .val (.int v2), .val (.int v4), .val (.int v6), .unset, .unset, .unset, .unset, .unset, .unset] [(.int p1)])) rfl (hb hby at_38) _ ?_
    show Steps p.tables e below (s₁.setTop (mkF m 40 #[.val (.int p0), .val (.int p1), .val (.int p2), .val (.int p3), .val (.int (p0 &&& (255 : Int32))), .val (.int v2), .val (.int v4), .val (.int v6), .unset, .unset, .unset, .unset, .unset, .unset] [(.int (2147483647 : Int32)), (.int p1)])) _
    refine XS.iand X0.here hx rfl (hb hby at_40) rfl ?_
    show Steps p.tables e below (s₁.setTop (mkF m 41 #[.val (.int p0), .val (.int p1), .val (.int p2), .val (.int p3), .val (.int (p0 &&& (255 : Int32))), .val (.int v2), .val (.int v4), .val (.int v6), .unset, .unset, .unset, .unset, .unset, .unset] [(.int (p1 &&& (2147483647 : Int32)))])) _
    refine XS.sipush X0.here hx rfl (hb hby at_41) ?_
    show Steps p.tables e below (s₁.setTop (mkF m 44 #[.val (.int p0), .val (.int p1), .val (.int p2), .val (.int p3), .val (.int (p0 &&& (255 : Int32))), .val (.int v2), .val (.int v4), .val (.int v6), .unset, .unset, .unset, .unset, .unset, .unset] [(.int (257 : Int32)), (.int (p1 &&& (2147483647 : Int32)))])) _
    refine XS.irem X0.here hx rfl (hb hby at_44) rfl (by decide) ?_
    show Steps p.tables e below (s₁.setTop (mkF m 45 #[.val (.int p0), .val (.int p1), .val (.int p2), .val (.int p3), .val (.int (p0 &&& (255 : Int32))), .val (.int v2), .val (.int v4), .val (.int v6), .unset, .unset, .unset, .unset, .unset, .unset] [(.int ((p1 &&& (2147483647 : Int32)) - ((p1 &&& (2147483647 : Int32)) / (257 : Int32)) * (257 : Int32)))])) _
    refine XS.iconst X0.here hx rfl (hb hby at_45) ?_
    show Steps p.tables e below (s₁.setTop (mkF m 46 #[.val (.int p0), .val (.int p1), .val (.int p2), .val (.int p3), .val (.int (p0 &&& (255 : Int32))), .val (.int v2), .val (.int v4), .val (.int v6), .unset, .unset, .unset, .unset, .unset, .unset] [(.int (1 : Int32)), (.int ((p1 &&& (2147483647 : Int32)) - ((p1 &&& (2147483647 : Int32)) / (257 : Int32)) * (257 : Int32)))])) _
    refine XS.isub X0.here hx rfl (hb hby at_46) rfl ?_
    show Steps p.tables e below (s₁.setTop (mkF m 47 #[.val (.int p0), .val (.int p1), .val (.int p2), .val (.int p3), .val (.int (p0 &&& (255 : Int32))), .val (.int v2), .val (.int v4), .val (.int v6), .unset, .unset, .unset, .unset, .unset, .unset] [(.int (((p1 &&& (2147483647 : Int32)) - ((p1 &&& (2147483647 : Int32)) / (257 : Int32)) * (257 : Int32)) - (1 : Int32)))])) _
    refine XS.istore X0.here hx rfl (hb hby at_47) rfl (l' := #[.val (.int p0), .val (.int p1), .val (.int p2), .val (.int p3), .val (.int (p0 &&& (255 : Int32))), .val (.int v2), .val (.int v4), .val (.int v6), .val (.int (((p1 &&& (2147483647 : Int32)) - ((p1 &&& (2147483647 : Int32)) / (257 : Int32)) * (257 : Int32)) - (1 : Int32))), .unset, .unset, .unset, .unset, .unset]) rfl ?_
    show Steps p.tables e below (s₁.setTop (mkF m 49 #[.val (.int p0), .val (.int p1), .val (.int p2), .val (.int p3), .val (.int (p0 &&& (255 : Int32))), .val (.int v2), .val (.int v4), .val (.int v6), .val (.int (((p1 &&& (2147483647 : Int32)) - ((p1 &&& (2147483647 : Int32)) / (257 : Int32)) * (257 : Int32)) - (1 : Int32))), .unset, .unset, .unset, .unset, .unset] [])) _
    exact k
  obtain ⟨v8, hv8⟩ : ∃ z : Int32, z = (((p1 &&& (2147483647 : Int32)) - ((p1 &&& (2147483647 : Int32)) / (257 : Int32)) * (257 : Int32)) - (1 : Int32)) := ⟨_, rfl⟩
  have pre8 : Lead p e below G (s₁.setTop (mkF m 49 #[.val (.int p0), .val (.int p1), .val (.int p2), .val (.int p3), .val (.int (p0 &&& (255 : Int32))), .val (.int v2), .val (.int v4), .val (.int v6), .val (.int v8), .unset, .unset, .unset, .unset, .unset] [])) := by rw [hv8]; exact pre7
  have pre9 : Lead p e below G (s₁.setTop (mkF m 59 #[.val (.int p0), .val (.int p1), .val (.int p2), .val (.int p3), .val (.int (p0 &&& (255 : Int32))), .val (.int v2), .val (.int v4), .val (.int v6), .val (.int v8), .val (.int (((p2 &&& (2147483647 : Int32)) - ((p2 &&& (2147483647 : Int32)) / (5 : Int32)) * (5 : Int32)) - (2 : Int32))), .unset, .unset, .unset, .unset] [])) := fun t k => by
    refine pre8 t ?_
    show Steps p.tables e below (s₁.setTop (mkF m 49 #[.val (.int p0), .val (.int p1), .val (.int p2), .val (.int p3), .val (.int (p0 &&& (255 : Int32))), .val (.int v2), .val (.int v4), .val (.int v6), .val (.int v8), .unset, .unset, .unset, .unset, .unset] [])) _
    refine XS.iloadN X0.here hx rfl (hb hby at_49) rfl ?_
    show Steps p.tables e below (s₁.setTop (mkF m 50 #[.val (.int p0), .val (.int p1), .val (.int p2), .val (.int p3), .val (.int (p0 &&& (255 : Int32))), .val (.int v2), .val (.int v4), .val (.int v6), .val (.int v8), .unset, .unset, .unset, .unset, .unset] [(.int p2)])) _
    refine X0.ldcInt hx hown (mvT hZ (hw _ (List.mem_of_getElem? (i := 0) rfl))) (g := (mkF m 50 #[.val (.int p0), .val (.int p1), .val (.int p2), .val (.int p3), .val (.int (p0 &&& (255 : Int32))), .val (.int v2), .val (.int v4), .val (.int v6), .val (.int v8), .unset, .unset, .unset, .unset, .unset] [(.int p2)])) rfl (hb hby at_50) _ ?_
    show Steps p.tables e below (s₁.setTop (mkF m 52 #[.val (.int p0), .val (.int p1), .val (.int p2), .val (.int p3), .val (.int (p0 &&& (255 : Int32))), .val (.int v2), .val (.int v4), .val (.int v6), .val (.int v8), .unset, .unset, .unset, .unset, .unset] [(.int (2147483647 : Int32)), (.int p2)])) _
    refine XS.iand X0.here hx rfl (hb hby at_52) rfl ?_
    show Steps p.tables e below (s₁.setTop (mkF m 53 #[.val (.int p0), .val (.int p1), .val (.int p2), .val (.int p3), .val (.int (p0 &&& (255 : Int32))), .val (.int v2), .val (.int v4), .val (.int v6), .val (.int v8), .unset, .unset, .unset, .unset, .unset] [(.int (p2 &&& (2147483647 : Int32)))])) _
    refine XS.iconst X0.here hx rfl (hb hby at_53) ?_
    show Steps p.tables e below (s₁.setTop (mkF m 54 #[.val (.int p0), .val (.int p1), .val (.int p2), .val (.int p3), .val (.int (p0 &&& (255 : Int32))), .val (.int v2), .val (.int v4), .val (.int v6), .val (.int v8), .unset, .unset, .unset, .unset, .unset] [(.int (5 : Int32)), (.int (p2 &&& (2147483647 : Int32)))])) _
    refine XS.irem X0.here hx rfl (hb hby at_54) rfl (by decide) ?_
    show Steps p.tables e below (s₁.setTop (mkF m 55 #[.val (.int p0), .val (.int p1), .val (.int p2), .val (.int p3), .val (.int (p0 &&& (255 : Int32))), .val (.int v2), .val (.int v4), .val (.int v6), .val (.int v8), .unset, .unset, .unset, .unset, .unset] [(.int ((p2 &&& (2147483647 : Int32)) - ((p2 &&& (2147483647 : Int32)) / (5 : Int32)) * (5 : Int32)))])) _
    refine XS.iconst X0.here hx rfl (hb hby at_55) ?_
    show Steps p.tables e below (s₁.setTop (mkF m 56 #[.val (.int p0), .val (.int p1), .val (.int p2), .val (.int p3), .val (.int (p0 &&& (255 : Int32))), .val (.int v2), .val (.int v4), .val (.int v6), .val (.int v8), .unset, .unset, .unset, .unset, .unset] [(.int (2 : Int32)), (.int ((p2 &&& (2147483647 : Int32)) - ((p2 &&& (2147483647 : Int32)) / (5 : Int32)) * (5 : Int32)))])) _
    refine XS.isub X0.here hx rfl (hb hby at_56) rfl ?_
    show Steps p.tables e below (s₁.setTop (mkF m 57 #[.val (.int p0), .val (.int p1), .val (.int p2), .val (.int p3), .val (.int (p0 &&& (255 : Int32))), .val (.int v2), .val (.int v4), .val (.int v6), .val (.int v8), .unset, .unset, .unset, .unset, .unset] [(.int (((p2 &&& (2147483647 : Int32)) - ((p2 &&& (2147483647 : Int32)) / (5 : Int32)) * (5 : Int32)) - (2 : Int32)))])) _
    refine XS.istore X0.here hx rfl (hb hby at_57) rfl (l' := #[.val (.int p0), .val (.int p1), .val (.int p2), .val (.int p3), .val (.int (p0 &&& (255 : Int32))), .val (.int v2), .val (.int v4), .val (.int v6), .val (.int v8), .val (.int (((p2 &&& (2147483647 : Int32)) - ((p2 &&& (2147483647 : Int32)) / (5 : Int32)) * (5 : Int32)) - (2 : Int32))), .unset, .unset, .unset, .unset]) rfl ?_
    show Steps p.tables e below (s₁.setTop (mkF m 59 #[.val (.int p0), .val (.int p1), .val (.int p2), .val (.int p3), .val (.int (p0 &&& (255 : Int32))), .val (.int v2), .val (.int v4), .val (.int v6), .val (.int v8), .val (.int (((p2 &&& (2147483647 : Int32)) - ((p2 &&& (2147483647 : Int32)) / (5 : Int32)) * (5 : Int32)) - (2 : Int32))), .unset, .unset, .unset, .unset] [])) _
    exact k
  obtain ⟨v10, hv10⟩ : ∃ z : Int32, z = (((p2 &&& (2147483647 : Int32)) - ((p2 &&& (2147483647 : Int32)) / (5 : Int32)) * (5 : Int32)) - (2 : Int32)) := ⟨_, rfl⟩
  have pre10 : Lead p e below G (s₁.setTop (mkF m 59 #[.val (.int p0), .val (.int p1), .val (.int p2), .val (.int p3), .val (.int (p0 &&& (255 : Int32))), .val (.int v2), .val (.int v4), .val (.int v6), .val (.int v8), .val (.int v10), .unset, .unset, .unset, .unset] [])) := by rw [hv10]; exact pre9
  have pre11 : Lead p e below G (s₁.setTop (mkF m 65 #[.val (.int p0), .val (.int p1), .val (.int p2), .val (.int p3), .val (.int (p0 &&& (255 : Int32))), .val (.int v2), .val (.int v4), .val (.int v6), .val (.int v8), .val (.int v10), .unset, .unset, .unset, .unset] [(.int (v8 + v10)), (.int (0 : Int32))])) := fun t k => by
    refine pre10 t ?_
    show Steps p.tables e below (s₁.setTop (mkF m 59 #[.val (.int p0), .val (.int p1), .val (.int p2), .val (.int p3), .val (.int (p0 &&& (255 : Int32))), .val (.int v2), .val (.int v4), .val (.int v6), .val (.int v8), .val (.int v10), .unset, .unset, .unset, .unset] [])) _
    refine XS.iconst X0.here hx rfl (hb hby at_59) ?_
    show Steps p.tables e below (s₁.setTop (mkF m 60 #[.val (.int p0), .val (.int p1), .val (.int p2), .val (.int p3), .val (.int (p0 &&& (255 : Int32))), .val (.int v2), .val (.int v4), .val (.int v6), .val (.int v8), .val (.int v10), .unset, .unset, .unset, .unset] [(.int (0 : Int32))])) _
    refine XS.iload X0.here hx rfl (hb hby at_60) rfl ?_
    show Steps p.tables e below (s₁.setTop (mkF m 62 #[.val (.int p0), .val (.int p1), .val (.int p2), .val (.int p3), .val (.int (p0 &&& (255 : Int32))), .val (.int v2), .val (.int v4), .val (.int v6), .val (.int v8), .val (.int v10), .unset, .unset, .unset, .unset] [(.int v8), (.int (0 : Int32))])) _
    refine XS.iload X0.here hx rfl (hb hby at_62) rfl ?_
    show Steps p.tables e below (s₁.setTop (mkF m 64 #[.val (.int p0), .val (.int p1), .val (.int p2), .val (.int p3), .val (.int (p0 &&& (255 : Int32))), .val (.int v2), .val (.int v4), .val (.int v6), .val (.int v8), .val (.int v10), .unset, .unset, .unset, .unset] [(.int v10), (.int v8), (.int (0 : Int32))])) _
    refine XS.iadd X0.here hx rfl (hb hby at_64) rfl ?_
    show Steps p.tables e below (s₁.setTop (mkF m 65 #[.val (.int p0), .val (.int p1), .val (.int p2), .val (.int p3), .val (.int (p0 &&& (255 : Int32))), .val (.int v2), .val (.int v4), .val (.int v6), .val (.int v8), .val (.int v10), .unset, .unset, .unset, .unset] [(.int (v8 + v10)), (.int (0 : Int32))])) _
    exact k
  obtain ⟨_, _, ⟨T12, L12, k12, n12⟩, -, X12, ⟨Lc12, hQ12, l12, y12, z12⟩, st12⟩ := Jvm.LawKit.callS X0 hx (y := (⟨"java/lang/Math", "max", "(II)I"⟩ : MethodName)) hown (mvT hZ (hw _ (List.mem_of_getElem? (i := 1) rfl))) (mvT hZ (hw _ (List.mem_of_getElem? (i := 2) rfl))) (mvT hZ (hw _ (List.mem_of_getElem? (i := 3) rfl))) (mvT hZ (hw _ (List.mem_of_getElem? (i := 4) rfl))) (by decide) (backOf (W := 0) (rm1 l Z a0 hw [] (0 : Int32) (v8 + v10)  h0 n0 (Nat.le_trans Z0 K0.1) ) hZ (hw _ (List.mem_of_getElem? (i := 4) rfl)) (hw _ (List.mem_of_getElem? (i := 3) rfl)) (by decide) (by decide)) (g := (mkF m 65 #[.val (.int p0), .val (.int p1), .val (.int p2), .val (.int p3), .val (.int (p0 &&& (255 : Int32))), .val (.int v2), .val (.int v4), .val (.int v6), .val (.int v8), .val (.int v10), .unset, .unset, .unset, .unset] [(.int (v8 + v10)), (.int (0 : Int32))])) rfl (by rw [hml]; rfl) (argsL := [(.int (0 : Int32)), (.int (v8 + v10))]) (rest := []) (lenOf pd__28_II_29_I rfl) rfl (by show 2 * 0 + _ ≤ _; exact Nat.le_of_eq rfl) (hb hby at_65) (fun _ _ => ⟨rfl, e0, (by decide : 0 + 0 ≤ _), (by decide : 0 + 0 ≤ _)⟩)
  dsimp only [Pt.U, Pt.locs, Pt.cells, Pt.slots] at X12 l12 y12 z12 st12 hQ12
  subst l12 y12 z12
  obtain ⟨rfl, N12q, e12⟩ := hQ12
  have N12 := Fr.app N0 N12q
  have pre12 : Lead p e below G (T12.setTop (mkF m 68 #[.val (.int p0), .val (.int p1), .val (.int p2), .val (.int p3), .val (.int (p0 &&& (255 : Int32))), .val (.int v2), .val (.int v4), .val (.int v6), .val (.int v8), .val (.int v10), .unset, .unset, .unset, .unset] [(.int (F1 (0 : Int32) (v8 + v10)))])) := fun t k => pre11 t (st12 _ k)
  have pre13 : Lead p e below G (T12.setTop (mkF m 72 #[.val (.int p0), .val (.int p1), .val (.int p2), .val (.int p3), .val (.int (p0 &&& (255 : Int32))), .val (.int v2), .val (.int v4), .val (.int v6), .val (.int v8), .val (.int v10), .val (.int (F1 (0 : Int32) (v8 + v10))), .unset, .unset, .unset] [(.int (F1 (0 : Int32) (v8 + v10)))])) := fun t k => by
    refine pre12 t ?_
    show Steps p.tables e below (T12.setTop (mkF m 68 #[.val (.int p0), .val (.int p1), .val (.int p2), .val (.int p3), .val (.int (p0 &&& (255 : Int32))), .val (.int v2), .val (.int v4), .val (.int v6), .val (.int v8), .val (.int v10), .unset, .unset, .unset, .unset] [(.int (F1 (0 : Int32) (v8 + v10)))])) _
    refine XS.istore X12.here hx rfl (hb hby at_68) rfl (l' := #[.val (.int p0), .val (.int p1), .val (.int p2), .val (.int p3), .val (.int (p0 &&& (255 : Int32))), .val (.int v2), .val (.int v4), .val (.int v6), .val (.int v8), .val (.int v10), .val (.int (F1 (0 : Int32) (v8 + v10))), .unset, .unset, .unset]) rfl ?_
    show Steps p.tables e below (T12.setTop (mkF m 70 #[.val (.int p0), .val (.int p1), .val (.int p2), .val (.int p3), .val (.int (p0 &&& (255 : Int32))), .val (.int v2), .val (.int v4), .val (.int v6), .val (.int v8), .val (.int v10), .val (.int (F1 (0 : Int32) (v8 + v10))), .unset, .unset, .unset] [])) _
    refine XS.iload X12.here hx rfl (hb hby at_70) rfl ?_
    show Steps p.tables e below (T12.setTop (mkF m 72 #[.val (.int p0), .val (.int p1), .val (.int p2), .val (.int p3), .val (.int (p0 &&& (255 : Int32))), .val (.int v2), .val (.int v4), .val (.int v6), .val (.int v8), .val (.int v10), .val (.int (F1 (0 : Int32) (v8 + v10))), .unset, .unset, .unset] [(.int (F1 (0 : Int32) (v8 + v10)))])) _
    exact k
  obtain ⟨T14, h14, k14, X14, e14, E14, A14, st14⟩ := newP X12 hx hZ (hw _ (List.mem_of_getElem? (i := 5) rfl)) e12 (g := (mkF m 72 #[.val (.int p0), .val (.int p1), .val (.int p2), .val (.int p3), .val (.int (p0 &&& (255 : Int32))), .val (.int v2), .val (.int v4), .val (.int v6), .val (.int v8), .val (.int v10), .val (.int (F1 (0 : Int32) (v8 + v10))), .unset, .unset, .unset] [(.int (F1 (0 : Int32) (v8 + v10)))])) rfl (hb hby at_72) rfl (by subst hv10 hv8 hv6 hv4 hv2; exact (own_len p0 p1 p2 p3).1) (cap := 512) (by subst hv10 hv8 hv6 hv4 hv2; exact (own_len p0 p1 p2 p3).2) (by decide) (by decide) (by decide)
  obtain ⟨b14, g14⟩ : ∃ z, z = h0.size := ⟨_, rfl⟩
  rw [← g14] at A14 st14
  have sz14 : h0.size ≤ b14 := Nat.le_trans K0.1 (Nat.le_of_eq g14.symm)
  have ge14 : n0 ≤ b14 := Nat.le_trans Z0 sz14
  have K14 : Keep h0 h14 [] := K0.ext E14
  have V14 : JV Value.int Z h14 b14 .byte (F1 (0 : Int32) (v8 + v10)) (fun _ => (0 : Int32)) := JV.new A14 (by subst hv10 hv8 hv6 hv4 hv2; exact (own_len p0 p1 p2 p3).1) _ rfl
  have pre14 : Lead p e below G (T14.setTop (mkF m 74 #[.val (.int p0), .val (.int p1), .val (.int p2), .val (.int p3), .val (.int (p0 &&& (255 : Int32))), .val (.int v2), .val (.int v4), .val (.int v6), .val (.int v8), .val (.int v10), .val (.int (F1 (0 : Int32) (v8 + v10))), .unset, .unset, .unset] [(.ref b14)])) := fun t k => pre13 t (st14 _ k)
  have pre16 : Lead p e below G (T14.setTop (mkF m 78 #[.val (.int p0), .val (.int p1), .val (.int p2), .val (.int p3), .val (.int (p0 &&& (255 : Int32))), .val (.int v2), .val (.int v4), .val (.int v6), .val (.int v8), .val (.int v10), .val (.int (F1 (0 : Int32) (v8 + v10))), .val (.ref b14), .unset, .unset] [(.int (F1 (0 : Int32) (v8 + v10)))])) := fun t k => by
    refine pre14 t ?_
    show Steps p.tables e below (T14.setTop (mkF m 74 #[.val (.int p0), .val (.int p1), .val (.int p2), .val (.int p3), .val (.int (p0 &&& (255 : Int32))), .val (.int v2), .val (.int v4), .val (.int v6), .val (.int v8), .val (.int v10), .val (.int (F1 (0 : Int32) (v8 + v10))), .unset, .unset, .unset] [(.ref b14)])) _
    refine XS.astore X14.here hx rfl (hb hby at_74) rfl rfl (l' := #[.val (.int p0), .val (.int p1), .val (.int p2), .val (.int p3), .val (.int (p0 &&& (255 : Int32))), .val (.int v2), .val (.int v4), .val (.int v6), .val (.int v8), .val (.int v10), .val (.int (F1 (0 : Int32) (v8 + v10))), .val (.ref b14), .unset, .unset]) rfl ?_
    show Steps p.tables e below (T14.setTop (mkF m 76 #[.val (.int p0), .val (.int p1), .val (.int p2), .val (.int p3), .val (.int (p0 &&& (255 : Int32))), .val (.int v2), .val (.int v4), .val (.int v6), .val (.int v8), .val (.int v10), .val (.int (F1 (0 : Int32) (v8 + v10))), .val (.ref b14), .unset, .unset] [])) _
    refine XS.iload X14.here hx rfl (hb hby at_76) rfl ?_
    show Steps p.tables e below (T14.setTop (mkF m 78 #[.val (.int p0), .val (.int p1), .val (.int p2), .val (.int p3), .val (.int (p0 &&& (255 : Int32))), .val (.int v2), .val (.int v4), .val (.int v6), .val (.int v8), .val (.int v10), .val (.int (F1 (0 : Int32) (v8 + v10))), .val (.ref b14), .unset, .unset] [(.int (F1 (0 : Int32) (v8 + v10)))])) _
    exact k
  by_cases hs78_17 : (0 : Int32) < (F1 (0 : Int32) (v8 + v10))
  · have pre18 : Lead p e below G (T14.setTop (mkF m 86 #[.val (.int p0), .val (.int p1), .val (.int p2), .val (.int p3), .val (.int (p0 &&& (255 : Int32))), .val (.int v2), .val (.int v4), .val (.int v6), .val (.int v8), .val (.int v10), .val (.int (F1 (0 : Int32) (v8 + v10))), .val (.ref b14), .unset, .unset] [(.int (p3.toInt8.toInt32)), (.int (0 : Int32)), (.ref b14)])) := fun t k => by
      refine pre16 t ?_
      show Steps p.tables e below (T14.setTop (mkF m 78 #[.val (.int p0), .val (.int p1), .val (.int p2), .val (.int p3), .val (.int (p0 &&& (255 : Int32))), .val (.int v2), .val (.int v4), .val (.int v6), .val (.int v8), .val (.int v10), .val (.int (F1 (0 : Int32) (v8 + v10))), .val (.ref b14), .unset, .unset] [(.int (F1 (0 : Int32) (v8 + v10)))])) _
      refine XS.ifNo X14.here hx rfl (hb hby at_78) rfl ((if0 _ _).trans (tlt hs78_17).2.2.2) ?_
      show Steps p.tables e below (T14.setTop (mkF m 81 #[.val (.int p0), .val (.int p1), .val (.int p2), .val (.int p3), .val (.int (p0 &&& (255 : Int32))), .val (.int v2), .val (.int v4), .val (.int v6), .val (.int v8), .val (.int v10), .val (.int (F1 (0 : Int32) (v8 + v10))), .val (.ref b14), .unset, .unset] [])) _
      refine XS.aload X14.here hx rfl (hb hby at_81) rfl rfl ?_
      show Steps p.tables e below (T14.setTop (mkF m 83 #[.val (.int p0), .val (.int p1), .val (.int p2), .val (.int p3), .val (.int (p0 &&& (255 : Int32))), .val (.int v2), .val (.int v4), .val (.int v6), .val (.int v8), .val (.int v10), .val (.int (F1 (0 : Int32) (v8 + v10))), .val (.ref b14), .unset, .unset] [(.ref b14)])) _
      refine XS.iconst X14.here hx rfl (hb hby at_83) ?_
      show Steps p.tables e below (T14.setTop (mkF m 84 #[.val (.int p0), .val (.int p1), .val (.int p2), .val (.int p3), .val (.int (p0 &&& (255 : Int32))), .val (.int v2), .val (.int v4), .val (.int v6), .val (.int v8), .val (.int v10), .val (.int (F1 (0 : Int32) (v8 + v10))), .val (.ref b14), .unset, .unset] [(.int (0 : Int32)), (.ref b14)])) _
      refine XS.iloadN X14.here hx rfl (hb hby at_84) rfl ?_
      show Steps p.tables e below (T14.setTop (mkF m 85 #[.val (.int p0), .val (.int p1), .val (.int p2), .val (.int p3), .val (.int (p0 &&& (255 : Int32))), .val (.int v2), .val (.int v4), .val (.int v6), .val (.int v8), .val (.int v10), .val (.int (F1 (0 : Int32) (v8 + v10))), .val (.ref b14), .unset, .unset] [(.int p3), (.int (0 : Int32)), (.ref b14)])) _
      refine XS.i2b X14.here hx rfl (hb hby at_85) rfl ?_
      show Steps p.tables e below (T14.setTop (mkF m 86 #[.val (.int p0), .val (.int p1), .val (.int p2), .val (.int p3), .val (.int (p0 &&& (255 : Int32))), .val (.int v2), .val (.int v4), .val (.int v6), .val (.int v8), .val (.int v10), .val (.int (F1 (0 : Int32) (v8 + v10))), .val (.ref b14), .unset, .unset] [(.int (p3.toInt8.toInt32)), (.int (0 : Int32)), (.ref b14)])) _
      exact k
    obtain ⟨cl19, Ar19, hin19, -⟩ := V14.in (j := (0 : Int32)) (own_at0 hs78_17)
    obtain ⟨T19, h19, X19, e19, W19, st19⟩ := stB X14 hx hZ e14 Ar19 (j := (0 : Int32)) hin19 (g := (mkF m 86 #[.val (.int p0), .val (.int p1), .val (.int p2), .val (.int p3), .val (.int (p0 &&& (255 : Int32))), .val (.int v2), .val (.int v4), .val (.int v6), .val (.int v8), .val (.int v10), .val (.int (F1 (0 : Int32) (v8 + v10))), .val (.ref b14), .unset, .unset] [(.int (p3.toInt8.toInt32)), (.int (0 : Int32)), (.ref b14)])) rfl rfl (hb hby at_86)
    have N19 := Fr.snoc X19 N12 ge14
    have K19 : Keep h0 h19 [] := K14.wr W19 (Or.inr sz14)
    obtain ⟨g19, hg19⟩ : ∃ z, z = (updF (fun _ => (0 : Int32)) 0 (nar .byte (p3.toInt8.toInt32))) := ⟨_, rfl⟩
    have V19 : JV Value.int Z h19 b14 .byte (F1 (0 : Int32) (v8 + v10)) g19 := by rw [hg19]; exact V14.set W19
    have pre19 : Lead p e below G (T19.setTop (mkF m 87 #[.val (.int p0), .val (.int p1), .val (.int p2), .val (.int p3), .val (.int (p0 &&& (255 : Int32))), .val (.int v2), .val (.int v4), .val (.int v6), .val (.int v8), .val (.int v10), .val (.int (F1 (0 : Int32) (v8 + v10))), .val (.ref b14), .unset, .unset] [])) := fun t k => pre18 t (st19 _ k)
    have pre20 : Lead p e below G (T19.setTop (mkF m 98 #[.val (.int p0), .val (.int p1), .val (.int p2), .val (.int p3), .val (.int (p0 &&& (255 : Int32))), .val (.int v2), .val (.int v4), .val (.int v6), .val (.int v8), .val (.int v10), .val (.int (F1 (0 : Int32) (v8 + v10))), .val (.ref b14), .unset, .unset] [(.int ((p3 >>> ((8 : Int32) &&& 31)).toInt8.toInt32)), (.int ((F1 (0 : Int32) (v8 + v10)) - (1 : Int32))), (.ref b14)])) := fun t k => by
      refine pre19 t ?_
      show Steps p.tables e below (T19.setTop (mkF m 87 #[.val (.int p0), .val (.int p1), .val (.int p2), .val (.int p3), .val (.int (p0 &&& (255 : Int32))), .val (.int v2), .val (.int v4), .val (.int v6), .val (.int v8), .val (.int v10), .val (.int (F1 (0 : Int32) (v8 + v10))), .val (.ref b14), .unset, .unset] [])) _
      refine XS.aload X19.here hx rfl (hb hby at_87) rfl rfl ?_
      show Steps p.tables e below (T19.setTop (mkF m 89 #[.val (.int p0), .val (.int p1), .val (.int p2), .val (.int p3), .val (.int (p0 &&& (255 : Int32))), .val (.int v2), .val (.int v4), .val (.int v6), .val (.int v8), .val (.int v10), .val (.int (F1 (0 : Int32) (v8 + v10))), .val (.ref b14), .unset, .unset] [(.ref b14)])) _
      refine XS.iload X19.here hx rfl (hb hby at_89) rfl ?_
      show Steps p.tables e below (T19.setTop (mkF m 91 #[.val (.int p0), .val (.int p1), .val (.int p2), .val (.int p3), .val (.int (p0 &&& (255 : Int32))), .val (.int v2), .val (.int v4), .val (.int v6), .val (.int v8), .val (.int v10), .val (.int (F1 (0 : Int32) (v8 + v10))), .val (.ref b14), .unset, .unset] [(.int (F1 (0 : Int32) (v8 + v10))), (.ref b14)])) _
      refine XS.iconst X19.here hx rfl (hb hby at_91) ?_
      show Steps p.tables e below (T19.setTop (mkF m 92 #[.val (.int p0), .val (.int p1), .val (.int p2), .val (.int p3), .val (.int (p0 &&& (255 : Int32))), .val (.int v2), .val (.int v4), .val (.int v6), .val (.int v8), .val (.int v10), .val (.int (F1 (0 : Int32) (v8 + v10))), .val (.ref b14), .unset, .unset] [(.int (1 : Int32)), (.int (F1 (0 : Int32) (v8 + v10))), (.ref b14)])) _
      refine XS.isub X19.here hx rfl (hb hby at_92) rfl ?_
      show Steps p.tables e below (T19.setTop (mkF m 93 #[.val (.int p0), .val (.int p1), .val (.int p2), .val (.int p3), .val (.int (p0 &&& (255 : Int32))), .val (.int v2), .val (.int v4), .val (.int v6), .val (.int v8), .val (.int v10), .val (.int (F1 (0 : Int32) (v8 + v10))), .val (.ref b14), .unset, .unset] [(.int ((F1 (0 : Int32) (v8 + v10)) - (1 : Int32))), (.ref b14)])) _
      refine XS.iloadN X19.here hx rfl (hb hby at_93) rfl ?_
      show Steps p.tables e below (T19.setTop (mkF m 94 #[.val (.int p0), .val (.int p1), .val (.int p2), .val (.int p3), .val (.int (p0 &&& (255 : Int32))), .val (.int v2), .val (.int v4), .val (.int v6), .val (.int v8), .val (.int v10), .val (.int (F1 (0 : Int32) (v8 + v10))), .val (.ref b14), .unset, .unset] [(.int p3), (.int ((F1 (0 : Int32) (v8 + v10)) - (1 : Int32))), (.ref b14)])) _
      refine XS.bipush X19.here hx rfl (hb hby at_94) ?_
      show Steps p.tables e below (T19.setTop (mkF m 96 #[.val (.int p0), .val (.int p1), .val (.int p2), .val (.int p3), .val (.int (p0 &&& (255 : Int32))), .val (.int v2), .val (.int v4), .val (.int v6), .val (.int v8), .val (.int v10), .val (.int (F1 (0 : Int32) (v8 + v10))), .val (.ref b14), .unset, .unset] [(.int (8 : Int32)), (.int p3), (.int ((F1 (0 : Int32) (v8 + v10)) - (1 : Int32))), (.ref b14)])) _
      refine XS.ishr X19.here hx rfl (hb hby at_96) rfl ?_
      show Steps p.tables e below (T19.setTop (mkF m 97 #[.val (.int p0), .val (.int p1), .val (.int p2), .val (.int p3), .val (.int (p0 &&& (255 : Int32))), .val (.int v2), .val (.int v4), .val (.int v6), .val (.int v8), .val (.int v10), .val (.int (F1 (0 : Int32) (v8 + v10))), .val (.ref b14), .unset, .unset] [(.int (p3 >>> ((8 : Int32) &&& 31))), (.int ((F1 (0 : Int32) (v8 + v10)) - (1 : Int32))), (.ref b14)])) _
      refine XS.i2b X19.here hx rfl (hb hby at_97) rfl ?_
      show Steps p.tables e below (T19.setTop (mkF m 98 #[.val (.int p0), .val (.int p1), .val (.int p2), .val (.int p3), .val (.int (p0 &&& (255 : Int32))), .val (.int v2), .val (.int v4), .val (.int v6), .val (.int v8), .val (.int v10), .val (.int (F1 (0 : Int32) (v8 + v10))), .val (.ref b14), .unset, .unset] [(.int ((p3 >>> ((8 : Int32) &&& 31)).toInt8.toInt32)), (.int ((F1 (0 : Int32) (v8 + v10)) - (1 : Int32))), (.ref b14)])) _
      exact k
    obtain ⟨v21, hv21⟩ : ∃ z : Int32, z = ((p3 >>> ((8 : Int32) &&& 31)).toInt8.toInt32) := ⟨_, rfl⟩
    have pre21 : Lead p e below G (T19.setTop (mkF m 98 #[.val (.int p0), .val (.int p1), .val (.int p2), .val (.int p3), .val (.int (p0 &&& (255 : Int32))), .val (.int v2), .val (.int v4), .val (.int v6), .val (.int v8), .val (.int v10), .val (.int (F1 (0 : Int32) (v8 + v10))), .val (.ref b14), .unset, .unset] [(.int v21), (.int ((F1 (0 : Int32) (v8 + v10)) - (1 : Int32))), (.ref b14)])) := by rw [hv21]; exact pre20
    obtain ⟨v22, hv22⟩ : ∃ z : Int32, z = ((F1 (0 : Int32) (v8 + v10)) - (1 : Int32)) := ⟨_, rfl⟩
    have pre22 : Lead p e below G (T19.setTop (mkF m 98 #[.val (.int p0), .val (.int p1), .val (.int p2), .val (.int p3), .val (.int (p0 &&& (255 : Int32))), .val (.int v2), .val (.int v4), .val (.int v6), .val (.int v8), .val (.int v10), .val (.int (F1 (0 : Int32) (v8 + v10))), .val (.ref b14), .unset, .unset] [(.int v21), (.int v22), (.ref b14)])) := by rw [hv22]; exact pre21
    obtain ⟨cl23, Ar23, hin23, -⟩ := V19.in (j := v22) (by subst hv22 hv21 hg19 hv10 hv8 hv6 hv4 hv2; exact (own_last hs78_17))
    obtain ⟨T23, h23, X23, e23, W23, st23⟩ := stB X19 hx hZ e19 Ar23 (j := v22) hin23 (g := (mkF m 98 #[.val (.int p0), .val (.int p1), .val (.int p2), .val (.int p3), .val (.int (p0 &&& (255 : Int32))), .val (.int v2), .val (.int v4), .val (.int v6), .val (.int v8), .val (.int v10), .val (.int (F1 (0 : Int32) (v8 + v10))), .val (.ref b14), .unset, .unset] [(.int v21), (.int v22), (.ref b14)])) rfl rfl (hb hby at_98)
    have N23 := Fr.snoc X23 N19 ge14
    have K23 : Keep h0 h23 [] := K19.wr W23 (Or.inr sz14)
    have V23 : JV Value.int Z h23 b14 .byte (F1 (0 : Int32) (v8 + v10)) (updF g19 (v22).toNatClampNeg (nar .byte v21)) := V19.set W23
    have pre23 : Lead p e below G (T23.setTop (mkF m 99 #[.val (.int p0), .val (.int p1), .val (.int p2), .val (.int p3), .val (.int (p0 &&& (255 : Int32))), .val (.int v2), .val (.int v4), .val (.int v6), .val (.int v8), .val (.int v10), .val (.int (F1 (0 : Int32) (v8 + v10))), .val (.ref b14), .unset, .unset] [])) := fun t k => pre22 t (st23 _ k)
    obtain ⟨T24, h24, X24, e24, E24, A24, D24, -, st24⟩ := newO X23 hx hZ hown (hw _ (List.mem_of_getElem? (i := 6) rfl)) (hw _ (List.mem_of_getElem? (i := 7) rfl)) (hw _ (List.mem_of_getElem? (i := 8) rfl)) e23 (g := (mkF m 99 #[.val (.int p0), .val (.int p1), .val (.int p2), .val (.int p3), .val (.int (p0 &&& (255 : Int32))), .val (.int v2), .val (.int v4), .val (.int v6), .val (.int v8), .val (.int v10), .val (.int (F1 (0 : Int32) (v8 + v10))), .val (.ref b14), .unset, .unset] [])) rfl (hb hby at_99) (by decide) (by decide)
    obtain ⟨b24, g24⟩ : ∃ z, z = h23.size := ⟨_, rfl⟩
    rw [← g24] at A24 D24 st24
    have ne24_b14 : b14 ≠ b24 := Nat.ne_of_lt (Nat.lt_of_lt_of_le V23.lt (Nat.le_of_eq g24.symm))
    have sz24 : h0.size ≤ b24 := Nat.le_trans K23.1 (Nat.le_of_eq g24.symm)
    have ge24 : n0 ≤ b24 := Nat.le_trans Z0 sz24
    have K24 : Keep h0 h24 [] := K23.ext E24
    have F24_cla : Fld Z h24 b24 "com/example/quintet/quintet/card/CommandApdu" "cla" "I" (.int (0 : Int32)) := D24 (Or.inr (hw _ (List.mem_of_getElem? (i := 21) rfl))) (ty := .int) (by decide)
    have F24_ins : Fld Z h24 b24 "com/example/quintet/quintet/card/CommandApdu" "ins" "I" (.int (0 : Int32)) := D24 (Or.inr (hw _ (List.mem_of_getElem? (i := 23) rfl))) (ty := .int) (by decide)
    have F24_p1 : Fld Z h24 b24 "com/example/quintet/quintet/card/CommandApdu" "p1" "I" (.int (0 : Int32)) := D24 (Or.inr (hw _ (List.mem_of_getElem? (i := 25) rfl))) (ty := .int) (by decide)
    have F24_p2 : Fld Z h24 b24 "com/example/quintet/quintet/card/CommandApdu" "p2" "I" (.int (0 : Int32)) := D24 (Or.inr (hw _ (List.mem_of_getElem? (i := 27) rfl))) (ty := .int) (by decide)
    have F24_p3 : Fld Z h24 b24 "com/example/quintet/quintet/card/CommandApdu" "p3" "I" (.int (0 : Int32)) := D24 (Or.inr (hw _ (List.mem_of_getElem? (i := 29) rfl))) (ty := .int) (by decide)
    have F24_data : Fld Z h24 b24 "com/example/quintet/quintet/card/CommandApdu" "data" "[B" .null := D24 (Or.inr (hw _ (List.mem_of_getElem? (i := 31) rfl))) (ty := (.array .byte)) (by decide)
    have pre24 : Lead p e below G (T24.setTop (mkF m 102 #[.val (.int p0), .val (.int p1), .val (.int p2), .val (.int p3), .val (.int (p0 &&& (255 : Int32))), .val (.int v2), .val (.int v4), .val (.int v6), .val (.int v8), .val (.int v10), .val (.int (F1 (0 : Int32) (v8 + v10))), .val (.ref b14), .unset, .unset] [(.ref b24)])) := fun t k => pre23 t (st24 _ k)
    have pre25 : Lead p e below G (T24.setTop (mkF m 115 #[.val (.int p0), .val (.int p1), .val (.int p2), .val (.int p3), .val (.int (p0 &&& (255 : Int32))), .val (.int v2), .val (.int v4), .val (.int v6), .val (.int v8), .val (.int v10), .val (.int (F1 (0 : Int32) (v8 + v10))), .val (.ref b14), .unset, .unset] [(.ref b14), (.int v8), (.int v6), (.int v4), (.int v2), (.int (p0 &&& (255 : Int32))), (.ref b24), (.ref b24)])) := fun t k => by
      refine pre24 t ?_
      show Steps p.tables e below (T24.setTop (mkF m 102 #[.val (.int p0), .val (.int p1), .val (.int p2), .val (.int p3), .val (.int (p0 &&& (255 : Int32))), .val (.int v2), .val (.int v4), .val (.int v6), .val (.int v8), .val (.int v10), .val (.int (F1 (0 : Int32) (v8 + v10))), .val (.ref b14), .unset, .unset] [(.ref b24)])) _
      refine XS.dup X24.here hx rfl (hb hby at_102) rfl rfl ?_
      show Steps p.tables e below (T24.setTop (mkF m 103 #[.val (.int p0), .val (.int p1), .val (.int p2), .val (.int p3), .val (.int (p0 &&& (255 : Int32))), .val (.int v2), .val (.int v4), .val (.int v6), .val (.int v8), .val (.int v10), .val (.int (F1 (0 : Int32) (v8 + v10))), .val (.ref b14), .unset, .unset] [(.ref b24), (.ref b24)])) _
      refine XS.iload X24.here hx rfl (hb hby at_103) rfl ?_
      show Steps p.tables e below (T24.setTop (mkF m 105 #[.val (.int p0), .val (.int p1), .val (.int p2), .val (.int p3), .val (.int (p0 &&& (255 : Int32))), .val (.int v2), .val (.int v4), .val (.int v6), .val (.int v8), .val (.int v10), .val (.int (F1 (0 : Int32) (v8 + v10))), .val (.ref b14), .unset, .unset] [(.int (p0 &&& (255 : Int32))), (.ref b24), (.ref b24)])) _
      refine XS.iload X24.here hx rfl (hb hby at_105) rfl ?_
      show Steps p.tables e below (T24.setTop (mkF m 107 #[.val (.int p0), .val (.int p1), .val (.int p2), .val (.int p3), .val (.int (p0 &&& (255 : Int32))), .val (.int v2), .val (.int v4), .val (.int v6), .val (.int v8), .val (.int v10), .val (.int (F1 (0 : Int32) (v8 + v10))), .val (.ref b14), .unset, .unset] [(.int v2), (.int (p0 &&& (255 : Int32))), (.ref b24), (.ref b24)])) _
      refine XS.iload X24.here hx rfl (hb hby at_107) rfl ?_
      show Steps p.tables e below (T24.setTop (mkF m 109 #[.val (.int p0), .val (.int p1), .val (.int p2), .val (.int p3), .val (.int (p0 &&& (255 : Int32))), .val (.int v2), .val (.int v4), .val (.int v6), .val (.int v8), .val (.int v10), .val (.int (F1 (0 : Int32) (v8 + v10))), .val (.ref b14), .unset, .unset] [(.int v4), (.int v2), (.int (p0 &&& (255 : Int32))), (.ref b24), (.ref b24)])) _
      refine XS.iload X24.here hx rfl (hb hby at_109) rfl ?_
      show Steps p.tables e below (T24.setTop (mkF m 111 #[.val (.int p0), .val (.int p1), .val (.int p2), .val (.int p3), .val (.int (p0 &&& (255 : Int32))), .val (.int v2), .val (.int v4), .val (.int v6), .val (.int v8), .val (.int v10), .val (.int (F1 (0 : Int32) (v8 + v10))), .val (.ref b14), .unset, .unset] [(.int v6), (.int v4), (.int v2), (.int (p0 &&& (255 : Int32))), (.ref b24), (.ref b24)])) _
      refine XS.iload X24.here hx rfl (hb hby at_111) rfl ?_
      show Steps p.tables e below (T24.setTop (mkF m 113 #[.val (.int p0), .val (.int p1), .val (.int p2), .val (.int p3), .val (.int (p0 &&& (255 : Int32))), .val (.int v2), .val (.int v4), .val (.int v6), .val (.int v8), .val (.int v10), .val (.int (F1 (0 : Int32) (v8 + v10))), .val (.ref b14), .unset, .unset] [(.int v8), (.int v6), (.int v4), (.int v2), (.int (p0 &&& (255 : Int32))), (.ref b24), (.ref b24)])) _
      refine XS.aload X24.here hx rfl (hb hby at_113) rfl rfl ?_
      show Steps p.tables e below (T24.setTop (mkF m 115 #[.val (.int p0), .val (.int p1), .val (.int p2), .val (.int p3), .val (.int (p0 &&& (255 : Int32))), .val (.int v2), .val (.int v4), .val (.int v6), .val (.int v8), .val (.int v10), .val (.int (F1 (0 : Int32) (v8 + v10))), .val (.ref b14), .unset, .unset] [(.ref b14), (.int v8), (.int v6), (.int v4), (.int v2), (.int (p0 &&& (255 : Int32))), (.ref b24), (.ref b24)])) _
      exact k
    obtain ⟨_, _, ⟨T26, L26, k26, n26⟩, -, X26, ⟨Lc26, hQ26, l26, y26, z26⟩, st26⟩ := X24.specialBack hx (y := (⟨"com/example/quintet/quintet/card/CommandApdu", "<init>", "(IIIII[B)V"⟩ : MethodName)) rfl hown (mvT hZ (hw _ (List.mem_of_getElem? (i := 9) rfl))) (mvT hZ (hw _ (List.mem_of_getElem? (i := 10) rfl))) (mvT hZ (hw _ (List.mem_of_getElem? (i := 11) rfl))) (by decide) (backOf (W := 1) (rm2 l Z a0 hw [] b24 (p0 &&& (255 : Int32)) v2 v4 v6 v8 b14  h24 n0 (Nat.le_trans Z0 K24.1) A24 ge24 F24_cla F24_ins F24_p1 F24_p2 F24_p3 F24_data) hZ (hw _ (List.mem_of_getElem? (i := 11) rfl)) (hw _ (List.mem_of_getElem? (i := 8) rfl)) (by decide) (by decide)) (g := (mkF m 115 #[.val (.int p0), .val (.int p1), .val (.int p2), .val (.int p3), .val (.int (p0 &&& (255 : Int32))), .val (.int v2), .val (.int v4), .val (.int v6), .val (.int v8), .val (.int v10), .val (.int (F1 (0 : Int32) (v8 + v10))), .val (.ref b14), .unset, .unset] [(.ref b14), (.int v8), (.int v6), (.int v4), (.int v2), (.int (p0 &&& (255 : Int32))), (.ref b24), (.ref b24)])) rfl (by rw [hml]; rfl) (Steps.refl _) (a := b24) (argsL := [(.int (p0 &&& (255 : Int32))), (.int v2), (.int v4), (.int v6), (.int v8), (.ref b14)]) (rest := [(.ref b24)]) (lenOf pd__28_IIIII_5b_B_29_V rfl) rfl (by show 2 * 0 + _ ≤ _; exact Nat.le_of_eq rfl) (hb hby at_115) (fun _ _ => ⟨rfl, e24, (by decide : 2 + 0 ≤ _), (by decide : 518 + 0 ≤ _)⟩)
    dsimp only [Pt.U, Pt.locs, Pt.cells, Pt.slots] at X26 l26 y26 z26 st26 hQ26
    subst l26 y26 z26
    obtain ⟨rfl, N26q, K26c, c26_0, c26_1, c26_2⟩ := hQ26
    have N26 := Fr.app N23 N26q
    have K26 : Keep h0 T26.heap [] := K24.trans K26c (allS (Or.inr sz24) all0)
    have pre26 : Lead p e below G (T26.setTop (mkF m 118 #[.val (.int p0), .val (.int p1), .val (.int p2), .val (.int p3), .val (.int (p0 &&& (255 : Int32))), .val (.int v2), .val (.int v4), .val (.int v6), .val (.int v8), .val (.int v10), .val (.int (F1 (0 : Int32) (v8 + v10))), .val (.ref b14), .unset, .unset] [(.ref b24)])) := fun t k => pre25 t (st26.trans k)
    have pre31 : Lead p e below G (T26.setTop (mkF m 135 #[.val (.int p0), .val (.int p1), .val (.int p2), .val (.int p3), .val (.int (p0 &&& (255 : Int32))), .val (.int v2), .val (.int v4), .val (.int v6), .val (.int v8), .val (.int v10), .val (.int (F1 (0 : Int32) (v8 + v10))), .val (.ref b14), .val (.ref b24), .unset] [(.int (if (0 : Int32) < v8 then (if v10 = (0 : Int32) then (1 : Int32) else (0 : Int32)) else (0 : Int32)))])) := fun t k => by
      refine pre26 t ?_
      show Steps p.tables e below (T26.setTop (mkF m 118 #[.val (.int p0), .val (.int p1), .val (.int p2), .val (.int p3), .val (.int (p0 &&& (255 : Int32))), .val (.int v2), .val (.int v4), .val (.int v6), .val (.int v8), .val (.int v10), .val (.int (F1 (0 : Int32) (v8 + v10))), .val (.ref b14), .unset, .unset] [(.ref b24)])) _
      refine XS.astore X26.here hx rfl (hb hby at_118) rfl rfl (l' := #[.val (.int p0), .val (.int p1), .val (.int p2), .val (.int p3), .val (.int (p0 &&& (255 : Int32))), .val (.int v2), .val (.int v4), .val (.int v6), .val (.int v8), .val (.int v10), .val (.int (F1 (0 : Int32) (v8 + v10))), .val (.ref b14), .val (.ref b24), .unset]) rfl ?_
      show Steps p.tables e below (T26.setTop (mkF m 120 #[.val (.int p0), .val (.int p1), .val (.int p2), .val (.int p3), .val (.int (p0 &&& (255 : Int32))), .val (.int v2), .val (.int v4), .val (.int v6), .val (.int v8), .val (.int v10), .val (.int (F1 (0 : Int32) (v8 + v10))), .val (.ref b14), .val (.ref b24), .unset] [])) _
      refine XS.iload X26.here hx rfl (hb hby at_120) rfl ?_
      show Steps p.tables e below (T26.setTop (mkF m 122 #[.val (.int p0), .val (.int p1), .val (.int p2), .val (.int p3), .val (.int (p0 &&& (255 : Int32))), .val (.int v2), .val (.int v4), .val (.int v6), .val (.int v8), .val (.int v10), .val (.int (F1 (0 : Int32) (v8 + v10))), .val (.ref b14), .val (.ref b24), .unset] [(.int v8)])) _
      have j30 : ∀ t, Steps p.tables e below (T26.setTop (mkF m 135 #[.val (.int p0), .val (.int p1), .val (.int p2), .val (.int p3), .val (.int (p0 &&& (255 : Int32))), .val (.int v2), .val (.int v4), .val (.int v6), .val (.int v8), .val (.int v10), .val (.int (F1 (0 : Int32) (v8 + v10))), .val (.ref b14), .val (.ref b24), .unset] [(.int (if (0 : Int32) < v8 then (if v10 = (0 : Int32) then (1 : Int32) else (0 : Int32)) else (0 : Int32)))])) t → Steps p.tables e below (T26.setTop (mkF m 122 #[.val (.int p0), .val (.int p1), .val (.int p2), .val (.int p3), .val (.int (p0 &&& (255 : Int32))), .val (.int v2), .val (.int v4), .val (.int v6), .val (.int v8), .val (.int v10), .val (.int (F1 (0 : Int32) (v8 + v10))), .val (.ref b14), .val (.ref b24), .unset] [(.int v8)])) t := fun t k => by
        by_cases hc122_27 : (0 : Int32) < v8
        · simp only [if_pos hc122_27] at k
          refine XS.ifNo X26.here hx rfl (hb hby at_122) rfl ((if0 _ _).trans (tlt hc122_27).2.2.2) ?_
          show Steps p.tables e below (T26.setTop (mkF m 125 #[.val (.int p0), .val (.int p1), .val (.int p2), .val (.int p3), .val (.int (p0 &&& (255 : Int32))), .val (.int v2), .val (.int v4), .val (.int v6), .val (.int v8), .val (.int v10), .val (.int (F1 (0 : Int32) (v8 + v10))), .val (.ref b14), .val (.ref b24), .unset] [])) _
          refine XS.iload X26.here hx rfl (hb hby at_125) rfl ?_
          show Steps p.tables e below (T26.setTop (mkF m 127 #[.val (.int p0), .val (.int p1), .val (.int p2), .val (.int p3), .val (.int (p0 &&& (255 : Int32))), .val (.int v2), .val (.int v4), .val (.int v6), .val (.int v8), .val (.int v10), .val (.int (F1 (0 : Int32) (v8 + v10))), .val (.ref b14), .val (.ref b24), .unset] [(.int v10)])) _
          have j29 : ∀ t, Steps p.tables e below (T26.setTop (mkF m 135 #[.val (.int p0), .val (.int p1), .val (.int p2), .val (.int p3), .val (.int (p0 &&& (255 : Int32))), .val (.int v2), .val (.int v4), .val (.int v6), .val (.int v8), .val (.int v10), .val (.int (F1 (0 : Int32) (v8 + v10))), .val (.ref b14), .val (.ref b24), .unset] [(.int (if v10 = (0 : Int32) then (1 : Int32) else (0 : Int32)))])) t → Steps p.tables e below (T26.setTop (mkF m 127 #[.val (.int p0), .val (.int p1), .val (.int p2), .val (.int p3), .val (.int (p0 &&& (255 : Int32))), .val (.int v2), .val (.int v4), .val (.int v6), .val (.int v8), .val (.int v10), .val (.int (F1 (0 : Int32) (v8 + v10))), .val (.ref b14), .val (.ref b24), .unset] [(.int v10)])) t := fun t k => by
            by_cases hc127_28 : v10 = (0 : Int32)
            · simp only [if_pos hc127_28] at k
              refine XS.ifNo X26.here hx rfl (hb hby at_127) rfl ((if0 _ _).trans (teq hc127_28).2) ?_
              show Steps p.tables e below (T26.setTop (mkF m 130 #[.val (.int p0), .val (.int p1), .val (.int p2), .val (.int p3), .val (.int (p0 &&& (255 : Int32))), .val (.int v2), .val (.int v4), .val (.int v6), .val (.int v8), .val (.int v10), .val (.int (F1 (0 : Int32) (v8 + v10))), .val (.ref b14), .val (.ref b24), .unset] [])) _
              refine XS.iconst X26.here hx rfl (hb hby at_130) ?_
              show Steps p.tables e below (T26.setTop (mkF m 131 #[.val (.int p0), .val (.int p1), .val (.int p2), .val (.int p3), .val (.int (p0 &&& (255 : Int32))), .val (.int v2), .val (.int v4), .val (.int v6), .val (.int v8), .val (.int v10), .val (.int (F1 (0 : Int32) (v8 + v10))), .val (.ref b14), .val (.ref b24), .unset] [(.int (1 : Int32))])) _
              refine XS.goto X26.here hx rfl (pc0 := 131) (pc' := 135) rfl (hb hby at_131) (by decide) (by decide) ?_
              show Steps p.tables e below (T26.setTop (mkF m 135 #[.val (.int p0), .val (.int p1), .val (.int p2), .val (.int p3), .val (.int (p0 &&& (255 : Int32))), .val (.int v2), .val (.int v4), .val (.int v6), .val (.int v8), .val (.int v10), .val (.int (F1 (0 : Int32) (v8 + v10))), .val (.ref b14), .val (.ref b24), .unset] [(.int (1 : Int32))])) _
              exact k
            · simp only [if_neg hc127_28] at k
              refine XS.ifYes X26.here hx rfl (pc0 := 127) (pc' := 134) rfl (hb hby at_127) rfl ((if0 _ _).trans (feq hc127_28).2) (by decide) (by decide) ?_
              show Steps p.tables e below (T26.setTop (mkF m 134 #[.val (.int p0), .val (.int p1), .val (.int p2), .val (.int p3), .val (.int (p0 &&& (255 : Int32))), .val (.int v2), .val (.int v4), .val (.int v6), .val (.int v8), .val (.int v10), .val (.int (F1 (0 : Int32) (v8 + v10))), .val (.ref b14), .val (.ref b24), .unset] [])) _
              refine XS.iconst X26.here hx rfl (hb hby at_134) ?_
              show Steps p.tables e below (T26.setTop (mkF m 135 #[.val (.int p0), .val (.int p1), .val (.int p2), .val (.int p3), .val (.int (p0 &&& (255 : Int32))), .val (.int v2), .val (.int v4), .val (.int v6), .val (.int v8), .val (.int v10), .val (.int (F1 (0 : Int32) (v8 + v10))), .val (.ref b14), .val (.ref b24), .unset] [(.int (0 : Int32))])) _
              exact k
          refine j29 _ ?_
          show Steps p.tables e below (T26.setTop (mkF m 135 #[.val (.int p0), .val (.int p1), .val (.int p2), .val (.int p3), .val (.int (p0 &&& (255 : Int32))), .val (.int v2), .val (.int v4), .val (.int v6), .val (.int v8), .val (.int v10), .val (.int (F1 (0 : Int32) (v8 + v10))), .val (.ref b14), .val (.ref b24), .unset] [(.int (if v10 = (0 : Int32) then (1 : Int32) else (0 : Int32)))])) _
          exact k
        · simp only [if_neg hc122_27] at k
          refine XS.ifYes X26.here hx rfl (pc0 := 122) (pc' := 134) rfl (hb hby at_122) rfl ((if0 _ _).trans (flt hc122_27).2.2.2) (by decide) (by decide) ?_
          show Steps p.tables e below (T26.setTop (mkF m 134 #[.val (.int p0), .val (.int p1), .val (.int p2), .val (.int p3), .val (.int (p0 &&& (255 : Int32))), .val (.int v2), .val (.int v4), .val (.int v6), .val (.int v8), .val (.int v10), .val (.int (F1 (0 : Int32) (v8 + v10))), .val (.ref b14), .val (.ref b24), .unset] [])) _
          refine XS.iconst X26.here hx rfl (hb hby at_134) ?_
          show Steps p.tables e below (T26.setTop (mkF m 135 #[.val (.int p0), .val (.int p1), .val (.int p2), .val (.int p3), .val (.int (p0 &&& (255 : Int32))), .val (.int v2), .val (.int v4), .val (.int v6), .val (.int v8), .val (.int v10), .val (.int (F1 (0 : Int32) (v8 + v10))), .val (.ref b14), .val (.ref b24), .unset] [(.int (0 : Int32))])) _
          exact k
      refine j30 _ ?_
      show Steps p.tables e below (T26.setTop (mkF m 135 #[.val (.int p0), .val (.int p1), .val (.int p2), .val (.int p3), .val (.int (p0 &&& (255 : Int32))), .val (.int v2), .val (.int v4), .val (.int v6), .val (.int v8), .val (.int v10), .val (.int (F1 (0 : Int32) (v8 + v10))), .val (.ref b14), .val (.ref b24), .unset] [(.int (if (0 : Int32) < v8 then (if v10 = (0 : Int32) then (1 : Int32) else (0 : Int32)) else (0 : Int32)))])) _
      exact k
    obtain ⟨v32, hv32⟩ : ∃ z : Int32, z = (if (0 : Int32) < v8 then (if v10 = (0 : Int32) then (1 : Int32) else (0 : Int32)) else (0 : Int32)) := ⟨_, rfl⟩
    have pre32 : Lead p e below G (T26.setTop (mkF m 135 #[.val (.int p0), .val (.int p1), .val (.int p2), .val (.int p3), .val (.int (p0 &&& (255 : Int32))), .val (.int v2), .val (.int v4), .val (.int v6), .val (.int v8), .val (.int v10), .val (.int (F1 (0 : Int32) (v8 + v10))), .val (.ref b14), .val (.ref b24), .unset] [(.int v32)])) := by rw [hv32]; exact pre31
    have pre33 : Lead p e below G (T26.setTop (mkF m 139 #[.val (.int p0), .val (.int p1), .val (.int p2), .val (.int p3), .val (.int (p0 &&& (255 : Int32))), .val (.int v2), .val (.int v4), .val (.int v6), .val (.int v8), .val (.int v10), .val (.int (F1 (0 : Int32) (v8 + v10))), .val (.ref b14), .val (.ref b24), .val (.int v32)] [(.ref b24)])) := fun t k => by
      refine pre32 t ?_
      show Steps p.tables e below (T26.setTop (mkF m 135 #[.val (.int p0), .val (.int p1), .val (.int p2), .val (.int p3), .val (.int (p0 &&& (255 : Int32))), .val (.int v2), .val (.int v4), .val (.int v6), .val (.int v8), .val (.int v10), .val (.int (F1 (0 : Int32) (v8 + v10))), .val (.ref b14), .val (.ref b24), .unset] [(.int v32)])) _
      refine XS.istore X26.here hx rfl (hb hby at_135) rfl (l' := #[.val (.int p0), .val (.int p1), .val (.int p2), .val (.int p3), .val (.int (p0 &&& (255 : Int32))), .val (.int v2), .val (.int v4), .val (.int v6), .val (.int v8), .val (.int v10), .val (.int (F1 (0 : Int32) (v8 + v10))), .val (.ref b14), .val (.ref b24), .val (.int v32)]) rfl ?_
      show Steps p.tables e below (T26.setTop (mkF m 137 #[.val (.int p0), .val (.int p1), .val (.int p2), .val (.int p3), .val (.int (p0 &&& (255 : Int32))), .val (.int v2), .val (.int v4), .val (.int v6), .val (.int v8), .val (.int v10), .val (.int (F1 (0 : Int32) (v8 + v10))), .val (.ref b14), .val (.ref b24), .val (.int v32)] [])) _
      refine XS.aload X26.here hx rfl (hb hby at_137) rfl rfl ?_
      show Steps p.tables e below (T26.setTop (mkF m 139 #[.val (.int p0), .val (.int p1), .val (.int p2), .val (.int p3), .val (.int (p0 &&& (255 : Int32))), .val (.int v2), .val (.int v4), .val (.int v6), .val (.int v8), .val (.int v10), .val (.int (F1 (0 : Int32) (v8 + v10))), .val (.ref b14), .val (.ref b24), .val (.int v32)] [(.ref b24)])) _
      exact k
    have f35 : JV Value.int Z T26.heap b14 .byte (F1 (0 : Int32) (v8 + v10)) (updF g19 (v22).toNatClampNeg (nar .byte v21)) := ((V23.ext E24).keep K26c (ninS ne24_b14 nin0))
    obtain ⟨cq34, kq34, q34a, q34b, q34c⟩ := isOf hZ rfl c26_0
    obtain ⟨_, _, ⟨T34, L34, k34, n34⟩, -, X34, ⟨Lc34, hQ34, l34, y34, z34⟩, st34⟩ := X26.virtualBack hx (y := (⟨"com/example/quintet/quintet/card/CommandApdu", "sendsLcBytes", "()Z"⟩ : MethodName)) (z := (⟨"com/example/quintet/quintet/card/CommandApdu", "sendsLcBytes", "()Z"⟩ : MethodName)) hown (mvT hZ (hw _ (List.mem_of_getElem? (i := 32) rfl))) (mvT hZ (hw _ (List.mem_of_getElem? (i := 33) rfl))) (notFace_of_selects (args := #[]) (mvT hZ (hw _ (List.mem_of_getElem? (i := 35) rfl)))) (mvT hZ (hw _ (List.mem_of_getElem? (i := 35) rfl))) (mvT hZ (hw _ (List.mem_of_getElem? (i := 34) rfl))) (by decide) (backOf (W := 0) (rm5 l Z a0 hw [] b24 v8 b14 (F1 (0 : Int32) (v8 + v10)) (updF g19 (v22).toNatClampNeg (nar .byte v21)) T26.heap n0 (Nat.le_trans Z0 K26.1) c26_1 c26_2 f35) hZ (hw _ (List.mem_of_getElem? (i := 36) rfl)) (hw _ (List.mem_of_getElem? (i := 8) rfl)) (by decide) (by decide)) q34a q34c (g := (mkF m 139 #[.val (.int p0), .val (.int p1), .val (.int p2), .val (.int p3), .val (.int (p0 &&& (255 : Int32))), .val (.int v2), .val (.int v4), .val (.int v6), .val (.int v8), .val (.int v10), .val (.int (F1 (0 : Int32) (v8 + v10))), .val (.ref b14), .val (.ref b24), .val (.int v32)] [(.ref b24)])) rfl (by rw [hml]; rfl) (Steps.refl _) (argsL := []) (rest := []) (lenOf pd__28__29_Z rfl) rfl (by show 2 * 0 + _ ≤ _; exact Nat.le_of_eq rfl) (hb hby at_139) (fun _ _ => ⟨rfl, rfl, (by decide : 2 + 0 ≤ _), (by decide : 518 + 0 ≤ _)⟩)
    dsimp only [Pt.U, Pt.locs, Pt.cells, Pt.slots] at X34 l34 y34 z34 st34 hQ34
    subst l34 y34 z34
    obtain ⟨rfl, N34q, e34⟩ := hQ34
    have N34 := Fr.app N26 N34q
    have pre34 : Lead p e below G (T34.setTop (mkF m 142 #[.val (.int p0), .val (.int p1), .val (.int p2), .val (.int p3), .val (.int (p0 &&& (255 : Int32))), .val (.int v2), .val (.int v4), .val (.int v6), .val (.int v8), .val (.int v10), .val (.int (F1 (0 : Int32) (v8 + v10))), .val (.ref b14), .val (.ref b24), .val (.int v32)] [(.int (F5 v8 (F1 (0 : Int32) (v8 + v10))))])) := fun t k => pre33 t (st34.trans k)
    have pre38 : Lead p e below G (T34.setTop (mkF m 152 #[.val (.int p0), .val (.int p1), .val (.int p2), .val (.int p3), .val (.int (p0 &&& (255 : Int32))), .val (.int v2), .val (.int v4), .val (.int v6), .val (.int v8), .val (.int v10), .val (.int (F1 (0 : Int32) (v8 + v10))), .val (.ref b14), .val (.ref b24), .val (.int v32)] [(.int (if (F5 v8 (F1 (0 : Int32) (v8 + v10))) = v32 then (1 : Int32) else (0 : Int32)))])) := fun t k => by
      refine pre34 t ?_
      show Steps p.tables e below (T34.setTop (mkF m 142 #[.val (.int p0), .val (.int p1), .val (.int p2), .val (.int p3), .val (.int (p0 &&& (255 : Int32))), .val (.int v2), .val (.int v4), .val (.int v6), .val (.int v8), .val (.int v10), .val (.int (F1 (0 : Int32) (v8 + v10))), .val (.ref b14), .val (.ref b24), .val (.int v32)] [(.int (F5 v8 (F1 (0 : Int32) (v8 + v10))))])) _
      refine XS.iload X34.here hx rfl (hb hby at_142) rfl ?_
      show Steps p.tables e below (T34.setTop (mkF m 144 #[.val (.int p0), .val (.int p1), .val (.int p2), .val (.int p3), .val (.int (p0 &&& (255 : Int32))), .val (.int v2), .val (.int v4), .val (.int v6), .val (.int v8), .val (.int v10), .val (.int (F1 (0 : Int32) (v8 + v10))), .val (.ref b14), .val (.ref b24), .val (.int v32)] [(.int v32), (.int (F5 v8 (F1 (0 : Int32) (v8 + v10))))])) _
      have j37 : ∀ t, Steps p.tables e below (T34.setTop (mkF m 152 #[.val (.int p0), .val (.int p1), .val (.int p2), .val (.int p3), .val (.int (p0 &&& (255 : Int32))), .val (.int v2), .val (.int v4), .val (.int v6), .val (.int v8), .val (.int v10), .val (.int (F1 (0 : Int32) (v8 + v10))), .val (.ref b14), .val (.ref b24), .val (.int v32)] [(.int (if (F5 v8 (F1 (0 : Int32) (v8 + v10))) = v32 then (1 : Int32) else (0 : Int32)))])) t → Steps p.tables e below (T34.setTop (mkF m 144 #[.val (.int p0), .val (.int p1), .val (.int p2), .val (.int p3), .val (.int (p0 &&& (255 : Int32))), .val (.int v2), .val (.int v4), .val (.int v6), .val (.int v8), .val (.int v10), .val (.int (F1 (0 : Int32) (v8 + v10))), .val (.ref b14), .val (.ref b24), .val (.int v32)] [(.int v32), (.int (F5 v8 (F1 (0 : Int32) (v8 + v10))))])) t := fun t k => by
        by_cases hc144_36 : (F5 v8 (F1 (0 : Int32) (v8 + v10))) = v32
        · simp only [if_pos hc144_36] at k
          refine XS.icmpNo X34.here hx rfl (hb hby at_144) rfl (teq hc144_36).2 ?_
          show Steps p.tables e below (T34.setTop (mkF m 147 #[.val (.int p0), .val (.int p1), .val (.int p2), .val (.int p3), .val (.int (p0 &&& (255 : Int32))), .val (.int v2), .val (.int v4), .val (.int v6), .val (.int v8), .val (.int v10), .val (.int (F1 (0 : Int32) (v8 + v10))), .val (.ref b14), .val (.ref b24), .val (.int v32)] [])) _
          refine XS.iconst X34.here hx rfl (hb hby at_147) ?_
          show Steps p.tables e below (T34.setTop (mkF m 148 #[.val (.int p0), .val (.int p1), .val (.int p2), .val (.int p3), .val (.int (p0 &&& (255 : Int32))), .val (.int v2), .val (.int v4), .val (.int v6), .val (.int v8), .val (.int v10), .val (.int (F1 (0 : Int32) (v8 + v10))), .val (.ref b14), .val (.ref b24), .val (.int v32)] [(.int (1 : Int32))])) _
          refine XS.goto X34.here hx rfl (pc0 := 148) (pc' := 152) rfl (hb hby at_148) (by decide) (by decide) ?_
          show Steps p.tables e below (T34.setTop (mkF m 152 #[.val (.int p0), .val (.int p1), .val (.int p2), .val (.int p3), .val (.int (p0 &&& (255 : Int32))), .val (.int v2), .val (.int v4), .val (.int v6), .val (.int v8), .val (.int v10), .val (.int (F1 (0 : Int32) (v8 + v10))), .val (.ref b14), .val (.ref b24), .val (.int v32)] [(.int (1 : Int32))])) _
          exact k
        · simp only [if_neg hc144_36] at k
          refine XS.icmpYes X34.here hx rfl (pc0 := 144) (pc' := 151) rfl (hb hby at_144) rfl (feq hc144_36).2 (by decide) (by decide) ?_
          show Steps p.tables e below (T34.setTop (mkF m 151 #[.val (.int p0), .val (.int p1), .val (.int p2), .val (.int p3), .val (.int (p0 &&& (255 : Int32))), .val (.int v2), .val (.int v4), .val (.int v6), .val (.int v8), .val (.int v10), .val (.int (F1 (0 : Int32) (v8 + v10))), .val (.ref b14), .val (.ref b24), .val (.int v32)] [])) _
          refine XS.iconst X34.here hx rfl (hb hby at_151) ?_
          show Steps p.tables e below (T34.setTop (mkF m 152 #[.val (.int p0), .val (.int p1), .val (.int p2), .val (.int p3), .val (.int (p0 &&& (255 : Int32))), .val (.int v2), .val (.int v4), .val (.int v6), .val (.int v8), .val (.int v10), .val (.int (F1 (0 : Int32) (v8 + v10))), .val (.ref b14), .val (.ref b24), .val (.int v32)] [(.int (0 : Int32))])) _
          exact k
      refine j37 _ ?_
      show Steps p.tables e below (T34.setTop (mkF m 152 #[.val (.int p0), .val (.int p1), .val (.int p2), .val (.int p3), .val (.int (p0 &&& (255 : Int32))), .val (.int v2), .val (.int v4), .val (.int v6), .val (.int v8), .val (.int v10), .val (.int (F1 (0 : Int32) (v8 + v10))), .val (.ref b14), .val (.ref b24), .val (.int v32)] [(.int (if (F5 v8 (F1 (0 : Int32) (v8 + v10))) = v32 then (1 : Int32) else (0 : Int32)))])) _
      exact k
    obtain ⟨v39, hv39⟩ : ∃ z : Int32, z = (if (F5 v8 (F1 (0 : Int32) (v8 + v10))) = v32 then (1 : Int32) else (0 : Int32)) := ⟨_, rfl⟩
    have pre39 : Lead p e below G (T34.setTop (mkF m 152 #[.val (.int p0), .val (.int p1), .val (.int p2), .val (.int p3), .val (.int (p0 &&& (255 : Int32))), .val (.int v2), .val (.int v4), .val (.int v6), .val (.int v8), .val (.int v10), .val (.int (F1 (0 : Int32) (v8 + v10))), .val (.ref b14), .val (.ref b24), .val (.int v32)] [(.int v39)])) := by rw [hv39]; exact pre38
    obtain ⟨fs, hr, hrun, hended, hW, hsame⟩ := X34.leave (v := some (.int (nar .boolean v39))) (fun h => by rw [Bd.returns] at h; cases h)
    subst hG
    refine ⟨_, _, pre39 _ ?_, hrun, hended, _, _, rfl, ?_, ⟨_, rfl⟩, hW, hsame.mono (by decide) (by decide)⟩
    · show Steps p.tables e below (T34.setTop (mkF m 152 #[.val (.int p0), .val (.int p1), .val (.int p2), .val (.int p3), .val (.int (p0 &&& (255 : Int32))), .val (.int v2), .val (.int v4), .val (.int v6), .val (.int v8), .val (.int v10), .val (.int (F1 (0 : Int32) (v8 + v10))), .val (.ref b14), .val (.ref b24), .val (.int v32)] [(.int v39)])) _
      exact retN X34 hx (t := .boolean) Bd.returns (by simp) (hb hby at_152) hr
    · show Q0 Z p0 p1 p2 p3 h0 n0 _ T34.heap _
      refine ⟨congrArg (fun z => some (Value.int z)) (Eq.trans (?_ : (nar .boolean v39) = F0 p0 p1 p2 p3) (own_law p0 p1 p2 p3)), N34⟩
      subst hv39 hv32 hv22 hv21 hg19 hv10 hv8 hv6 hv4 hv2
      unfold F0; simp only [if_pos hs78_17]
  · have pre40 : Lead p e below G (T14.setTop (mkF m 99 #[.val (.int p0), .val (.int p1), .val (.int p2), .val (.int p3), .val (.int (p0 &&& (255 : Int32))), .val (.int v2), .val (.int v4), .val (.int v6), .val (.int v8), .val (.int v10), .val (.int (F1 (0 : Int32) (v8 + v10))), .val (.ref b14), .unset, .unset] [])) := fun t k => by
      refine pre16 t ?_
      show Steps p.tables e below (T14.setTop (mkF m 78 #[.val (.int p0), .val (.int p1), .val (.int p2), .val (.int p3), .val (.int (p0 &&& (255 : Int32))), .val (.int v2), .val (.int v4), .val (.int v6), .val (.int v8), .val (.int v10), .val (.int (F1 (0 : Int32) (v8 + v10))), .val (.ref b14), .unset, .unset] [(.int (F1 (0 : Int32) (v8 + v10)))])) _
      refine XS.ifYes X14.here hx rfl (pc0 := 78) (pc' := 99) rfl (hb hby at_78) rfl ((if0 _ _).trans (flt hs78_17).2.2.2) (by decide) (by decide) ?_
      show Steps p.tables e below (T14.setTop (mkF m 99 #[.val (.int p0), .val (.int p1), .val (.int p2), .val (.int p3), .val (.int (p0 &&& (255 : Int32))), .val (.int v2), .val (.int v4), .val (.int v6), .val (.int v8), .val (.int v10), .val (.int (F1 (0 : Int32) (v8 + v10))), .val (.ref b14), .unset, .unset] [])) _
      exact k
    obtain ⟨T41, h41, X41, e41, E41, A41, D41, -, st41⟩ := newO X14 hx hZ hown (hw _ (List.mem_of_getElem? (i := 6) rfl)) (hw _ (List.mem_of_getElem? (i := 7) rfl)) (hw _ (List.mem_of_getElem? (i := 8) rfl)) e14 (g := (mkF m 99 #[.val (.int p0), .val (.int p1), .val (.int p2), .val (.int p3), .val (.int (p0 &&& (255 : Int32))), .val (.int v2), .val (.int v4), .val (.int v6), .val (.int v8), .val (.int v10), .val (.int (F1 (0 : Int32) (v8 + v10))), .val (.ref b14), .unset, .unset] [])) rfl (hb hby at_99) (by decide) (by decide)
    obtain ⟨b41, g41⟩ : ∃ z, z = h14.size := ⟨_, rfl⟩
    rw [← g41] at A41 D41 st41
    have ne41_b14 : b14 ≠ b41 := Nat.ne_of_lt (Nat.lt_of_lt_of_le V14.lt (Nat.le_of_eq g41.symm))
    have sz41 : h0.size ≤ b41 := Nat.le_trans K14.1 (Nat.le_of_eq g41.symm)
    have ge41 : n0 ≤ b41 := Nat.le_trans Z0 sz41
    have K41 : Keep h0 h41 [] := K14.ext E41
    have F41_cla : Fld Z h41 b41 "com/example/quintet/quintet/card/CommandApdu" "cla" "I" (.int (0 : Int32)) := D41 (Or.inr (hw _ (List.mem_of_getElem? (i := 21) rfl))) (ty := .int) (by decide)
    have F41_ins : Fld Z h41 b41 "com/example/quintet/quintet/card/CommandApdu" "ins" "I" (.int (0 : Int32)) := D41 (Or.inr (hw _ (List.mem_of_getElem? (i := 23) rfl))) (ty := .int) (by decide)
    have F41_p1 : Fld Z h41 b41 "com/example/quintet/quintet/card/CommandApdu" "p1" "I" (.int (0 : Int32)) := D41 (Or.inr (hw _ (List.mem_of_getElem? (i := 25) rfl))) (ty := .int) (by decide)
    have F41_p2 : Fld Z h41 b41 "com/example/quintet/quintet/card/CommandApdu" "p2" "I" (.int (0 : Int32)) := D41 (Or.inr (hw _ (List.mem_of_getElem? (i := 27) rfl))) (ty := .int) (by decide)
    have F41_p3 : Fld Z h41 b41 "com/example/quintet/quintet/card/CommandApdu" "p3" "I" (.int (0 : Int32)) := D41 (Or.inr (hw _ (List.mem_of_getElem? (i := 29) rfl))) (ty := .int) (by decide)
    have F41_data : Fld Z h41 b41 "com/example/quintet/quintet/card/CommandApdu" "data" "[B" .null := D41 (Or.inr (hw _ (List.mem_of_getElem? (i := 31) rfl))) (ty := (.array .byte)) (by decide)
    have pre41 : Lead p e below G (T41.setTop (mkF m 102 #[.val (.int p0), .val (.int p1), .val (.int p2), .val (.int p3), .val (.int (p0 &&& (255 : Int32))), .val (.int v2), .val (.int v4), .val (.int v6), .val (.int v8), .val (.int v10), .val (.int (F1 (0 : Int32) (v8 + v10))), .val (.ref b14), .unset, .unset] [(.ref b41)])) := fun t k => pre40 t (st41 _ k)
    have pre42 : Lead p e below G (T41.setTop (mkF m 115 #[.val (.int p0), .val (.int p1), .val (.int p2), .val (.int p3), .val (.int (p0 &&& (255 : Int32))), .val (.int v2), .val (.int v4), .val (.int v6), .val (.int v8), .val (.int v10), .val (.int (F1 (0 : Int32) (v8 + v10))), .val (.ref b14), .unset, .unset] [(.ref b14), (.int v8), (.int v6), (.int v4), (.int v2), (.int (p0 &&& (255 : Int32))), (.ref b41), (.ref b41)])) := fun t k => by
      refine pre41 t ?_
      show Steps p.tables e below (T41.setTop (mkF m 102 #[.val (.int p0), .val (.int p1), .val (.int p2), .val (.int p3), .val (.int (p0 &&& (255 : Int32))), .val (.int v2), .val (.int v4), .val (.int v6), .val (.int v8), .val (.int v10), .val (.int (F1 (0 : Int32) (v8 + v10))), .val (.ref b14), .unset, .unset] [(.ref b41)])) _
      refine XS.dup X41.here hx rfl (hb hby at_102) rfl rfl ?_
      show Steps p.tables e below (T41.setTop (mkF m 103 #[.val (.int p0), .val (.int p1), .val (.int p2), .val (.int p3), .val (.int (p0 &&& (255 : Int32))), .val (.int v2), .val (.int v4), .val (.int v6), .val (.int v8), .val (.int v10), .val (.int (F1 (0 : Int32) (v8 + v10))), .val (.ref b14), .unset, .unset] [(.ref b41), (.ref b41)])) _
      refine XS.iload X41.here hx rfl (hb hby at_103) rfl ?_
      show Steps p.tables e below (T41.setTop (mkF m 105 #[.val (.int p0), .val (.int p1), .val (.int p2), .val (.int p3), .val (.int (p0 &&& (255 : Int32))), .val (.int v2), .val (.int v4), .val (.int v6), .val (.int v8), .val (.int v10), .val (.int (F1 (0 : Int32) (v8 + v10))), .val (.ref b14), .unset, .unset] [(.int (p0 &&& (255 : Int32))), (.ref b41), (.ref b41)])) _
      refine XS.iload X41.here hx rfl (hb hby at_105) rfl ?_
      show Steps p.tables e below (T41.setTop (mkF m 107 #[.val (.int p0), .val (.int p1), .val (.int p2), .val (.int p3), .val (.int (p0 &&& (255 : Int32))), .val (.int v2), .val (.int v4), .val (.int v6), .val (.int v8), .val (.int v10), .val (.int (F1 (0 : Int32) (v8 + v10))), .val (.ref b14), .unset, .unset] [(.int v2), (.int (p0 &&& (255 : Int32))), (.ref b41), (.ref b41)])) _
      refine XS.iload X41.here hx rfl (hb hby at_107) rfl ?_
      show Steps p.tables e below (T41.setTop (mkF m 109 #[.val (.int p0), .val (.int p1), .val (.int p2), .val (.int p3), .val (.int (p0 &&& (255 : Int32))), .val (.int v2), .val (.int v4), .val (.int v6), .val (.int v8), .val (.int v10), .val (.int (F1 (0 : Int32) (v8 + v10))), .val (.ref b14), .unset, .unset] [(.int v4), (.int v2), (.int (p0 &&& (255 : Int32))), (.ref b41), (.ref b41)])) _
      refine XS.iload X41.here hx rfl (hb hby at_109) rfl ?_
      show Steps p.tables e below (T41.setTop (mkF m 111 #[.val (.int p0), .val (.int p1), .val (.int p2), .val (.int p3), .val (.int (p0 &&& (255 : Int32))), .val (.int v2), .val (.int v4), .val (.int v6), .val (.int v8), .val (.int v10), .val (.int (F1 (0 : Int32) (v8 + v10))), .val (.ref b14), .unset, .unset] [(.int v6), (.int v4), (.int v2), (.int (p0 &&& (255 : Int32))), (.ref b41), (.ref b41)])) _
      refine XS.iload X41.here hx rfl (hb hby at_111) rfl ?_
      show Steps p.tables e below (T41.setTop (mkF m 113 #[.val (.int p0), .val (.int p1), .val (.int p2), .val (.int p3), .val (.int (p0 &&& (255 : Int32))), .val (.int v2), .val (.int v4), .val (.int v6), .val (.int v8), .val (.int v10), .val (.int (F1 (0 : Int32) (v8 + v10))), .val (.ref b14), .unset, .unset] [(.int v8), (.int v6), (.int v4), (.int v2), (.int (p0 &&& (255 : Int32))), (.ref b41), (.ref b41)])) _
      refine XS.aload X41.here hx rfl (hb hby at_113) rfl rfl ?_
      show Steps p.tables e below (T41.setTop (mkF m 115 #[.val (.int p0), .val (.int p1), .val (.int p2), .val (.int p3), .val (.int (p0 &&& (255 : Int32))), .val (.int v2), .val (.int v4), .val (.int v6), .val (.int v8), .val (.int v10), .val (.int (F1 (0 : Int32) (v8 + v10))), .val (.ref b14), .unset, .unset] [(.ref b14), (.int v8), (.int v6), (.int v4), (.int v2), (.int (p0 &&& (255 : Int32))), (.ref b41), (.ref b41)])) _
      exact k
    obtain ⟨_, _, ⟨T43, L43, k43, n43⟩, -, X43, ⟨Lc43, hQ43, l43, y43, z43⟩, st43⟩ := X41.specialBack hx (y := (⟨"com/example/quintet/quintet/card/CommandApdu", "<init>", "(IIIII[B)V"⟩ : MethodName)) rfl hown (mvT hZ (hw _ (List.mem_of_getElem? (i := 9) rfl))) (mvT hZ (hw _ (List.mem_of_getElem? (i := 10) rfl))) (mvT hZ (hw _ (List.mem_of_getElem? (i := 11) rfl))) (by decide) (backOf (W := 1) (rm2 l Z a0 hw [] b41 (p0 &&& (255 : Int32)) v2 v4 v6 v8 b14  h41 n0 (Nat.le_trans Z0 K41.1) A41 ge41 F41_cla F41_ins F41_p1 F41_p2 F41_p3 F41_data) hZ (hw _ (List.mem_of_getElem? (i := 11) rfl)) (hw _ (List.mem_of_getElem? (i := 8) rfl)) (by decide) (by decide)) (g := (mkF m 115 #[.val (.int p0), .val (.int p1), .val (.int p2), .val (.int p3), .val (.int (p0 &&& (255 : Int32))), .val (.int v2), .val (.int v4), .val (.int v6), .val (.int v8), .val (.int v10), .val (.int (F1 (0 : Int32) (v8 + v10))), .val (.ref b14), .unset, .unset] [(.ref b14), (.int v8), (.int v6), (.int v4), (.int v2), (.int (p0 &&& (255 : Int32))), (.ref b41), (.ref b41)])) rfl (by rw [hml]; rfl) (Steps.refl _) (a := b41) (argsL := [(.int (p0 &&& (255 : Int32))), (.int v2), (.int v4), (.int v6), (.int v8), (.ref b14)]) (rest := [(.ref b41)]) (lenOf pd__28_IIIII_5b_B_29_V rfl) rfl (by show 2 * 0 + _ ≤ _; exact Nat.le_of_eq rfl) (hb hby at_115) (fun _ _ => ⟨rfl, e41, (by decide : 2 + 0 ≤ _), (by decide : 518 + 0 ≤ _)⟩)
    dsimp only [Pt.U, Pt.locs, Pt.cells, Pt.slots] at X43 l43 y43 z43 st43 hQ43
    subst l43 y43 z43
    obtain ⟨rfl, N43q, K43c, c43_0, c43_1, c43_2⟩ := hQ43
    have N43 := Fr.app N12 N43q
    have K43 : Keep h0 T43.heap [] := K41.trans K43c (allS (Or.inr sz41) all0)
    have pre43 : Lead p e below G (T43.setTop (mkF m 118 #[.val (.int p0), .val (.int p1), .val (.int p2), .val (.int p3), .val (.int (p0 &&& (255 : Int32))), .val (.int v2), .val (.int v4), .val (.int v6), .val (.int v8), .val (.int v10), .val (.int (F1 (0 : Int32) (v8 + v10))), .val (.ref b14), .unset, .unset] [(.ref b41)])) := fun t k => pre42 t (st43.trans k)
    have pre48 : Lead p e below G (T43.setTop (mkF m 135 #[.val (.int p0), .val (.int p1), .val (.int p2), .val (.int p3), .val (.int (p0 &&& (255 : Int32))), .val (.int v2), .val (.int v4), .val (.int v6), .val (.int v8), .val (.int v10), .val (.int (F1 (0 : Int32) (v8 + v10))), .val (.ref b14), .val (.ref b41), .unset] [(.int (if (0 : Int32) < v8 then (if v10 = (0 : Int32) then (1 : Int32) else (0 : Int32)) else (0 : Int32)))])) := fun t k => by
      refine pre43 t ?_
      show Steps p.tables e below (T43.setTop (mkF m 118 #[.val (.int p0), .val (.int p1), .val (.int p2), .val (.int p3), .val (.int (p0 &&& (255 : Int32))), .val (.int v2), .val (.int v4), .val (.int v6), .val (.int v8), .val (.int v10), .val (.int (F1 (0 : Int32) (v8 + v10))), .val (.ref b14), .unset, .unset] [(.ref b41)])) _
      refine XS.astore X43.here hx rfl (hb hby at_118) rfl rfl (l' := #[.val (.int p0), .val (.int p1), .val (.int p2), .val (.int p3), .val (.int (p0 &&& (255 : Int32))), .val (.int v2), .val (.int v4), .val (.int v6), .val (.int v8), .val (.int v10), .val (.int (F1 (0 : Int32) (v8 + v10))), .val (.ref b14), .val (.ref b41), .unset]) rfl ?_
      show Steps p.tables e below (T43.setTop (mkF m 120 #[.val (.int p0), .val (.int p1), .val (.int p2), .val (.int p3), .val (.int (p0 &&& (255 : Int32))), .val (.int v2), .val (.int v4), .val (.int v6), .val (.int v8), .val (.int v10), .val (.int (F1 (0 : Int32) (v8 + v10))), .val (.ref b14), .val (.ref b41), .unset] [])) _
      refine XS.iload X43.here hx rfl (hb hby at_120) rfl ?_
      show Steps p.tables e below (T43.setTop (mkF m 122 #[.val (.int p0), .val (.int p1), .val (.int p2), .val (.int p3), .val (.int (p0 &&& (255 : Int32))), .val (.int v2), .val (.int v4), .val (.int v6), .val (.int v8), .val (.int v10), .val (.int (F1 (0 : Int32) (v8 + v10))), .val (.ref b14), .val (.ref b41), .unset] [(.int v8)])) _
      have j47 : ∀ t, Steps p.tables e below (T43.setTop (mkF m 135 #[.val (.int p0), .val (.int p1), .val (.int p2), .val (.int p3), .val (.int (p0 &&& (255 : Int32))), .val (.int v2), .val (.int v4), .val (.int v6), .val (.int v8), .val (.int v10), .val (.int (F1 (0 : Int32) (v8 + v10))), .val (.ref b14), .val (.ref b41), .unset] [(.int (if (0 : Int32) < v8 then (if v10 = (0 : Int32) then (1 : Int32) else (0 : Int32)) else (0 : Int32)))])) t → Steps p.tables e below (T43.setTop (mkF m 122 #[.val (.int p0), .val (.int p1), .val (.int p2), .val (.int p3), .val (.int (p0 &&& (255 : Int32))), .val (.int v2), .val (.int v4), .val (.int v6), .val (.int v8), .val (.int v10), .val (.int (F1 (0 : Int32) (v8 + v10))), .val (.ref b14), .val (.ref b41), .unset] [(.int v8)])) t := fun t k => by
        by_cases hc122_44 : (0 : Int32) < v8
        · simp only [if_pos hc122_44] at k
          refine XS.ifNo X43.here hx rfl (hb hby at_122) rfl ((if0 _ _).trans (tlt hc122_44).2.2.2) ?_
          show Steps p.tables e below (T43.setTop (mkF m 125 #[.val (.int p0), .val (.int p1), .val (.int p2), .val (.int p3), .val (.int (p0 &&& (255 : Int32))), .val (.int v2), .val (.int v4), .val (.int v6), .val (.int v8), .val (.int v10), .val (.int (F1 (0 : Int32) (v8 + v10))), .val (.ref b14), .val (.ref b41), .unset] [])) _
          refine XS.iload X43.here hx rfl (hb hby at_125) rfl ?_
          show Steps p.tables e below (T43.setTop (mkF m 127 #[.val (.int p0), .val (.int p1), .val (.int p2), .val (.int p3), .val (.int (p0 &&& (255 : Int32))), .val (.int v2), .val (.int v4), .val (.int v6), .val (.int v8), .val (.int v10), .val (.int (F1 (0 : Int32) (v8 + v10))), .val (.ref b14), .val (.ref b41), .unset] [(.int v10)])) _
          have j46 : ∀ t, Steps p.tables e below (T43.setTop (mkF m 135 #[.val (.int p0), .val (.int p1), .val (.int p2), .val (.int p3), .val (.int (p0 &&& (255 : Int32))), .val (.int v2), .val (.int v4), .val (.int v6), .val (.int v8), .val (.int v10), .val (.int (F1 (0 : Int32) (v8 + v10))), .val (.ref b14), .val (.ref b41), .unset] [(.int (if v10 = (0 : Int32) then (1 : Int32) else (0 : Int32)))])) t → Steps p.tables e below (T43.setTop (mkF m 127 #[.val (.int p0), .val (.int p1), .val (.int p2), .val (.int p3), .val (.int (p0 &&& (255 : Int32))), .val (.int v2), .val (.int v4), .val (.int v6), .val (.int v8), .val (.int v10), .val (.int (F1 (0 : Int32) (v8 + v10))), .val (.ref b14), .val (.ref b41), .unset] [(.int v10)])) t := fun t k => by
            by_cases hc127_45 : v10 = (0 : Int32)
            · simp only [if_pos hc127_45] at k
              refine XS.ifNo X43.here hx rfl (hb hby at_127) rfl ((if0 _ _).trans (teq hc127_45).2) ?_
              show Steps p.tables e below (T43.setTop (mkF m 130 #[.val (.int p0), .val (.int p1), .val (.int p2), .val (.int p3), .val (.int (p0 &&& (255 : Int32))), .val (.int v2), .val (.int v4), .val (.int v6), .val (.int v8), .val (.int v10), .val (.int (F1 (0 : Int32) (v8 + v10))), .val (.ref b14), .val (.ref b41), .unset] [])) _
              refine XS.iconst X43.here hx rfl (hb hby at_130) ?_
              show Steps p.tables e below (T43.setTop (mkF m 131 #[.val (.int p0), .val (.int p1), .val (.int p2), .val (.int p3), .val (.int (p0 &&& (255 : Int32))), .val (.int v2), .val (.int v4), .val (.int v6), .val (.int v8), .val (.int v10), .val (.int (F1 (0 : Int32) (v8 + v10))), .val (.ref b14), .val (.ref b41), .unset] [(.int (1 : Int32))])) _
              refine XS.goto X43.here hx rfl (pc0 := 131) (pc' := 135) rfl (hb hby at_131) (by decide) (by decide) ?_
              show Steps p.tables e below (T43.setTop (mkF m 135 #[.val (.int p0), .val (.int p1), .val (.int p2), .val (.int p3), .val (.int (p0 &&& (255 : Int32))), .val (.int v2), .val (.int v4), .val (.int v6), .val (.int v8), .val (.int v10), .val (.int (F1 (0 : Int32) (v8 + v10))), .val (.ref b14), .val (.ref b41), .unset] [(.int (1 : Int32))])) _
              exact k
            · simp only [if_neg hc127_45] at k
              refine XS.ifYes X43.here hx rfl (pc0 := 127) (pc' := 134) rfl (hb hby at_127) rfl ((if0 _ _).trans (feq hc127_45).2) (by decide) (by decide) ?_
              show Steps p.tables e below (T43.setTop (mkF m 134 #[.val (.int p0), .val (.int p1), .val (.int p2), .val (.int p3), .val (.int (p0 &&& (255 : Int32))), .val (.int v2), .val (.int v4), .val (.int v6), .val (.int v8), .val (.int v10), .val (.int (F1 (0 : Int32) (v8 + v10))), .val (.ref b14), .val (.ref b41), .unset] [])) _
              refine XS.iconst X43.here hx rfl (hb hby at_134) ?_
              show Steps p.tables e below (T43.setTop (mkF m 135 #[.val (.int p0), .val (.int p1), .val (.int p2), .val (.int p3), .val (.int (p0 &&& (255 : Int32))), .val (.int v2), .val (.int v4), .val (.int v6), .val (.int v8), .val (.int v10), .val (.int (F1 (0 : Int32) (v8 + v10))), .val (.ref b14), .val (.ref b41), .unset] [(.int (0 : Int32))])) _
              exact k
          refine j46 _ ?_
          show Steps p.tables e below (T43.setTop (mkF m 135 #[.val (.int p0), .val (.int p1), .val (.int p2), .val (.int p3), .val (.int (p0 &&& (255 : Int32))), .val (.int v2), .val (.int v4), .val (.int v6), .val (.int v8), .val (.int v10), .val (.int (F1 (0 : Int32) (v8 + v10))), .val (.ref b14), .val (.ref b41), .unset] [(.int (if v10 = (0 : Int32) then (1 : Int32) else (0 : Int32)))])) _
          exact k
        · simp only [if_neg hc122_44] at k
          refine XS.ifYes X43.here hx rfl (pc0 := 122) (pc' := 134) rfl (hb hby at_122) rfl ((if0 _ _).trans (flt hc122_44).2.2.2) (by decide) (by decide) ?_
          show Steps p.tables e below (T43.setTop (mkF m 134 #[.val (.int p0), .val (.int p1), .val (.int p2), .val (.int p3), .val (.int (p0 &&& (255 : Int32))), .val (.int v2), .val (.int v4), .val (.int v6), .val (.int v8), .val (.int v10), .val (.int (F1 (0 : Int32) (v8 + v10))), .val (.ref b14), .val (.ref b41), .unset] [])) _
          refine XS.iconst X43.here hx rfl (hb hby at_134) ?_
          show Steps p.tables e below (T43.setTop (mkF m 135 #[.val (.int p0), .val (.int p1), .val (.int p2), .val (.int p3), .val (.int (p0 &&& (255 : Int32))), .val (.int v2), .val (.int v4), .val (.int v6), .val (.int v8), .val (.int v10), .val (.int (F1 (0 : Int32) (v8 + v10))), .val (.ref b14), .val (.ref b41), .unset] [(.int (0 : Int32))])) _
          exact k
      refine j47 _ ?_
      show Steps p.tables e below (T43.setTop (mkF m 135 #[.val (.int p0), .val (.int p1), .val (.int p2), .val (.int p3), .val (.int (p0 &&& (255 : Int32))), .val (.int v2), .val (.int v4), .val (.int v6), .val (.int v8), .val (.int v10), .val (.int (F1 (0 : Int32) (v8 + v10))), .val (.ref b14), .val (.ref b41), .unset] [(.int (if (0 : Int32) < v8 then (if v10 = (0 : Int32) then (1 : Int32) else (0 : Int32)) else (0 : Int32)))])) _
      exact k
    obtain ⟨v49, hv49⟩ : ∃ z : Int32, z = (if (0 : Int32) < v8 then (if v10 = (0 : Int32) then (1 : Int32) else (0 : Int32)) else (0 : Int32)) := ⟨_, rfl⟩
    have pre49 : Lead p e below G (T43.setTop (mkF m 135 #[.val (.int p0), .val (.int p1), .val (.int p2), .val (.int p3), .val (.int (p0 &&& (255 : Int32))), .val (.int v2), .val (.int v4), .val (.int v6), .val (.int v8), .val (.int v10), .val (.int (F1 (0 : Int32) (v8 + v10))), .val (.ref b14), .val (.ref b41), .unset] [(.int v49)])) := by rw [hv49]; exact pre48
    have pre50 : Lead p e below G (T43.setTop (mkF m 139 #[.val (.int p0), .val (.int p1), .val (.int p2), .val (.int p3), .val (.int (p0 &&& (255 : Int32))), .val (.int v2), .val (.int v4), .val (.int v6), .val (.int v8), .val (.int v10), .val (.int (F1 (0 : Int32) (v8 + v10))), .val (.ref b14), .val (.ref b41), .val (.int v49)] [(.ref b41)])) := fun t k => by
      refine pre49 t ?_
      show Steps p.tables e below (T43.setTop (mkF m 135 #[.val (.int p0), .val (.int p1), .val (.int p2), .val (.int p3), .val (.int (p0 &&& (255 : Int32))), .val (.int v2), .val (.int v4), .val (.int v6), .val (.int v8), .val (.int v10), .val (.int (F1 (0 : Int32) (v8 + v10))), .val (.ref b14), .val (.ref b41), .unset] [(.int v49)])) _
      refine XS.istore X43.here hx rfl (hb hby at_135) rfl (l' := #[.val (.int p0), .val (.int p1), .val (.int p2), .val (.int p3), .val (.int (p0 &&& (255 : Int32))), .val (.int v2), .val (.int v4), .val (.int v6), .val (.int v8), .val (.int v10), .val (.int (F1 (0 : Int32) (v8 + v10))), .val (.ref b14), .val (.ref b41), .val (.int v49)]) rfl ?_
      show Steps p.tables e below (T43.setTop (mkF m 137 #[.val (.int p0), .val (.int p1), .val (.int p2), .val (.int p3), .val (.int (p0 &&& (255 : Int32))), .val (.int v2), .val (.int v4), .val (.int v6), .val (.int v8), .val (.int v10), .val (.int (F1 (0 : Int32) (v8 + v10))), .val (.ref b14), .val (.ref b41), .val (.int v49)] [])) _
      refine XS.aload X43.here hx rfl (hb hby at_137) rfl rfl ?_
      show Steps p.tables e below (T43.setTop (mkF m 139 #[.val (.int p0), .val (.int p1), .val (.int p2), .val (.int p3), .val (.int (p0 &&& (255 : Int32))), .val (.int v2), .val (.int v4), .val (.int v6), .val (.int v8), .val (.int v10), .val (.int (F1 (0 : Int32) (v8 + v10))), .val (.ref b14), .val (.ref b41), .val (.int v49)] [(.ref b41)])) _
      exact k
    have f52 : JV Value.int Z T43.heap b14 .byte (F1 (0 : Int32) (v8 + v10)) (fun _ => (0 : Int32)) := ((V14.ext E41).keep K43c (ninS ne41_b14 nin0))
    obtain ⟨cq51, kq51, q51a, q51b, q51c⟩ := isOf hZ rfl c43_0
    obtain ⟨_, _, ⟨T51, L51, k51, n51⟩, -, X51, ⟨Lc51, hQ51, l51, y51, z51⟩, st51⟩ := X43.virtualBack hx (y := (⟨"com/example/quintet/quintet/card/CommandApdu", "sendsLcBytes", "()Z"⟩ : MethodName)) (z := (⟨"com/example/quintet/quintet/card/CommandApdu", "sendsLcBytes", "()Z"⟩ : MethodName)) hown (mvT hZ (hw _ (List.mem_of_getElem? (i := 32) rfl))) (mvT hZ (hw _ (List.mem_of_getElem? (i := 33) rfl))) (notFace_of_selects (args := #[]) (mvT hZ (hw _ (List.mem_of_getElem? (i := 35) rfl)))) (mvT hZ (hw _ (List.mem_of_getElem? (i := 35) rfl))) (mvT hZ (hw _ (List.mem_of_getElem? (i := 34) rfl))) (by decide) (backOf (W := 0) (rm5 l Z a0 hw [] b41 v8 b14 (F1 (0 : Int32) (v8 + v10)) (fun _ => (0 : Int32)) T43.heap n0 (Nat.le_trans Z0 K43.1) c43_1 c43_2 f52) hZ (hw _ (List.mem_of_getElem? (i := 36) rfl)) (hw _ (List.mem_of_getElem? (i := 8) rfl)) (by decide) (by decide)) q51a q51c (g := (mkF m 139 #[.val (.int p0), .val (.int p1), .val (.int p2), .val (.int p3), .val (.int (p0 &&& (255 : Int32))), .val (.int v2), .val (.int v4), .val (.int v6), .val (.int v8), .val (.int v10), .val (.int (F1 (0 : Int32) (v8 + v10))), .val (.ref b14), .val (.ref b41), .val (.int v49)] [(.ref b41)])) rfl (by rw [hml]; rfl) (Steps.refl _) (argsL := []) (rest := []) (lenOf pd__28__29_Z rfl) rfl (by show 2 * 0 + _ ≤ _; exact Nat.le_of_eq rfl) (hb hby at_139) (fun _ _ => ⟨rfl, rfl, (by decide : 2 + 0 ≤ _), (by decide : 518 + 0 ≤ _)⟩)
    dsimp only [Pt.U, Pt.locs, Pt.cells, Pt.slots] at X51 l51 y51 z51 st51 hQ51
    subst l51 y51 z51
    obtain ⟨rfl, N51q, e51⟩ := hQ51
    have N51 := Fr.app N43 N51q
    have pre51 : Lead p e below G (T51.setTop (mkF m 142 #[.val (.int p0), .val (.int p1), .val (.int p2), .val (.int p3), .val (.int (p0 &&& (255 : Int32))), .val (.int v2), .val (.int v4), .val (.int v6), .val (.int v8), .val (.int v10), .val (.int (F1 (0 : Int32) (v8 + v10))), .val (.ref b14), .val (.ref b41), .val (.int v49)] [(.int (F5 v8 (F1 (0 : Int32) (v8 + v10))))])) := fun t k => pre50 t (st51.trans k)
    have pre55 : Lead p e below G (T51.setTop (mkF m 152 #[.val (.int p0), .val (.int p1), .val (.int p2), .val (.int p3), .val (.int (p0 &&& (255 : Int32))), .val (.int v2), .val (.int v4), .val (.int v6), .val (.int v8), .val (.int v10), .val (.int (F1 (0 : Int32) (v8 + v10))), .val (.ref b14), .val (.ref b41), .val (.int v49)] [(.int (if (F5 v8 (F1 (0 : Int32) (v8 + v10))) = v49 then (1 : Int32) else (0 : Int32)))])) := fun t k => by
      refine pre51 t ?_
      show Steps p.tables e below (T51.setTop (mkF m 142 #[.val (.int p0), .val (.int p1), .val (.int p2), .val (.int p3), .val (.int (p0 &&& (255 : Int32))), .val (.int v2), .val (.int v4), .val (.int v6), .val (.int v8), .val (.int v10), .val (.int (F1 (0 : Int32) (v8 + v10))), .val (.ref b14), .val (.ref b41), .val (.int v49)] [(.int (F5 v8 (F1 (0 : Int32) (v8 + v10))))])) _
      refine XS.iload X51.here hx rfl (hb hby at_142) rfl ?_
      show Steps p.tables e below (T51.setTop (mkF m 144 #[.val (.int p0), .val (.int p1), .val (.int p2), .val (.int p3), .val (.int (p0 &&& (255 : Int32))), .val (.int v2), .val (.int v4), .val (.int v6), .val (.int v8), .val (.int v10), .val (.int (F1 (0 : Int32) (v8 + v10))), .val (.ref b14), .val (.ref b41), .val (.int v49)] [(.int v49), (.int (F5 v8 (F1 (0 : Int32) (v8 + v10))))])) _
      have j54 : ∀ t, Steps p.tables e below (T51.setTop (mkF m 152 #[.val (.int p0), .val (.int p1), .val (.int p2), .val (.int p3), .val (.int (p0 &&& (255 : Int32))), .val (.int v2), .val (.int v4), .val (.int v6), .val (.int v8), .val (.int v10), .val (.int (F1 (0 : Int32) (v8 + v10))), .val (.ref b14), .val (.ref b41), .val (.int v49)] [(.int (if (F5 v8 (F1 (0 : Int32) (v8 + v10))) = v49 then (1 : Int32) else (0 : Int32)))])) t → Steps p.tables e below (T51.setTop (mkF m 144 #[.val (.int p0), .val (.int p1), .val (.int p2), .val (.int p3), .val (.int (p0 &&& (255 : Int32))), .val (.int v2), .val (.int v4), .val (.int v6), .val (.int v8), .val (.int v10), .val (.int (F1 (0 : Int32) (v8 + v10))), .val (.ref b14), .val (.ref b41), .val (.int v49)] [(.int v49), (.int (F5 v8 (F1 (0 : Int32) (v8 + v10))))])) t := fun t k => by
        by_cases hc144_53 : (F5 v8 (F1 (0 : Int32) (v8 + v10))) = v49
        · simp only [if_pos hc144_53] at k
          refine XS.icmpNo X51.here hx rfl (hb hby at_144) rfl (teq hc144_53).2 ?_
          show Steps p.tables e below (T51.setTop (mkF m 147 #[.val (.int p0), .val (.int p1), .val (.int p2), .val (.int p3), .val (.int (p0 &&& (255 : Int32))), .val (.int v2), .val (.int v4), .val (.int v6), .val (.int v8), .val (.int v10), .val (.int (F1 (0 : Int32) (v8 + v10))), .val (.ref b14), .val (.ref b41), .val (.int v49)] [])) _
          refine XS.iconst X51.here hx rfl (hb hby at_147) ?_
          show Steps p.tables e below (T51.setTop (mkF m 148 #[.val (.int p0), .val (.int p1), .val (.int p2), .val (.int p3), .val (.int (p0 &&& (255 : Int32))), .val (.int v2), .val (.int v4), .val (.int v6), .val (.int v8), .val (.int v10), .val (.int (F1 (0 : Int32) (v8 + v10))), .val (.ref b14), .val (.ref b41), .val (.int v49)] [(.int (1 : Int32))])) _
          refine XS.goto X51.here hx rfl (pc0 := 148) (pc' := 152) rfl (hb hby at_148) (by decide) (by decide) ?_
          show Steps p.tables e below (T51.setTop (mkF m 152 #[.val (.int p0), .val (.int p1), .val (.int p2), .val (.int p3), .val (.int (p0 &&& (255 : Int32))), .val (.int v2), .val (.int v4), .val (.int v6), .val (.int v8), .val (.int v10), .val (.int (F1 (0 : Int32) (v8 + v10))), .val (.ref b14), .val (.ref b41), .val (.int v49)] [(.int (1 : Int32))])) _
          exact k
        · simp only [if_neg hc144_53] at k
          refine XS.icmpYes X51.here hx rfl (pc0 := 144) (pc' := 151) rfl (hb hby at_144) rfl (feq hc144_53).2 (by decide) (by decide) ?_
          show Steps p.tables e below (T51.setTop (mkF m 151 #[.val (.int p0), .val (.int p1), .val (.int p2), .val (.int p3), .val (.int (p0 &&& (255 : Int32))), .val (.int v2), .val (.int v4), .val (.int v6), .val (.int v8), .val (.int v10), .val (.int (F1 (0 : Int32) (v8 + v10))), .val (.ref b14), .val (.ref b41), .val (.int v49)] [])) _
          refine XS.iconst X51.here hx rfl (hb hby at_151) ?_
          show Steps p.tables e below (T51.setTop (mkF m 152 #[.val (.int p0), .val (.int p1), .val (.int p2), .val (.int p3), .val (.int (p0 &&& (255 : Int32))), .val (.int v2), .val (.int v4), .val (.int v6), .val (.int v8), .val (.int v10), .val (.int (F1 (0 : Int32) (v8 + v10))), .val (.ref b14), .val (.ref b41), .val (.int v49)] [(.int (0 : Int32))])) _
          exact k
      refine j54 _ ?_
      show Steps p.tables e below (T51.setTop (mkF m 152 #[.val (.int p0), .val (.int p1), .val (.int p2), .val (.int p3), .val (.int (p0 &&& (255 : Int32))), .val (.int v2), .val (.int v4), .val (.int v6), .val (.int v8), .val (.int v10), .val (.int (F1 (0 : Int32) (v8 + v10))), .val (.ref b14), .val (.ref b41), .val (.int v49)] [(.int (if (F5 v8 (F1 (0 : Int32) (v8 + v10))) = v49 then (1 : Int32) else (0 : Int32)))])) _
      exact k
    obtain ⟨v56, hv56⟩ : ∃ z : Int32, z = (if (F5 v8 (F1 (0 : Int32) (v8 + v10))) = v49 then (1 : Int32) else (0 : Int32)) := ⟨_, rfl⟩
    have pre56 : Lead p e below G (T51.setTop (mkF m 152 #[.val (.int p0), .val (.int p1), .val (.int p2), .val (.int p3), .val (.int (p0 &&& (255 : Int32))), .val (.int v2), .val (.int v4), .val (.int v6), .val (.int v8), .val (.int v10), .val (.int (F1 (0 : Int32) (v8 + v10))), .val (.ref b14), .val (.ref b41), .val (.int v49)] [(.int v56)])) := by rw [hv56]; exact pre55
    obtain ⟨fs, hr, hrun, hended, hW, hsame⟩ := X51.leave (v := some (.int (nar .boolean v56))) (fun h => by rw [Bd.returns] at h; cases h)
    subst hG
    refine ⟨_, _, pre56 _ ?_, hrun, hended, _, _, rfl, ?_, ⟨_, rfl⟩, hW, hsame.mono (by decide) (by decide)⟩
    · show Steps p.tables e below (T51.setTop (mkF m 152 #[.val (.int p0), .val (.int p1), .val (.int p2), .val (.int p3), .val (.int (p0 &&& (255 : Int32))), .val (.int v2), .val (.int v4), .val (.int v6), .val (.int v8), .val (.int v10), .val (.int (F1 (0 : Int32) (v8 + v10))), .val (.ref b14), .val (.ref b41), .val (.int v49)] [(.int v56)])) _
      exact retN X51 hx (t := .boolean) Bd.returns (by simp) (hb hby at_152) hr
    · show Q0 Z p0 p1 p2 p3 h0 n0 _ T51.heap _
      refine ⟨congrArg (fun z => some (Value.int z)) (Eq.trans (?_ : (nar .boolean v56) = F0 p0 p1 p2 p3) (own_law p0 p1 p2 p3)), N51⟩
      subst hv56 hv49 hv10 hv8 hv6 hv4 hv2
      unfold F0; simp only [if_neg hs78_17]
set_option maxRecDepth 65536 in
set_option maxHeartbeats 40000000 in
theorem comes_1 {Post : Tables → Env → Array Value → State → Outcome → State → Prop} (hpost : ∀ tb e args s v u, (limb_1_1.after args s (.returned v) u = true ∧ limb_1_2.after args s (.returned v) u = true ∧ True) → FrameEnd s (.returned v) u (Jvm.fieldLocs frame_1_writes args s ++ Jvm.arrayLocs frame_1_arrays args s ++ Jvm.staticLocs frame_1_statics s) 16 640 → Post tb e args s (.returned v) u) :
    ArmFor flags0 classFile x code maxLocals ret World_1 tables_1 room_1 Calls_1 rest_1 Pre_1 Post := by
  intro l hfl _ _ p e ha hc hk s m args below hf hA hF happ hP
  obtain ⟨hcalls, hrest, hpre⟩ := hP
  obtain ⟨-, -, -, hnamed, -, -, -, hat⟩ := (Spec.applies_iff hf).mp happ
  obtain ⟨hg, hn⟩ := and_e (Cond.before_iff.mp (show (Jvm.Cond.and given_1 narrow_1).before args s = true from hpre))
  obtain ⟨g1, g2⟩ := and_e hg
  obtain ⟨g3, g4⟩ := and_e g2
  obtain ⟨g5, g6⟩ := and_e g4
  obtain ⟨g7, g8⟩ := and_e g6
  obtain ⟨w0, w1, w2, w3, rfl⟩ : ∃ w0 w1 w2 w3 : Value, args = #[w0, w1, w2, w3] := by
    have hs : args.size = 4 := by simpa [Cond.value, given_1] using g1
    obtain ⟨L⟩ := args
    match L, hs with
    | [w0, w1, w2, w3], _ => exact ⟨w0, w1, w2, w3, rfl⟩
  have hw := fun d (hd : d ∈ tables_1) => atoms_spec (ws := Jvm.Cond.code x code maxLocals ret :: tables_1) hat d (List.mem_cons_of_mem _ hd)
  obtain ⟨i0, ei0⟩ := is_v g3
  obtain rfl : w0 = (.int i0) := Option.some.inj ei0
  obtain ⟨i1, ei1⟩ := is_v g5
  obtain rfl : w1 = (.int i1) := Option.some.inj ei1
  obtain ⟨i2, ei2⟩ := is_v g7
  obtain rfl : w2 = (.int i2) := Option.some.inj ei2
  obtain ⟨i3, ei3⟩ := is_v g8
  obtain rfl : w3 = (.int i3) := Option.some.inj ei3
  obtain ⟨n, o, h1, h2, h3, _, L, rfl, ⟨rfl, N⟩, hq⟩ := rm0 l s _ hw tables_1 i0 i1 i2 i3 s.heap s.heap.size (Nat.le_refl _) p e ha hc hk s m _ below hf ((Spec.applies_iff_loose hf).mp happ).1 ⟨rfl, State.Warmed39.refl s, rfl⟩ trivial
  refine ⟨n, _, h1, h2, h3, hpost _ _ _ _ _ _ ⟨Cond.after_iff.mpr rfl, Cond.after_iff.mpr (eq_i res_at (Term.int_eval (1)) rfl), trivial⟩ ⟨hq.1, hq.2.1, (hq.2.2.sift fun y hy => Or.inr (N y hy)).mono (by decide) (by decide)⟩⟩
theorem main_1_1 : Claimed_1_1 := comes_1 fun _ _ _ _ _ _ h hF => ⟨h.1, hF⟩
theorem main_1_2 : Claimed_1_2 := comes_1 fun _ _ _ _ _ _ h hF => ⟨h.2.1, hF⟩
end Jvm.Pilot.@@N@@
namespace Jvm.Pilot.@@N@@
open Jvm Jvm.ClassFile Sem Op Lib Jvm.Free Jvm.Stand Jvm.Pilot.@@N@@.Jvm.D
/-! MADE BY PROGRAM (witnessworld.py) out of the Statement's table words and the real class files: 11 classes; the members and pool entries that the words name. The judged class is class 1, her method 1. -/
namespace start1
open Jvm.ClassFile
def u (s : String) : CpInfo := .utf8 (stringToUtf16 s)
/-- a pool by its gaps: so many unusable entries, then the entry; so many at the end -/
def gap : Nat → List CpInfo → List CpInfo
  | 0, r => r
  | n + 1, r => .unusable :: gap n r
def poolList (es : List (Nat × CpInfo)) (last : Nat) : List CpInfo := es.foldr (fun e r => gap e.1 (e.2 :: r)) (gap last [])
def pool (es : List (Nat × CpInfo)) (last : Nat) : Array CpInfo := ⟨poolList es last⟩
def fileOf (pool : Array CpInfo) (this : Nat) (attrs : Array Attribute := #[]) (ms : Array MethodInfo := #[]) (fl : Nat := 33) (sup : Nat := 0) (ifs : Array Nat := #[]) (fds : Array FieldInfo := #[]) : ClassFile where
  minorVersion := 0
  majorVersion := 65
  constantPool := pool
  accessFlags := fl
  thisClass := this
  superClass := sup
  interfaces := ifs
  fields := fds
  methods := ms
  attributes := attrs
def plain (name : String) (sup : Option ClassId) : Class where
  name := name
  kind := .ordinary
  loader := none
  accessFlags := 33
  super := sup
  interfaces := #[]
  cf := none
  fields := #[]
  methods := #[]
  instanceTypes := #[]
  staticTypes := #[]
  resolved := #[]
  callSites := []
  init := .initialized
  statics := none
  mirror := none

def pool0 : Array CpInfo := pool [(5, u "<init>"), (0, u "()V"), (1, .class_ 10), (1, u "java/lang/Object")] 113

def k0c0 : Code := { maxStack := 0, maxLocals := 1, code := object_method_1_code, exceptionTable := #[], attributes := #[] }
def k0m0 : Method := { name := "<init>", desc := "()V", sig := { parameters := [], returnType := none }, accessFlags := 1, code := some k0c0 }
/-- java/lang/Object -/
def k0 : Class := { plain "java/lang/Object" none with
  accessFlags := 33
  interfaces := #[]
  cf := some (fileOf pool0 8 #[] #[{ accessFlags := 1, nameIndex := 5, descriptorIndex := 6, attributes := #[] }] 33 0 #[] #[])
  fields := #[]
  methods := #[k0m0]
  instanceTypes := #[]
  staticTypes := #[]
  resolved := Array.replicate 124 none
  statics := none }

def pool1 : Array CpInfo := pool [(2, .class_ 4), (1, u "java/lang/Object"), (0, u "<init>"), (0, u "()V"), (0, .integer 2147483647), (0, .methodref 9 10), (0, .class_ 11), (0, .nameAndType 12 13), (0, u "java/lang/Math"), (0, u "max"), (0, u "(II)I"), (0, .class_ 15), (0, u "com/example/quintet/quintet/card/CommandApdu"), (0, .methodref 14 17), (0, .nameAndType 5 18), (0, u "(IIIII[B)V"), (0, .methodref 14 20), (0, .nameAndType 21 22), (0, u "sendsLcBytes"), (0, u "()Z"), (0, .class_ 24), (0, u "com/example/quintet/quintet/card/CommandApduSendsLcBytesPinLaw"), (2, u "law"), (0, u "(IIII)Z")] 5

def k1m0 : Method := { name := "<init>", desc := "()V", sig := { parameters := [], returnType := none }, accessFlags := 1, code := none }
def k1c1 : Code := { maxStack := 8, maxLocals := 14, code := code, exceptionTable := #[], attributes := #[] }
def k1m1 : Method := { name := "law", desc := "(IIII)Z", sig := { parameters := [.int, .int, .int, .int], returnType := some .boolean }, accessFlags := 9, code := some k1c1 }
/-- com/example/quintet/quintet/card/CommandApduSendsLcBytesPinLaw -/
def k1 : Class := { plain "com/example/quintet/quintet/card/CommandApduSendsLcBytesPinLaw" (some 0) with
  accessFlags := 49
  interfaces := #[]
  cf := some (fileOf pool1 23 #[] #[{ accessFlags := 1, nameIndex := 5, descriptorIndex := 6, attributes := #[] }, { accessFlags := 9, nameIndex := 27, descriptorIndex := 28, attributes := #[] }] 49 2 #[] #[])
  fields := #[]
  methods := #[k1m0, k1m1]
  instanceTypes := #[]
  staticTypes := #[]
  resolved := Array.replicate 34 none
  statics := none }

def pool2 : Array CpInfo := pool [(1, .class_ 2), (0, u "java/lang/Math"), (1, .class_ 6), (1, u "java/lang/Object"), (0, u "<init>"), (0, u "()V"), (89, .class_ 100), (1, u "java/lang/Math$RandomNumberGeneratorHolder"), (71, u "negativeZeroFloatBits"), (0, u "J"), (2, u "negativeZeroDoubleBits"), (21, u "max"), (46, u "$assertionsDisabled"), (0, u "Z"), (88, u "(II)I"), (2, u "twoToTheDoubleScaleDown"), (0, u "D"), (4, u "twoToTheDoubleScaleUp"), (9, u "E"), (3, u "PI"), (2, u "TAU"), (2, u "DEGREES_TO_RADIANS"), (0, u "RADIANS_TO_DEGREES")] 94

def k2m0 : Method := { name := "<init>", desc := "()V", sig := { parameters := [], returnType := none }, accessFlags := 2, code := none }
def k2c1 : Code := { maxStack := 2, maxLocals := 2, code := jdk_29_method_65_code, exceptionTable := #[], attributes := #[] }
def k2m1 : Method := { name := "max", desc := "(II)I", sig := { parameters := [.int, .int], returnType := some .int }, accessFlags := 9, code := some k2c1 }
/-- java/lang/Math -/
def k2 : Class := { plain "java/lang/Math" (some 0) with
  accessFlags := 49
  interfaces := #[]
  cf := some (fileOf pool2 1 #[.nestMembers #[98]] #[{ accessFlags := 2, nameIndex := 7, descriptorIndex := 8, attributes := #[] }, { accessFlags := 9, nameIndex := 198, descriptorIndex := 335, attributes := #[] }] 49 4 #[] #[{ accessFlags := 25, nameIndex := 354, descriptorIndex := 339, attributes := #[] }, { accessFlags := 25, nameIndex := 358, descriptorIndex := 339, attributes := #[] }, { accessFlags := 25, nameIndex := 361, descriptorIndex := 339, attributes := #[] }, { accessFlags := 26, nameIndex := 364, descriptorIndex := 339, attributes := #[] }, { accessFlags := 26, nameIndex := 365, descriptorIndex := 339, attributes := #[] }, { accessFlags := 26, nameIndex := 172, descriptorIndex := 173, attributes := #[] }, { accessFlags := 26, nameIndex := 176, descriptorIndex := 173, attributes := #[] }, { accessFlags := 8, nameIndex := 344, descriptorIndex := 339, attributes := #[] }, { accessFlags := 8, nameIndex := 338, descriptorIndex := 339, attributes := #[] }, { accessFlags := 4120, nameIndex := 245, descriptorIndex := 246, attributes := #[] }])
  fields := #[{ name := "E", type := .double, accessFlags := 25, slot := 0, constantValue := 0 }, { name := "PI", type := .double, accessFlags := 25, slot := 1, constantValue := 0 }, { name := "TAU", type := .double, accessFlags := 25, slot := 2, constantValue := 0 }, { name := "DEGREES_TO_RADIANS", type := .double, accessFlags := 26, slot := 3, constantValue := 0 }, { name := "RADIANS_TO_DEGREES", type := .double, accessFlags := 26, slot := 4, constantValue := 0 }, { name := "negativeZeroFloatBits", type := .long, accessFlags := 26, slot := 5, constantValue := 0 }, { name := "negativeZeroDoubleBits", type := .long, accessFlags := 26, slot := 6, constantValue := 0 }, { name := "twoToTheDoubleScaleUp", type := .double, accessFlags := 8, slot := 7, constantValue := 0 }, { name := "twoToTheDoubleScaleDown", type := .double, accessFlags := 8, slot := 8, constantValue := 0 }, { name := "$assertionsDisabled", type := .boolean, accessFlags := 4120, slot := 9, constantValue := 0 }]
  methods := #[k2m0, k2m1]
  instanceTypes := #[]
  staticTypes := #[.double, .double, .double, .double, .double, .long, .long, .double, .double, .boolean]
  resolved := Array.replicate 460 none
  statics := none }

def pool3 : Array CpInfo := pool [(1, .methodref 2 3), (0, .class_ 4), (0, .nameAndType 5 6), (0, u "java/lang/Object"), (0, u "<init>"), (0, u "()V"), (0, .class_ 8), (0, u "java/lang/Record")] 13

def k3c0 : Code := { maxStack := 1, maxLocals := 1, code := jdk_30_method_1_code, exceptionTable := #[], attributes := #[] }
def k3m0 : Method := { name := "<init>", desc := "()V", sig := { parameters := [], returnType := none }, accessFlags := 4, code := some k3c0 }
/-- java/lang/Record -/
def k3 : Class := { plain "java/lang/Record" (some 0) with
  accessFlags := 1057
  interfaces := #[]
  cf := some (fileOf pool3 7 #[] #[{ accessFlags := 4, nameIndex := 5, descriptorIndex := 6, attributes := #[] }] 1057 2 #[] #[])
  fields := #[]
  methods := #[k3m0]
  instanceTypes := #[]
  staticTypes := #[]
  resolved := Array.replicate 22 none
  statics := none }

def pool4 : Array CpInfo := pool [(1, .methodref 2 3), (0, .class_ 4), (0, .nameAndType 5 6), (0, u "java/lang/Record"), (0, u "<init>"), (0, u "()V"), (0, .fieldref 8 9), (0, .class_ 10), (0, .nameAndType 11 12), (0, u "com/example/quintet/quintet/card/CommandApdu"), (0, u "cla"), (0, u "I"), (0, .fieldref 8 14), (0, .nameAndType 15 12), (0, u "ins"), (0, .fieldref 8 17), (0, .nameAndType 18 12), (0, u "p1"), (0, .fieldref 8 20), (0, .nameAndType 21 12), (0, u "p2"), (0, .fieldref 8 23), (0, .nameAndType 24 12), (0, u "p3"), (0, .fieldref 8 26), (0, .nameAndType 27 28), (0, u "data"), (0, u "[B"), (8, u "(IIIII[B)V"), (7, u "()Z"), (12, u "HEADER_LENGTH"), (2, u "ABSENT"), (1, u "LE_MAX"), (8, u "sendsLcBytes")] 33

def k4c0 : Code := { maxStack := 2, maxLocals := 7, code := prog_19_method_1_code, exceptionTable := #[], attributes := #[] }
def k4m0 : Method := { name := "<init>", desc := "(IIIII[B)V", sig := { parameters := [.int, .int, .int, .int, .int, (.array .byte)], returnType := none }, accessFlags := 0, code := some k4c0 }
def k4c1 : Code := { maxStack := 2, maxLocals := 1, code := prog_19_method_3_code, exceptionTable := #[], attributes := #[] }
def k4m1 : Method := { name := "sendsLcBytes", desc := "()Z", sig := { parameters := [], returnType := some .boolean }, accessFlags := 0, code := some k4c1 }
/-- com/example/quintet/quintet/card/CommandApdu -/
def k4 : Class := { plain "com/example/quintet/quintet/card/CommandApdu" (some 3) with
  accessFlags := 48
  interfaces := #[]
  cf := some (fileOf pool4 8 #[] #[{ accessFlags := 0, nameIndex := 5, descriptorIndex := 37, attributes := #[] }, { accessFlags := 0, nameIndex := 72, descriptorIndex := 45, attributes := #[] }] 48 2 #[] #[{ accessFlags := 18, nameIndex := 11, descriptorIndex := 12, attributes := #[] }, { accessFlags := 18, nameIndex := 15, descriptorIndex := 12, attributes := #[] }, { accessFlags := 18, nameIndex := 18, descriptorIndex := 12, attributes := #[] }, { accessFlags := 18, nameIndex := 21, descriptorIndex := 12, attributes := #[] }, { accessFlags := 18, nameIndex := 24, descriptorIndex := 12, attributes := #[] }, { accessFlags := 18, nameIndex := 27, descriptorIndex := 28, attributes := #[] }, { accessFlags := 24, nameIndex := 58, descriptorIndex := 12, attributes := #[] }, { accessFlags := 24, nameIndex := 61, descriptorIndex := 12, attributes := #[] }, { accessFlags := 24, nameIndex := 63, descriptorIndex := 12, attributes := #[] }])
  fields := #[{ name := "cla", type := .int, accessFlags := 18, slot := 0, constantValue := 0 }, { name := "ins", type := .int, accessFlags := 18, slot := 1, constantValue := 0 }, { name := "p1", type := .int, accessFlags := 18, slot := 2, constantValue := 0 }, { name := "p2", type := .int, accessFlags := 18, slot := 3, constantValue := 0 }, { name := "p3", type := .int, accessFlags := 18, slot := 4, constantValue := 0 }, { name := "data", type := (.array .byte), accessFlags := 18, slot := 5, constantValue := 0 }, { name := "HEADER_LENGTH", type := .int, accessFlags := 24, slot := 0, constantValue := 0 }, { name := "ABSENT", type := .int, accessFlags := 24, slot := 1, constantValue := 0 }, { name := "LE_MAX", type := .int, accessFlags := 24, slot := 2, constantValue := 0 }]
  methods := #[k4m0, k4m1]
  instanceTypes := #[.int, .int, .int, .int, .int, (.array .byte)]
  staticTypes := #[.int, .int, .int]
  resolved := Array.replicate 106 none
  statics := none }

def pool5 : Array CpInfo := pool [(1, u "java/lang/Cloneable"), (0, .class_ 1), (0, u "java/lang/Object"), (0, .class_ 3)] 3

/-- java/lang/Cloneable -/
def k5 : Class := { plain "java/lang/Cloneable" (some 0) with
  accessFlags := 1537
  interfaces := #[]
  cf := some (fileOf pool5 2 #[] #[] 1537 4 #[] #[])
  fields := #[]
  methods := #[]
  instanceTypes := #[]
  staticTypes := #[]
  resolved := Array.replicate 8 none
  statics := none }

def pool6 : Array CpInfo := pool [(1, u "java/io/Serializable"), (0, .class_ 1), (0, u "java/lang/Object"), (0, .class_ 3)] 3

/-- java/io/Serializable -/
def k6 : Class := { plain "java/io/Serializable" (some 0) with
  accessFlags := 1537
  interfaces := #[]
  cf := some (fileOf pool6 2 #[] #[] 1537 4 #[] #[])
  fields := #[]
  methods := #[]
  instanceTypes := #[]
  staticTypes := #[]
  resolved := Array.replicate 8 none
  statics := none }

/-- the primitive byte -/
def k7 : Class := { plain "byte" none with kind := .primitive 'B', accessFlags := 0x411 }
/-- [B -/
def k8 : Class := { plain "[B" (some 0) with kind := .array 7 .byte, interfaces := #[5, 6], accessFlags := 1041 }

/-- the primitive int -/
def k9 : Class := { plain "int" none with kind := .primitive 'I', accessFlags := 0x411 }
/-- [I -/
def k10 : Class := { plain "[I" (some 0) with kind := .array 9 .int, interfaces := #[5, 6], accessFlags := 1041 }

def heap : Heap := #[]
def classes : Array Class := #[k0, k1, k2, k3, k4, k5, k6, k7, k8, k9, k10]
def interned : List (Array UInt16 × Addr) := []
def slotsUsed : Nat := 0
def theMethod : MethodId := ⟨1, 1⟩
def args0 : Array Value := #[.int 5, .int 9, .int 2, .int 7]
def aboutOver (below : List Frame) : State where
  vm := { classes := classes, interned := interned.toArray }
  heap := heap
  slotsUsed := slotsUsed
  threads := #[{ frames := .invoking theMethod args0 :: below }]
def below0 : List Frame := [.native { method := ⟨0, 0⟩, args := #[] }]
def about1 : State := aboutOver below0
def p0 : Program := .bare "" "" ""
def e0 : Env := launch0.env 0 0 0
theorem w_frames : about1.frames = Frame.invoking theMethod args0 :: below0 := rfl
set_option maxRecDepth 65536 in
theorem w_args : argsFit about1.vm theMethod args0 = true := by decide +kernel
set_option maxRecDepth 65536 in
theorem w_heap : heapFits about1 = true := by decide +kernel
set_option maxRecDepth 65536 in
theorem w_runnable : about1.curStatus? = some .runnable := by decide +kernel
set_option maxRecDepth 65536 in
theorem w_alone : about1.alone = true := by decide +kernel
set_option maxRecDepth 65536 in
theorem w_named : about1.methodNamed? x = some theMethod := by decide +kernel
set_option maxRecDepth 65536 in
theorem w_hears : about1.hears theMethod below0 = true := by decide +kernel
set_option maxRecDepth 65536 in
theorem w_ripe : about1.ripe theMethod args0 below0 = true := by decide +kernel
theorem w_running : about1.status = .running := rfl
set_option maxRecDepth 65536 in
theorem w_room : about1.hasRoom e0.platform room_1 = true :=
  launch0.hasRoom_least _ room_1 (by decide +kernel) (by decide +kernel) (by decide +kernel) (by decide +kernel) (by decide +kernel) (by decide +kernel)
theorem allAtoms_all (ts : List Jvm.Cond) (a : Array Jvm.Value) (st : Jvm.State) : (allAtoms ts).before a st = ts.all (fun c => c.before a st) := by
  induction ts with
  | nil => rfl
  | cons c t ih =>
    show (Jvm.Cond.and c (allAtoms t)).before a st = _
    rw [Jvm.Cond.before_and, ih, List.all_cons]
def words1 : List Jvm.Cond := Jvm.Cond.code x code maxLocals ret :: tables_1
/-- a 'code' word, met by the world's own term for the bytes: nothing is compared byte by byte -/
theorem code_word {y : MethodName} {bytes : ByteArray} {mx : Nat} {rt : Option FieldType} {a : Array Value} {s : State} {m : MethodId} {meth : Method} {c : Code} (h1 : s.methodNamed? y = some m) (h2 : s.vm.method? m = some meth) (h3 : meth.code = some c) (h4 : c.code = bytes)
    (h5 : (c.maxLocals == mx && c.exceptionTable.isEmpty && decide (c.maxStack ≤ mostOperands) && decide (meth.sig.returnType = rt) && !meth.locks && decide (parseMethodDescriptor y.desc = some meth.sig)) = true) : (Jvm.Cond.code y bytes mx rt).before a s = true := by
  simp only [Bool.and_eq_true, beq_iff_eq, Bool.not_eq_true', decide_eq_true_eq] at h5
  obtain ⟨⟨⟨⟨⟨g1, g2⟩, g3⟩, g4⟩, g5⟩, g6⟩ := h5
  simp [Cond.before, Cond.holds, Cond.value, h1, h2, h3, h4, g1, g2, g3, g4, g5, g6]
def isCode : Jvm.Cond → Bool
  | .code _ _ _ _ => true
  | _ => false
theorem all_split {L : List Jvm.Cond} {P : Jvm.Cond → Bool} (h1 : L.all (fun c => isCode c || P c) = true) (h2 : ∀ c ∈ L.filter isCode, P c = true) : L.all P = true := by
  refine List.all_eq_true.mpr fun c hc => ?_
  have h := List.all_eq_true.mp h1 c hc
  rcases Bool.eq_false_or_eq_true (isCode c) with hi | hi
  · exact h2 c (List.mem_filter.mpr ⟨hc, hi⟩)
  · simpa [hi] using h
set_option maxRecDepth 65536 in
theorem w_c0 : (Jvm.Cond.code x code maxLocals ret).before args0 about1 = true := code_word (m := ⟨1, 1⟩) (meth := k1m1) (c := k1c1) (by decide +kernel) rfl rfl rfl (by decide +kernel)
set_option maxRecDepth 65536 in
theorem w_c1 : (Jvm.Cond.code ({ cls := "java/lang/Math", name := "max", desc := "(II)I" } : Jvm.MethodName) jdk_29_method_65_code (2 : Nat) (Option.some Jvm.ClassFile.FieldType.int)).before args0 about1 = true := code_word (m := ⟨2, 1⟩) (meth := k2m1) (c := k2c1) (by decide +kernel) rfl rfl rfl (by decide +kernel)
set_option maxRecDepth 65536 in
theorem w_c2 : (Jvm.Cond.code ({ cls := "com/example/quintet/quintet/card/CommandApdu", name := "<init>", desc := "(IIIII[B)V" } : Jvm.MethodName) prog_19_method_1_code (7 : Nat) (Option.none : Option Jvm.ClassFile.FieldType)).before args0 about1 = true := code_word (m := ⟨4, 0⟩) (meth := k4m0) (c := k4c0) (by decide +kernel) rfl rfl rfl (by decide +kernel)
set_option maxRecDepth 65536 in
theorem w_c3 : (Jvm.Cond.code ({ cls := "java/lang/Record", name := "<init>", desc := "()V" } : Jvm.MethodName) jdk_30_method_1_code (1 : Nat) (Option.none : Option Jvm.ClassFile.FieldType)).before args0 about1 = true := code_word (m := ⟨3, 0⟩) (meth := k3m0) (c := k3c0) (by decide +kernel) rfl rfl rfl (by decide +kernel)
set_option maxRecDepth 65536 in
theorem w_c4 : (Jvm.Cond.code ({ cls := "java/lang/Object", name := "<init>", desc := "()V" } : Jvm.MethodName) object_method_1_code (1 : Nat) (Option.none : Option Jvm.ClassFile.FieldType)).before args0 about1 = true := code_word (m := ⟨0, 0⟩) (meth := k0m0) (c := k0c0) (by decide +kernel) rfl rfl rfl (by decide +kernel)
set_option maxRecDepth 65536 in
theorem w_c5 : (Jvm.Cond.code ({ cls := "com/example/quintet/quintet/card/CommandApdu", name := "sendsLcBytes", desc := "()Z" } : Jvm.MethodName) prog_19_method_3_code (1 : Nat) (Option.some Jvm.ClassFile.FieldType.boolean)).before args0 about1 = true := code_word (m := ⟨4, 1⟩) (meth := k4m1) (c := k4c1) (by decide +kernel) rfl rfl rfl (by decide +kernel)
def codes1 : List Jvm.Cond := [Jvm.Cond.code x code maxLocals ret, Jvm.Cond.code ({ cls := "java/lang/Math", name := "max", desc := "(II)I" } : Jvm.MethodName) jdk_29_method_65_code (2 : Nat) (Option.some Jvm.ClassFile.FieldType.int), Jvm.Cond.code ({ cls := "com/example/quintet/quintet/card/CommandApdu", name := "<init>", desc := "(IIIII[B)V" } : Jvm.MethodName) prog_19_method_1_code (7 : Nat) (Option.none : Option Jvm.ClassFile.FieldType), Jvm.Cond.code ({ cls := "java/lang/Record", name := "<init>", desc := "()V" } : Jvm.MethodName) jdk_30_method_1_code (1 : Nat) (Option.none : Option Jvm.ClassFile.FieldType), Jvm.Cond.code ({ cls := "java/lang/Object", name := "<init>", desc := "()V" } : Jvm.MethodName) object_method_1_code (1 : Nat) (Option.none : Option Jvm.ClassFile.FieldType), Jvm.Cond.code ({ cls := "com/example/quintet/quintet/card/CommandApdu", name := "sendsLcBytes", desc := "()Z" } : Jvm.MethodName) prog_19_method_3_code (1 : Nat) (Option.some Jvm.ClassFile.FieldType.boolean)]
set_option maxRecDepth 65536 in
theorem codes_eq : words1.filter isCode = codes1 := rfl
theorem w_codes : ∀ c ∈ words1.filter isCode, c.before args0 about1 = true := by
  rw [codes_eq]
  intro c hc
  simp only [codes1, List.mem_cons, List.not_mem_nil, or_false] at hc
  rcases hc with rfl | rfl | rfl | rfl | rfl | rfl
  · exact w_c0
  · exact w_c1
  · exact w_c2
  · exact w_c3
  · exact w_c4
  · exact w_c5
set_option maxRecDepth 65536 in
theorem w_t1 : (words1.take 24).all (fun c => isCode c || c.before args0 about1) = true := by decide +kernel
set_option maxRecDepth 65536 in
theorem w_t2 : (words1.drop 24).all (fun c => isCode c || c.before args0 about1) = true := by decide +kernel
theorem w_tables : (allAtoms (Jvm.Cond.code x code maxLocals ret :: tables_1)).before args0 about1 = true := by
  rw [allAtoms_all]
  show words1.all (fun c => c.before args0 about1) = true
  refine all_split ?_ w_codes
  rw [← List.take_append_drop 24 words1, List.all_append, w_t1, w_t2]
  rfl
set_option maxRecDepth 65536 in
theorem w_case : (Jvm.Cond.and given_1 narrow_1).before args0 about1 = true := by decide +kernel
theorem w_applies : (headSpec (Jvm.Cond.code x code maxLocals ret :: tables_1) room_1).applies x e0.platform about1 = true :=
  (Spec.applies_iff w_frames).mpr ⟨w_running, w_runnable, w_alone, w_named, w_hears, w_ripe, w_room, w_tables⟩
theorem atStart : AtStart classFile x code maxLocals ret World_1 tables_1 room_1 Calls_1 rest_1 Pre_1 launch0 p0 e0 about1 theMethod args0 below0 :=
  ⟨lists_1, trivial, launch0.admits_env _ _ _, launch0.least_env, fairChoices_fair.cas, fairChoices_fair.clock, w_frames, w_args, w_heap, w_applies, trivial, trivial, w_case⟩
end start1
theorem witness_1 : WitnessClaimed_1 := ⟨start1.p0, start1.e0, start1.about1, start1.theMethod, start1.args0, start1.below0, start1.atStart⟩
end Jvm.Pilot.@@N@@

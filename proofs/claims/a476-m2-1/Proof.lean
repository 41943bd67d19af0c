import JvmDerived
import JvmDerived.Pilot.@@N@@Statement
import JvmDerived.Pilot.@@N@@Code
set_option linter.unusedVariables false
set_option linter.unusedSimpArgs false
@@BLOCK:NumsL.lean.txt@@
@@BLOCK:Masks.lean.txt@@
namespace Jvm.RoadKit
open Sem ClassFile Op Lib Jvm.Stand Jvm.Free Jvm.LawKit
section New
variable {p : Program} {l : Launch} {e : Env} {R : Room} {s : State} {m : MethodId} {args : Array Value} {below : List Frame} {meth : Method} {c : Code} {T : State} {locs : List Loc} {cells slots : Nat}
theorem retI (X : Stand p l e R s m args below meth c T locs cells slots) (hx : p.tables.exec = Jvm.exec) {pc : Nat} {Ls : Array Slot} {z : Int32} {rest : List Value} (hret : meth.sig.returnType = some .int) (hd : decode c.code pc = .ok (.ireturn, 1)) {fs : List Frame}
    (hl : ∀ (f : JFrame) (acts : List Action), f.method = m → f.locked = none → f.entered = [] → (doReturn e (T.setTop f) acts (some (.int z))).1 = T.setFrames fs) : Steps p.tables e below (T.setTop (mkF m pc Ls (.int z :: rest))) (T.setFrames fs) := by
  have hm' : T.vm.method? m = some meth := X.method'
  have hn : narrow .int (.int z) = .int z := rfl
  show Steps p.tables e below (T.setTop { method := m, pc := pc, locals := Ls, stack := _ :: rest, locked := none }) _
  jvm_step X.here [X.here.top, hx, hd, hm', hret, hn]
  first | (intro acts; rw [hl _ acts rfl rfl rfl]) | rw [hl _ _ rfl rfl rfl]
  exact Steps.refl _
theorem retJ (X : Stand p l e R s m args below meth c T locs cells slots) (hx : p.tables.exec = Jvm.exec) {pc : Nat} {Ls : Array Slot} {z : Int64} {rest : List Value} (hret : meth.sig.returnType = some .long) (hd : decode c.code pc = .ok (.lreturn, 1)) {fs : List Frame}
    (hl : ∀ (f : JFrame) (acts : List Action), f.method = m → f.locked = none → f.entered = [] → (doReturn e (T.setTop f) acts (some (.long z))).1 = T.setFrames fs) : Steps p.tables e below (T.setTop (mkF m pc Ls (.long z :: rest))) (T.setFrames fs) := by
  have hm' : T.vm.method? m = some meth := X.method'
  have hn : narrow .long (.long z) = .long z := rfl
  show Steps p.tables e below (T.setTop { method := m, pc := pc, locals := Ls, stack := _ :: rest, locked := none }) _
  jvm_step X.here [X.here.top, hx, hd, hm', hret, hn]
  first | (intro acts; rw [hl _ acts rfl rfl rfl]) | rw [hl _ _ rfl rfl rfl]
  exact Steps.refl _
end New
theorem own_ite {α : Type} {P : Prop} [Decidable P] {f : α → Prop} {a b : α} (ha : f a) (hb : f b) : f (if P then a else b) := by split <;> assumption
theorem own_lc_eq {x y : Int64} : lcmpW x y = 0 ↔ x = y := by rw [lcW]; exact lc_eq x y
theorem own_lc_lt {x y : Int64} : lcmpW x y < 0 ↔ x < y := by rw [lcW]; exact lc_lt x y
theorem own_lc_gt {x y : Int64} : 0 < lcmpW x y ↔ y < x := by rw [lcW]; exact lc_gt x y
end Jvm.RoadKit
namespace Jvm.RoadKit
open Sem ClassFile Op Lib Jvm.Stand Jvm.Free Jvm.LawKit
section Own
variable {Z : State} {h h' : Heap} {a b : Addr} {ty : FieldType} {n j : Int32} {sl : Nat} {v : Value} {ws : List Addr} {α : Type} {mk : α → Value} {g : Nat → α} {w : α}
/-- an array: its kind, its length and, by a function, what it holds -/
def JV (mk : α → Value) (Z : State) (h : Heap) (a : Addr) (ty : FieldType) (n : Int32) (g : Nat → α) : Prop := ∃ c : Cell, Arr Z h a c ty ∧ c.slots.size = n.toNatClampNeg ∧ ¬ n < 0 ∧ ∀ i, i < c.slots.size → c.slots[i]? = some (mk (g i))
def updF (g : Nat → α) (k : Nat) (w : α) : Nat → α := fun i => if i = k then w else g i
theorem JV.lt (F : JV mk Z h a ty n g) : a < h.size := by obtain ⟨c, A, -⟩ := F; exact A.lt
theorem JV.ext (F : JV mk Z h a ty n g) (E : Ext h h') : JV mk Z h' a ty n g := by obtain ⟨c, A, r⟩ := F; exact ⟨c, A.ext E, r⟩
theorem JV.other (F : JV mk Z h b ty n g) (W : Wr h h' a sl v) (q : b ≠ a) : JV mk Z h' b ty n g := by obtain ⟨c, A, r⟩ := F; exact ⟨c, A.other W q, r⟩
theorem JV.keep (F : JV mk Z h a ty n g) (K : Keep h h' ws) (q : a ∉ ws) : JV mk Z h' a ty n g := by obtain ⟨c, A, r⟩ := F; exact ⟨c, ⟨K.2.1 a c A.1 q, A.2⟩, r⟩
theorem JV.new {k : ClassId} (A : Arr Z h a (newA k ty n) ty) (q : ¬ n < 0) (w : α) (hd : defaultValue ty = mk w) : JV mk Z h a ty n (fun _ => w) := by
  obtain ⟨c, A', -, S, N, H, -⟩ := Arv.new A q
  exact ⟨c, A', S, N, fun i hi => by rw [H i hi, hd]; rfl⟩
theorem JV.in (F : JV mk Z h a ty n g) (q : ¬ j < 0 ∧ j < n) : ∃ c : Cell, Arr Z h a c ty ∧ ¬ (j < 0 ∨ c.slots.size ≤ j.toNatClampNeg) ∧ c.slots[j.toNatClampNeg]? = some (mk (g j.toNatClampNeg)) := by
  obtain ⟨c, A, S, N, H⟩ := F
  have hin := inb_of S q
  exact ⟨c, A, hin, H _ (Nat.lt_of_not_le fun y => hin (Or.inr y))⟩
theorem JV.len (F : JV mk Z h a ty n g) : ∃ c : Cell, Arr Z h a c ty ∧ c.slots.size.toInt32 = n := by
  obtain ⟨c, A, S, N, H⟩ := F
  exact ⟨c, A, len_of S N⟩
theorem JV.nn (F : JV mk Z h a ty n g) : ¬ n < 0 := by obtain ⟨c, A, S, N, H⟩ := F; exact N
theorem JV.set (F : JV mk Z h a ty n g) (W : Wr h h' a j.toNatClampNeg (mk w)) : JV mk Z h' a ty n (updF g j.toNatClampNeg w) := by
  obtain ⟨c, A, S, N, H⟩ := F
  refine ⟨_, A.same W, ?_, N, ?_⟩
  · rw [← S]; simp [Cell.setSlot]
  · intro i hi
    have hi' : i < c.slots.size := by simpa [Cell.setSlot] using hi
    obtain ⟨cell, h1, -, h3, rfl⟩ := W
    cases A.1.symm.trans h1
    by_cases e : i = j.toNatClampNeg
    · subst e; simp [Cell.setSlot, updF, hi']
    · rw [show (c.setSlot j.toNatClampNeg (mk w)).slots[i]? = c.slots[i]? from by simp [Cell.setSlot, Array.getElem?_setIfInBounds, Ne.symm e], H i hi']
      simp [updF, e]
end Own
end Jvm.RoadKit
namespace Jvm.Pilot.@@N@@
open Jvm Jvm.ClassFile Sem Op Lib Jvm.Free Jvm.Stand Jvm.LawKit Jvm.RoadKit Bundle Jvm.Pilot.@@N@@.Jvm.D
def Lead (p : Program) (e : Env) (below : List Frame) (A B : State) : Prop := ∀ t, Steps p.tables e below B t → Steps p.tables e below A t
theorem d2_0 : decode prog_37_method_3_code 0 = .ok (.lload_n 0, 1) := by decide +kernel
theorem d2_1 : decode prog_37_method_3_code 1 = .ok (.ldc2_w 26, 3) := by decide +kernel
theorem d2_4 : decode prog_37_method_3_code 4 = .ok (.ladd, 1) := by decide +kernel
theorem d2_5 : decode prog_37_method_3_code 5 = .ok (.lconst 1, 1) := by decide +kernel
theorem d2_6 : decode prog_37_method_3_code 6 = .ok (.lsub, 1) := by decide +kernel
theorem d2_7 : decode prog_37_method_3_code 7 = .ok (.ldc2_w 26, 3) := by decide +kernel
theorem d2_10 : decode prog_37_method_3_code 10 = .ok (.ldiv, 1) := by decide +kernel
theorem d2_11 : decode prog_37_method_3_code 11 = .ok (.l2i, 1) := by decide +kernel
theorem d2_12 : decode prog_37_method_3_code 12 = .ok (.ireturn, 1) := by decide +kernel
def F2 (q0 : Int64) : Int32 := ((((q0 + (64 : Int64)) - (1 : Int64)) / (64 : Int64)).toInt32)
theorem pn_com_example_libnear_libnear_core_BitArray : plainName "com/example/libnear/libnear/core/BitArray" = true := by first | (simp [plainName, overriddenIn]; done) | decide +kernel
theorem ef_2 (m : MethodId) (q0 : Int64) : entryFrame m #[(.long q0)] 2 = mkF m 0 #[.val (.long q0), .second] [] := by first | (simp [entryFrame, mkF, argsToLocals, Value.category]; done) | rfl
def Q2 (Z : State) (q0 : Int64)  (h0 : Heap) (n0 : Nat) (v : Option Value) (h : Heap) (L : List Loc) : Prop := v = some (.int (F2 q0)) ∧ Fr n0 L ∧ h = h0
set_option maxRecDepth 65536 in
set_option maxHeartbeats 40000000 in
theorem rm2 (l : Launch) (Z : State) (a0 : Array Value) (hw : ∀ d ∈ tables_1, d.before a0 Z = true) (ws : List Jvm.Cond) (q0 : Int64)  (h0 : Heap) (n0 : Nat) (Z0 : n0 ≤ h0.size)  :
    MetFree l (⟨"com/example/libnear/libnear/core/BitArray", "wordCount", "(J)I"⟩ : MethodName) (head1 (Jvm.Cond.code (⟨"com/example/libnear/libnear/core/BitArray", "wordCount", "(J)I"⟩ : MethodName) prog_37_method_3_code 2 (some .int) :: ws) ({ frames := 0, cells := 0, slots := 0, locals := 0 } : Room)) (fun a U => a = #[(.long q0)] ∧ Z.Warmed39 U.vm ∧ U.heap = h0) (fun _ _ _ _ _ => True) (fun _ U o U' => ∃ v L, o = .returned v ∧ Q2 Z q0 h0 n0 v U'.heap L ∧ FrameEnd U o U' L ({ frames := 0, cells := 0, slots := 0, locals := 0 } : Room).cells ({ frames := 0, cells := 0, slots := 0, locals := 0 } : Room).slots) := by
  refine MetFree.of_bodySF (plainFor_of_name pn_com_example_libnear_libnear_core_BitArray) hisR ?_
  intro p e s m args below meth c s₁ Bd hml0 hP hK
  obtain ⟨rfl, hZ, hh⟩ := hP
  have hx := Bd.exec
  have hby := Bd.bytes
  have hml : c.maxLocals = 2 := hml0
  have hown : s.vm.findClass "com/example/libnear/libnear/core/BitArray" = some m.cls := findClass_of_methodNamed Bd.named
  have hnm := (name_of_methodNamed Bd.named Bd.method).1
  have X0 : Stand p l e ({ frames := 0, cells := 0, slots := 0, locals := 0 } : Room) s m #[(.long q0)] below meth c s₁ [] 0 0 := Stand.of_body Bd
  have e0 : s₁.heap = h0 := by rw [← hh, Bd.state]; rfl
  have N0 := Fr.nil n0
  have K0 : Keep h0 h0 [] := Keep.refl _ _
  obtain ⟨G, hG⟩ : ∃ z, z = s₁.setTop (entryFrame m #[(.long q0)] 2) := ⟨_, rfl⟩
  have pre0 : Lead p e below G (s₁.setTop (mkF m 0 #[.val (.long q0), .second] [])) := fun t k => by rw [hG]; exact castTop (ef_2 m q0) k
  obtain ⟨fs, hr, hrun, hended, hW, hsame⟩ := X0.leave (v := some (.int ((((q0 + (64 : Int64)) - (1 : Int64)) / (64 : Int64)).toInt32))) (fun h => by rw [Bd.returns] at h; cases h)
  subst hG
  refine ⟨_, _, pre0 _ ?_, hrun, hended, _, _, rfl, ?_, ⟨_, rfl⟩, hW, hsame.mono (by decide) (by decide)⟩
  · show Steps p.tables e below (s₁.setTop (mkF m 0 #[.val (.long q0), .second] [])) _
    refine XS.lloadN X0.here hx rfl (hb hby d2_0) rfl ?_
    show Steps p.tables e below (s₁.setTop (mkF m 1 #[.val (.long q0), .second] [(.long q0)])) _
    refine X0.ldc2Long hx hown (mvT hZ (hw _ (List.mem_of_getElem? (i := 10) rfl))) (g := (mkF m 1 #[.val (.long q0), .second] [(.long q0)])) rfl (hb hby d2_1) _ ?_
    show Steps p.tables e below (s₁.setTop (mkF m 4 #[.val (.long q0), .second] [(.long (64 : Int64)), (.long q0)])) _
    refine XS.ladd X0.here hx rfl (hb hby d2_4) rfl ?_
    show Steps p.tables e below (s₁.setTop (mkF m 5 #[.val (.long q0), .second] [(.long (q0 + (64 : Int64)))])) _
    refine XS.lconst X0.here hx rfl (hb hby d2_5) ?_
    show Steps p.tables e below (s₁.setTop (mkF m 6 #[.val (.long q0), .second] [(.long (1 : Int64)), (.long (q0 + (64 : Int64)))])) _
    refine XS.lsub X0.here hx rfl (hb hby d2_6) rfl ?_
    show Steps p.tables e below (s₁.setTop (mkF m 7 #[.val (.long q0), .second] [(.long ((q0 + (64 : Int64)) - (1 : Int64)))])) _
    refine X0.ldc2Long hx hown (mvT hZ (hw _ (List.mem_of_getElem? (i := 10) rfl))) (g := (mkF m 7 #[.val (.long q0), .second] [(.long ((q0 + (64 : Int64)) - (1 : Int64)))])) rfl (hb hby d2_7) _ ?_
    show Steps p.tables e below (s₁.setTop (mkF m 10 #[.val (.long q0), .second] [(.long (64 : Int64)), (.long ((q0 + (64 : Int64)) - (1 : Int64)))])) _
    refine XS.ldiv X0.here hx rfl (hb hby d2_10) rfl (by decide) ?_
    show Steps p.tables e below (s₁.setTop (mkF m 11 #[.val (.long q0), .second] [(.long (((q0 + (64 : Int64)) - (1 : Int64)) / (64 : Int64)))])) _
    refine XS.l2i X0.here hx rfl (hb hby d2_11) rfl ?_
    show Steps p.tables e below (s₁.setTop (mkF m 12 #[.val (.long q0), .second] [(.int ((((q0 + (64 : Int64)) - (1 : Int64)) / (64 : Int64)).toInt32))])) _
    exact retI X0 hx Bd.returns (hb hby d2_12) hr
  · show Q2 Z q0 h0 n0 _ s₁.heap _
    rw [e0]
    have hv_ : ((((q0 + (64 : Int64)) - (1 : Int64)) / (64 : Int64)).toInt32) = F2 q0 := by
      skip
      rfl
    exact ⟨congrArg (fun z => some (Value.int z)) hv_, N0, rfl⟩
theorem d3_0 : decode prog_37_method_2_code 0 = .ok (.aload_n 0, 1) := by decide +kernel
theorem d3_1 : decode prog_37_method_2_code 1 = .ok (.invokespecial 13, 3) := by decide +kernel
theorem d3_4 : decode prog_37_method_2_code 4 = .ok (.aload_n 0, 1) := by decide +kernel
theorem d3_5 : decode prog_37_method_2_code 5 = .ok (.lload_n 1, 1) := by decide +kernel
theorem d3_6 : decode prog_37_method_2_code 6 = .ok (.putfield 18, 3) := by decide +kernel
theorem d3_9 : decode prog_37_method_2_code 9 = .ok (.aload_n 0, 1) := by decide +kernel
theorem d3_10 : decode prog_37_method_2_code 10 = .ok (.aload_n 3, 1) := by decide +kernel
theorem d3_11 : decode prog_37_method_2_code 11 = .ok (.putfield 22, 3) := by decide +kernel
theorem d3_14 : decode prog_37_method_2_code 14 = .ok (.return_, 1) := by decide +kernel
theorem ef_3 (m : MethodId) (o0 : Addr) (q1 : Int64) (o2 : Addr) : entryFrame m #[(.ref o0), (.long q1), (.ref o2)] 4 = mkF m 0 #[.val (.ref o0), .val (.long q1), .second, .val (.ref o2)] [] := by first | (simp [entryFrame, mkF, argsToLocals, Value.category]; done) | rfl
def Q3 (Z : State) (o0 : Addr) (q1 : Int64) (o2 : Addr)  (h0 : Heap) (n0 : Nat) (v : Option Value) (h : Heap) (L : List Loc) : Prop := v = none ∧ Fr n0 L ∧ Keep h0 h [o0] ∧ Exa Z h o0 "com/example/libnear/libnear/core/BitArray" ∧ Fld Z h o0 "com/example/libnear/libnear/core/BitArray" "words" "[J" (.ref o2)
set_option maxRecDepth 65536 in
set_option maxHeartbeats 40000000 in
theorem rm3 (l : Launch) (Z : State) (a0 : Array Value) (hw : ∀ d ∈ tables_1, d.before a0 Z = true) (ws : List Jvm.Cond) (o0 : Addr) (q1 : Int64) (o2 : Addr)  (h0 : Heap) (n0 : Nat) (Z0 : n0 ≤ h0.size) (P0_E : Exa Z h0 o0 "com/example/libnear/libnear/core/BitArray") (P1_G : n0 ≤ o0) (P2_F : Fld Z h0 o0 "com/example/libnear/libnear/core/BitArray" "size" "J" (.long (0 : Int64))) (P3_F : Fld Z h0 o0 "com/example/libnear/libnear/core/BitArray" "words" "[J" .null) :
    MetFree l (⟨"com/example/libnear/libnear/core/BitArray", "<init>", "(J[J)V"⟩ : MethodName) (head1 (Jvm.Cond.code (⟨"com/example/libnear/libnear/core/BitArray", "<init>", "(J[J)V"⟩ : MethodName) prog_37_method_2_code 4 none :: ws) ({ frames := 1, cells := 0, slots := 0, locals := 12 } : Room)) (fun a U => a = #[(.ref o0), (.long q1), (.ref o2)] ∧ Z.Warmed39 U.vm ∧ U.heap = h0) (fun _ _ _ _ _ => True) (fun _ U o U' => ∃ v L, o = .returned v ∧ Q3 Z o0 q1 o2 h0 n0 v U'.heap L ∧ FrameEnd U o U' L ({ frames := 1, cells := 0, slots := 0, locals := 12 } : Room).cells ({ frames := 1, cells := 0, slots := 0, locals := 12 } : Room).slots) := by
  refine MetFree.of_bodySF (plainFor_of_name pn_com_example_libnear_libnear_core_BitArray) hisR ?_
  intro p e s m args below meth c s₁ Bd hml0 hP hK
  obtain ⟨rfl, hZ, hh⟩ := hP
  have hx := Bd.exec
  have hby := Bd.bytes
  have hml : c.maxLocals = 4 := hml0
  have hown : s.vm.findClass "com/example/libnear/libnear/core/BitArray" = some m.cls := findClass_of_methodNamed Bd.named
  have hnm := (name_of_methodNamed Bd.named Bd.method).1
  have X0 : Stand p l e ({ frames := 1, cells := 0, slots := 0, locals := 12 } : Room) s m #[(.ref o0), (.long q1), (.ref o2)] below meth c s₁ [] 0 0 := Stand.of_body Bd
  have e0 : s₁.heap = h0 := by rw [← hh, Bd.state]; rfl
  have N0 := Fr.nil n0
  have K0 : Keep h0 h0 [o0] := Keep.refl _ _
  obtain ⟨G, hG⟩ : ∃ z, z = s₁.setTop (entryFrame m #[(.ref o0), (.long q1), (.ref o2)] 4) := ⟨_, rfl⟩
  have pre0 : Lead p e below G (s₁.setTop (mkF m 0 #[.val (.ref o0), .val (.long q1), .second, .val (.ref o2)] [])) := fun t k => by rw [hG]; exact castTop (ef_3 m o0 q1 o2) k
  have pre1 : Lead p e below G (s₁.setTop (mkF m 1 #[.val (.ref o0), .val (.long q1), .second, .val (.ref o2)] [(.ref o0)])) := fun t k => by
    refine pre0 t ?_
    show Steps p.tables e below (s₁.setTop (mkF m 0 #[.val (.ref o0), .val (.long q1), .second, .val (.ref o2)] [])) _
    refine XS.aloadN X0.here hx rfl (hb hby d3_0) rfl rfl ?_
    show Steps p.tables e below (s₁.setTop (mkF m 1 #[.val (.ref o0), .val (.long q1), .second, .val (.ref o2)] [(.ref o0)])) _
    exact k
  obtain ⟨T2, X2, e2, st2⟩ := initO X0 hx hZ hown (hw _ (List.mem_of_getElem? (i := 15) rfl)) (hw _ (List.mem_of_getElem? (i := 16) rfl)) (hw _ (List.mem_of_getElem? (i := 17) rfl)) e0 (g := (mkF m 1 #[.val (.ref o0), .val (.long q1), .second, .val (.ref o2)] [(.ref o0)])) rfl (by rw [hml]; rfl) rfl (hb hby d3_1) (by decide) (W := 0) (by show 2 * 0 + _ ≤ _; exact Nat.le_of_eq rfl) (by decide)
  have pre2 : Lead p e below G (T2.setTop (mkF m 4 #[.val (.ref o0), .val (.long q1), .second, .val (.ref o2)] [])) := fun t k => pre1 t (st2 _ k)
  have pre3 : Lead p e below G (T2.setTop (mkF m 6 #[.val (.ref o0), .val (.long q1), .second, .val (.ref o2)] [(.long q1), (.ref o0)])) := fun t k => by
    refine pre2 t ?_
    show Steps p.tables e below (T2.setTop (mkF m 4 #[.val (.ref o0), .val (.long q1), .second, .val (.ref o2)] [])) _
    refine XS.aloadN X2.here hx rfl (hb hby d3_4) rfl rfl ?_
    show Steps p.tables e below (T2.setTop (mkF m 5 #[.val (.ref o0), .val (.long q1), .second, .val (.ref o2)] [(.ref o0)])) _
    refine XS.lloadN X2.here hx rfl (hb hby d3_5) rfl ?_
    show Steps p.tables e below (T2.setTop (mkF m 6 #[.val (.ref o0), .val (.long q1), .second, .val (.ref o2)] [(.long q1), (.ref o0)])) _
    exact k
  obtain ⟨T4, h4, X4, e4, W4, st4⟩ := putF X2 hx hZ hown (host := "") (Or.inl (hw _ (List.mem_of_getElem? (i := 18) rfl))) Via.refl e2 P2_F P0_E (Or.inr ⟨(hw _ (List.mem_of_getElem? (i := 19) rfl)), rfl, hnm⟩) (hw _ (List.mem_of_getElem? (i := 2) rfl)) (ty := .long) (by decide) rfl rfl (g := (mkF m 6 #[.val (.ref o0), .val (.long q1), .second, .val (.ref o2)] [(.long q1), (.ref o0)])) rfl rfl (hb hby d3_6)
  have N4 := Fr.snoc X4 N0 P1_G
  have K4 : Keep h0 h4 [o0] := K0.wr W4 (Or.inl (List.mem_of_getElem? (i := 0) rfl))
  have Fw4 : Fld Z h4 o0 "com/example/libnear/libnear/core/BitArray" "size" "J" (.long q1) := P2_F.same W4
  have pre4 : Lead p e below G (T4.setTop (mkF m 9 #[.val (.ref o0), .val (.long q1), .second, .val (.ref o2)] [])) := fun t k => pre3 t (st4 _ k)
  have pre5 : Lead p e below G (T4.setTop (mkF m 11 #[.val (.ref o0), .val (.long q1), .second, .val (.ref o2)] [(.ref o2), (.ref o0)])) := fun t k => by
    refine pre4 t ?_
    show Steps p.tables e below (T4.setTop (mkF m 9 #[.val (.ref o0), .val (.long q1), .second, .val (.ref o2)] [])) _
    refine XS.aloadN X4.here hx rfl (hb hby d3_9) rfl rfl ?_
    show Steps p.tables e below (T4.setTop (mkF m 10 #[.val (.ref o0), .val (.long q1), .second, .val (.ref o2)] [(.ref o0)])) _
    refine XS.aloadN X4.here hx rfl (hb hby d3_10) rfl rfl ?_
    show Steps p.tables e below (T4.setTop (mkF m 11 #[.val (.ref o0), .val (.long q1), .second, .val (.ref o2)] [(.ref o2), (.ref o0)])) _
    exact k
  have f7 : Fld Z h4 o0 "com/example/libnear/libnear/core/BitArray" "words" "[J" .null := (P3_F.other W4 (Or.inr (slot_ne (Or.inr (hw _ (List.mem_of_getElem? (i := 21) rfl))) (Or.inr (hw _ (List.mem_of_getElem? (i := 19) rfl))) (by decide) (t := (.array .long)) (t' := .long) (by decide) (by decide))))
  have f8 : Exa Z h4 o0 "com/example/libnear/libnear/core/BitArray" := (P0_E.wr W4)
  obtain ⟨T6, h6, X6, e6, W6, st6⟩ := putF X4 hx hZ hown (host := "") (Or.inl (hw _ (List.mem_of_getElem? (i := 20) rfl))) Via.refl e4 f7 f8 (Or.inr ⟨(hw _ (List.mem_of_getElem? (i := 21) rfl)), rfl, hnm⟩) (hw _ (List.mem_of_getElem? (i := 2) rfl)) (ty := (.array .long)) (by decide) rfl rfl (g := (mkF m 11 #[.val (.ref o0), .val (.long q1), .second, .val (.ref o2)] [(.ref o2), (.ref o0)])) rfl rfl (hb hby d3_11)
  have N6 := Fr.snoc X6 N4 P1_G
  have K6 : Keep h0 h6 [o0] := K4.wr W6 (Or.inl (List.mem_of_getElem? (i := 0) rfl))
  have Fw6 : Fld Z h6 o0 "com/example/libnear/libnear/core/BitArray" "words" "[J" (.ref o2) := f7.same W6
  have pre6 : Lead p e below G (T6.setTop (mkF m 14 #[.val (.ref o0), .val (.long q1), .second, .val (.ref o2)] [])) := fun t k => pre5 t (st6 _ k)
  obtain ⟨fs, hr, hrun, hended, hW, hsame⟩ := X6.leave (v := none) (fun _ => rfl)
  subst hG
  refine ⟨_, _, pre6 _ ?_, hrun, hended, _, _, rfl, ?_, ⟨_, rfl⟩, hW, hsame.mono (by decide) (by decide)⟩
  · show Steps p.tables e below (T6.setTop (mkF m 14 #[.val (.ref o0), .val (.long q1), .second, .val (.ref o2)] [])) _
    exact X6.returnOut hx Bd.returns (hb hby d3_14) hr
  · show Q3 Z o0 q1 o2 h0 n0 _ T6.heap _
    rw [e6]
    have f9 : Exa Z h6 o0 "com/example/libnear/libnear/core/BitArray" := (f8.wr W6)
    exact ⟨rfl, N6, K6, f9, Fw6⟩
theorem pd__28_J_29_I : parseMethodDescriptor "(J)I" = some ⟨[.long], some .int⟩ := by decide +kernel
theorem pd__28_J_5b_J_29_V : parseMethodDescriptor "(J[J)V" = some ⟨[.long, (.array .long)], none⟩ := by decide +kernel
theorem d1_0 : decode prog_37_method_1_code 0 = .ok (.aload_n 0, 1) := by decide +kernel
theorem d1_1 : decode prog_37_method_1_code 1 = .ok (.lload_n 1, 1) := by decide +kernel
theorem d1_2 : decode prog_37_method_1_code 2 = .ok (.lload_n 1, 1) := by decide +kernel
theorem d1_3 : decode prog_37_method_1_code 3 = .ok (.invokestatic 3, 3) := by decide +kernel
theorem d1_6 : decode prog_37_method_1_code 6 = .ok (.newarray .long, 2) := by decide +kernel
theorem d1_8 : decode prog_37_method_1_code 8 = .ok (.invokespecial 9, 3) := by decide +kernel
theorem d1_11 : decode prog_37_method_1_code 11 = .ok (.return_, 1) := by decide +kernel
theorem ef_1 (m : MethodId) (o0 : Addr) (q1 : Int64) : entryFrame m #[(.ref o0), (.long q1)] 3 = mkF m 0 #[.val (.ref o0), .val (.long q1), .second] [] := by first | (simp [entryFrame, mkF, argsToLocals, Value.category]; done) | rfl
def Q1 (Z : State) (o0 : Addr) (q1 : Int64)  (h0 : Heap) (n0 : Nat) (v : Option Value) (h : Heap) (L : List Loc) : Prop := ∃ wb : Addr, v = none ∧ Fr n0 L ∧ Keep h0 h [o0] ∧ Exa Z h o0 "com/example/libnear/libnear/core/BitArray" ∧ Fld Z h o0 "com/example/libnear/libnear/core/BitArray" "words" "[J" (.ref wb) ∧ h0.size ≤ wb ∧ JV Value.long Z h wb .long (F2 q1) (fun _ => (0 : Int64))
set_option maxRecDepth 65536 in
set_option maxHeartbeats 40000000 in
theorem rm1 (l : Launch) (Z : State) (a0 : Array Value) (hw : ∀ d ∈ tables_1, d.before a0 Z = true) (ws : List Jvm.Cond) (o0 : Addr) (q1 : Int64)  (h0 : Heap) (n0 : Nat) (Z0 : n0 ≤ h0.size) (P0_E : Exa Z h0 o0 "com/example/libnear/libnear/core/BitArray") (P1_G : n0 ≤ o0) (P2_F : Fld Z h0 o0 "com/example/libnear/libnear/core/BitArray" "size" "J" (.long (0 : Int64))) (P3_F : Fld Z h0 o0 "com/example/libnear/libnear/core/BitArray" "words" "[J" .null) (hneg : ¬ F2 q1 < 0) (hcap : (F2 q1).toNatClampNeg ≤ 32) :
    MetFree l (⟨"com/example/libnear/libnear/core/BitArray", "<init>", "(J)V"⟩ : MethodName) (head1 (Jvm.Cond.code (⟨"com/example/libnear/libnear/core/BitArray", "<init>", "(J)V"⟩ : MethodName) prog_37_method_1_code 3 none :: ws) ({ frames := 2, cells := 1, slots := 32, locals := 27 } : Room)) (fun a U => a = #[(.ref o0), (.long q1)] ∧ Z.Warmed39 U.vm ∧ U.heap = h0) (fun _ _ _ _ _ => True) (fun _ U o U' => ∃ v L, o = .returned v ∧ Q1 Z o0 q1 h0 n0 v U'.heap L ∧ FrameEnd U o U' L ({ frames := 2, cells := 1, slots := 32, locals := 27 } : Room).cells ({ frames := 2, cells := 1, slots := 32, locals := 27 } : Room).slots) := by
  refine MetFree.of_bodySF (plainFor_of_name pn_com_example_libnear_libnear_core_BitArray) hisR ?_
  intro p e s m args below meth c s₁ Bd hml0 hP hK
  obtain ⟨rfl, hZ, hh⟩ := hP
  have hx := Bd.exec
  have hby := Bd.bytes
  have hml : c.maxLocals = 3 := hml0
  have hown : s.vm.findClass "com/example/libnear/libnear/core/BitArray" = some m.cls := findClass_of_methodNamed Bd.named
  have hnm := (name_of_methodNamed Bd.named Bd.method).1
  have X0 : Stand p l e ({ frames := 2, cells := 1, slots := 32, locals := 27 } : Room) s m #[(.ref o0), (.long q1)] below meth c s₁ [] 0 0 := Stand.of_body Bd
  have e0 : s₁.heap = h0 := by rw [← hh, Bd.state]; rfl
  have N0 := Fr.nil n0
  have K0 : Keep h0 h0 [o0] := Keep.refl _ _
  obtain ⟨G, hG⟩ : ∃ z, z = s₁.setTop (entryFrame m #[(.ref o0), (.long q1)] 3) := ⟨_, rfl⟩
  have pre0 : Lead p e below G (s₁.setTop (mkF m 0 #[.val (.ref o0), .val (.long q1), .second] [])) := fun t k => by rw [hG]; exact castTop (ef_1 m o0 q1) k
  have pre1 : Lead p e below G (s₁.setTop (mkF m 3 #[.val (.ref o0), .val (.long q1), .second] [(.long q1), (.long q1), (.ref o0)])) := fun t k => by
    refine pre0 t ?_
    show Steps p.tables e below (s₁.setTop (mkF m 0 #[.val (.ref o0), .val (.long q1), .second] [])) _
    refine XS.aloadN X0.here hx rfl (hb hby d1_0) rfl rfl ?_
    show Steps p.tables e below (s₁.setTop (mkF m 1 #[.val (.ref o0), .val (.long q1), .second] [(.ref o0)])) _
    refine XS.lloadN X0.here hx rfl (hb hby d1_1) rfl ?_
    show Steps p.tables e below (s₁.setTop (mkF m 2 #[.val (.ref o0), .val (.long q1), .second] [(.long q1), (.ref o0)])) _
    refine XS.lloadN X0.here hx rfl (hb hby d1_2) rfl ?_
    show Steps p.tables e below (s₁.setTop (mkF m 3 #[.val (.ref o0), .val (.long q1), .second] [(.long q1), (.long q1), (.ref o0)])) _
    exact k
  obtain ⟨_, _, ⟨T2, L2, k2, n2⟩, -, X2, ⟨Lc2, hQ2, l2, y2, z2⟩, st2⟩ := Jvm.LawKit.callS X0 hx (y := (⟨"com/example/libnear/libnear/core/BitArray", "wordCount", "(J)I"⟩ : MethodName)) hown (mvT hZ (hw _ (List.mem_of_getElem? (i := 7) rfl))) (mvT hZ (hw _ (List.mem_of_getElem? (i := 8) rfl))) (mvT hZ (hw _ (List.mem_of_getElem? (i := 3) rfl))) (mvT hZ (hw _ (List.mem_of_getElem? (i := 9) rfl))) (by decide) (backOf (W := 3) (rm2 l Z a0 hw [] q1  h0 n0 (Nat.le_trans Z0 K0.1) ) hZ (hw _ (List.mem_of_getElem? (i := 9) rfl)) (hw _ (List.mem_of_getElem? (i := 3) rfl)) (by decide) (by decide)) (g := (mkF m 3 #[.val (.ref o0), .val (.long q1), .second] [(.long q1), (.long q1), (.ref o0)])) rfl (by rw [hml]; rfl) (argsL := [(.long q1)]) (rest := [(.long q1), (.ref o0)]) (lenOf pd__28_J_29_I rfl) rfl (by show 2 * 0 + _ ≤ _; exact Nat.le_of_eq rfl) (hb hby d1_3) (fun _ _ => ⟨rfl, e0, (by decide : 0 + 0 ≤ _), (by decide : 0 + 0 ≤ _)⟩)
  dsimp only [Pt.U, Pt.locs, Pt.cells, Pt.slots] at X2 l2 y2 z2 st2 hQ2
  subst l2 y2 z2
  obtain ⟨rfl, N2q, e2⟩ := hQ2
  have N2 := Fr.app N0 N2q
  have pre2 : Lead p e below G (T2.setTop (mkF m 6 #[.val (.ref o0), .val (.long q1), .second] [(.int (F2 q1)), (.long q1), (.ref o0)])) := fun t k => pre1 t (st2 _ k)
  obtain ⟨T3, h3, k3, X3, e3, E3, A3, st3⟩ := newP X2 hx hZ (hw _ (List.mem_of_getElem? (i := 11) rfl)) e2 (g := (mkF m 6 #[.val (.ref o0), .val (.long q1), .second] [(.int (F2 q1)), (.long q1), (.ref o0)])) rfl (hb hby d1_6) rfl hneg (cap := 32) hcap (by decide) (by decide) (by decide)
  obtain ⟨b3, g3⟩ : ∃ z, z = h0.size := ⟨_, rfl⟩
  rw [← g3] at A3 st3
  have ne3_o0 : o0 ≠ b3 := Nat.ne_of_lt (Nat.lt_of_lt_of_le P0_E.lt (Nat.le_of_eq g3.symm))
  have sz3 : h0.size ≤ b3 := Nat.le_trans K0.1 (Nat.le_of_eq g3.symm)
  have ge3 : n0 ≤ b3 := Nat.le_trans Z0 sz3
  have K3 : Keep h0 h3 [o0] := K0.ext E3
  have V3 : JV Value.long Z h3 b3 .long (F2 q1) (fun _ => (0 : Int64)) := JV.new A3 hneg _ rfl
  have pre3 : Lead p e below G (T3.setTop (mkF m 8 #[.val (.ref o0), .val (.long q1), .second] [(.ref b3), (.long q1), (.ref o0)])) := fun t k => pre2 t (st3 _ k)
  have f5 : Exa Z h3 o0 "com/example/libnear/libnear/core/BitArray" := (P0_E.ext E3)
  have f6 : Fld Z h3 o0 "com/example/libnear/libnear/core/BitArray" "size" "J" (.long (0 : Int64)) := (P2_F.ext E3)
  have f7 : Fld Z h3 o0 "com/example/libnear/libnear/core/BitArray" "words" "[J" .null := (P3_F.ext E3)
  obtain ⟨_, _, ⟨T4, L4, k4, n4⟩, -, X4, ⟨Lc4, hQ4, l4, y4, z4⟩, st4⟩ := X3.specialBack hx (y := (⟨"com/example/libnear/libnear/core/BitArray", "<init>", "(J[J)V"⟩ : MethodName)) rfl hown (mvT hZ (hw _ (List.mem_of_getElem? (i := 12) rfl))) (mvT hZ (hw _ (List.mem_of_getElem? (i := 13) rfl))) (mvT hZ (hw _ (List.mem_of_getElem? (i := 14) rfl))) (by decide) (backOf (W := 0) (rm3 l Z a0 hw [] o0 q1 b3  h3 n0 (Nat.le_trans Z0 K3.1) f5 P1_G f6 f7) hZ (hw _ (List.mem_of_getElem? (i := 14) rfl)) (hw _ (List.mem_of_getElem? (i := 3) rfl)) (by decide) (by decide)) (g := (mkF m 8 #[.val (.ref o0), .val (.long q1), .second] [(.ref b3), (.long q1), (.ref o0)])) rfl (by rw [hml]; rfl) (Steps.refl _) (a := o0) (argsL := [(.long q1), (.ref b3)]) (rest := []) (lenOf pd__28_J_5b_J_29_V rfl) rfl (by show 2 * 0 + _ ≤ _; exact Nat.le_of_eq rfl) (hb hby d1_8) (fun _ _ => ⟨rfl, e3, (by decide : 1 + 0 ≤ _), (by decide : 32 + 0 ≤ _)⟩)
  dsimp only [Pt.U, Pt.locs, Pt.cells, Pt.slots] at X4 l4 y4 z4 st4 hQ4
  subst l4 y4 z4
  obtain ⟨rfl, N4q, K4c, c4_0, c4_1⟩ := hQ4
  have N4 := Fr.app N2 N4q
  have K4 : Keep h0 T4.heap [o0] := K3.trans K4c (allS (Or.inl (List.mem_of_getElem? (i := 0) rfl)) all0)
  have pre4 : Lead p e below G (T4.setTop (mkF m 11 #[.val (.ref o0), .val (.long q1), .second] [])) := fun t k => pre3 t (st4.trans k)
  obtain ⟨fs, hr, hrun, hended, hW, hsame⟩ := X4.leave (v := none) (fun _ => rfl)
  subst hG
  refine ⟨_, _, pre4 _ ?_, hrun, hended, _, _, rfl, ?_, ⟨_, rfl⟩, hW, hsame.mono (by decide) (by decide)⟩
  · show Steps p.tables e below (T4.setTop (mkF m 11 #[.val (.ref o0), .val (.long q1), .second] [])) _
    exact X4.returnOut hx Bd.returns (hb hby d1_11) hr
  · show Q1 Z o0 q1 h0 n0 _ T4.heap _
    have f8 : JV Value.long Z T4.heap b3 .long (F2 q1) (fun _ => (0 : Int64)) := (V3.keep K4c (ninS (Ne.symm ne3_o0) nin0))
    exact ⟨b3, rfl, N4, K4, c4_0, c4_1, sz3, f8⟩
theorem d5_0 : decode prog_37_method_5_code 0 = .ok (.aload_n 0, 1) := by decide +kernel
theorem d5_1 : decode prog_37_method_5_code 1 = .ok (.getfield 22, 3) := by decide +kernel
theorem d5_4 : decode prog_37_method_5_code 4 = .ok (.lload_n 1, 1) := by decide +kernel
theorem d5_5 : decode prog_37_method_5_code 5 = .ok (.ldc2_w 26, 3) := by decide +kernel
theorem d5_8 : decode prog_37_method_5_code 8 = .ok (.ldiv, 1) := by decide +kernel
theorem d5_9 : decode prog_37_method_5_code 9 = .ok (.l2i, 1) := by decide +kernel
theorem d5_10 : decode prog_37_method_5_code 10 = .ok (.laload, 1) := by decide +kernel
theorem d5_11 : decode prog_37_method_5_code 11 = .ok (.lconst 1, 1) := by decide +kernel
theorem d5_12 : decode prog_37_method_5_code 12 = .ok (.lload_n 1, 1) := by decide +kernel
theorem d5_13 : decode prog_37_method_5_code 13 = .ok (.ldc2_w 26, 3) := by decide +kernel
theorem d5_16 : decode prog_37_method_5_code 16 = .ok (.lrem, 1) := by decide +kernel
theorem d5_17 : decode prog_37_method_5_code 17 = .ok (.l2i, 1) := by decide +kernel
theorem d5_18 : decode prog_37_method_5_code 18 = .ok (.lshl, 1) := by decide +kernel
theorem d5_19 : decode prog_37_method_5_code 19 = .ok (.land, 1) := by decide +kernel
theorem d5_20 : decode prog_37_method_5_code 20 = .ok (.lconst 0, 1) := by decide +kernel
theorem d5_21 : decode prog_37_method_5_code 21 = .ok (.lcmp, 1) := by decide +kernel
theorem d5_22 : decode prog_37_method_5_code 22 = .ok (.ifCond .eq 7, 3) := by decide +kernel
theorem d5_25 : decode prog_37_method_5_code 25 = .ok (.iconst 1, 1) := by decide +kernel
theorem d5_26 : decode prog_37_method_5_code 26 = .ok (.goto 4, 3) := by decide +kernel
theorem d5_29 : decode prog_37_method_5_code 29 = .ok (.iconst 0, 1) := by decide +kernel
theorem d5_30 : decode prog_37_method_5_code 30 = .ok (.ireturn, 1) := by decide +kernel
def F5 (q1 : Int64) (ga : Nat → Int64) : Int32 := let v8 : Int32 := (if ((ga (((q1 / (64 : Int64)).toInt32)).toNatClampNeg) &&& ((1 : Int64) <<< (((q1 - (q1 / (64 : Int64)) * (64 : Int64)).toInt32) &&& 0x3f).toInt64)) = (0 : Int64) then (0 : Int32) else (1 : Int32)); (nar .boolean v8)
theorem ef_5 (m : MethodId) (o0 : Addr) (q1 : Int64) : entryFrame m #[(.ref o0), (.long q1)] 3 = mkF m 0 #[.val (.ref o0), .val (.long q1), .second] [] := by first | (simp [entryFrame, mkF, argsToLocals, Value.category]; done) | rfl
def Q5 (Z : State) (o0 : Addr) (q1 : Int64) (wa : Addr) (nl : Int32) (ga : Nat → Int64) (h0 : Heap) (n0 : Nat) (v : Option Value) (h : Heap) (L : List Loc) : Prop := v = some (.int (F5 q1 ga)) ∧ Fr n0 L ∧ h = h0
set_option maxRecDepth 65536 in
set_option maxHeartbeats 40000000 in
theorem rm5 (l : Launch) (Z : State) (a0 : Array Value) (hw : ∀ d ∈ tables_1, d.before a0 Z = true) (ws : List Jvm.Cond) (o0 : Addr) (q1 : Int64) (wa : Addr) (nl : Int32) (ga : Nat → Int64) (h0 : Heap) (n0 : Nat) (Z0 : n0 ≤ h0.size) (P0_F : Fld Z h0 o0 "com/example/libnear/libnear/core/BitArray" "words" "[J" (.ref wa)) (P1_V : JV Value.long Z h0 wa .long nl ga) (hix : ¬ (q1 / (64 : Int64)).toInt32 < 0 ∧ (q1 / (64 : Int64)).toInt32 < nl) :
    MetFree l (⟨"com/example/libnear/libnear/core/BitArray", "get", "(J)Z"⟩ : MethodName) (head1 (Jvm.Cond.code (⟨"com/example/libnear/libnear/core/BitArray", "get", "(J)Z"⟩ : MethodName) prog_37_method_5_code 3 (some .boolean) :: ws) ({ frames := 0, cells := 0, slots := 0, locals := 0 } : Room)) (fun a U => a = #[(.ref o0), (.long q1)] ∧ Z.Warmed39 U.vm ∧ U.heap = h0) (fun _ _ _ _ _ => True) (fun _ U o U' => ∃ v L, o = .returned v ∧ Q5 Z o0 q1 wa nl ga h0 n0 v U'.heap L ∧ FrameEnd U o U' L ({ frames := 0, cells := 0, slots := 0, locals := 0 } : Room).cells ({ frames := 0, cells := 0, slots := 0, locals := 0 } : Room).slots) := by
  refine MetFree.of_bodySF (plainFor_of_name pn_com_example_libnear_libnear_core_BitArray) hisR ?_
  intro p e s m args below meth c s₁ Bd hml0 hP hK
  obtain ⟨rfl, hZ, hh⟩ := hP
  have hx := Bd.exec
  have hby := Bd.bytes
  have hml : c.maxLocals = 3 := hml0
  have hown : s.vm.findClass "com/example/libnear/libnear/core/BitArray" = some m.cls := findClass_of_methodNamed Bd.named
  have hnm := (name_of_methodNamed Bd.named Bd.method).1
  have X0 : Stand p l e ({ frames := 0, cells := 0, slots := 0, locals := 0 } : Room) s m #[(.ref o0), (.long q1)] below meth c s₁ [] 0 0 := Stand.of_body Bd
  have e0 : s₁.heap = h0 := by rw [← hh, Bd.state]; rfl
  have N0 := Fr.nil n0
  have K0 : Keep h0 h0 [] := Keep.refl _ _
  obtain ⟨G, hG⟩ : ∃ z, z = s₁.setTop (entryFrame m #[(.ref o0), (.long q1)] 3) := ⟨_, rfl⟩
  have pre0 : Lead p e below G (s₁.setTop (mkF m 0 #[.val (.ref o0), .val (.long q1), .second] [])) := fun t k => by rw [hG]; exact castTop (ef_5 m o0 q1) k
  have pre1 : Lead p e below G (s₁.setTop (mkF m 1 #[.val (.ref o0), .val (.long q1), .second] [(.ref o0)])) := fun t k => by
    refine pre0 t ?_
    show Steps p.tables e below (s₁.setTop (mkF m 0 #[.val (.ref o0), .val (.long q1), .second] [])) _
    refine XS.aloadN X0.here hx rfl (hb hby d5_0) rfl rfl ?_
    show Steps p.tables e below (s₁.setTop (mkF m 1 #[.val (.ref o0), .val (.long q1), .second] [(.ref o0)])) _
    exact k
  obtain ⟨T2, X2, e2, st2⟩ := getF X0 hx hZ hown (host := "") (Or.inl (hw _ (List.mem_of_getElem? (i := 20) rfl))) Via.refl e0 P0_F (g := (mkF m 1 #[.val (.ref o0), .val (.long q1), .second] [(.ref o0)])) rfl rfl (hb hby d5_1)
  have pre2 : Lead p e below G (T2.setTop (mkF m 4 #[.val (.ref o0), .val (.long q1), .second] [(.ref wa)])) := fun t k => pre1 t (st2 _ k)
  have pre3 : Lead p e below G (T2.setTop (mkF m 10 #[.val (.ref o0), .val (.long q1), .second] [(.int ((q1 / (64 : Int64)).toInt32)), (.ref wa)])) := fun t k => by
    refine pre2 t ?_
    show Steps p.tables e below (T2.setTop (mkF m 4 #[.val (.ref o0), .val (.long q1), .second] [(.ref wa)])) _
    refine XS.lloadN X2.here hx rfl (hb hby d5_4) rfl ?_
    show Steps p.tables e below (T2.setTop (mkF m 5 #[.val (.ref o0), .val (.long q1), .second] [(.long q1), (.ref wa)])) _
    refine X2.ldc2Long hx hown (mvT hZ (hw _ (List.mem_of_getElem? (i := 10) rfl))) (g := (mkF m 5 #[.val (.ref o0), .val (.long q1), .second] [(.long q1), (.ref wa)])) rfl (hb hby d5_5) _ ?_
    show Steps p.tables e below (T2.setTop (mkF m 8 #[.val (.ref o0), .val (.long q1), .second] [(.long (64 : Int64)), (.long q1), (.ref wa)])) _
    refine XS.ldiv X2.here hx rfl (hb hby d5_8) rfl (by decide) ?_
    show Steps p.tables e below (T2.setTop (mkF m 9 #[.val (.ref o0), .val (.long q1), .second] [(.long (q1 / (64 : Int64))), (.ref wa)])) _
    refine XS.l2i X2.here hx rfl (hb hby d5_9) rfl ?_
    show Steps p.tables e below (T2.setTop (mkF m 10 #[.val (.ref o0), .val (.long q1), .second] [(.int ((q1 / (64 : Int64)).toInt32)), (.ref wa)])) _
    exact k
  obtain ⟨cl4, Ar4, hin4, hat4⟩ := P1_V.in (j := ((q1 / (64 : Int64)).toInt32)) hix
  have st4 := X2.laload hx (j := ((q1 / (64 : Int64)).toInt32)) (v := (.long (ga (((q1 / (64 : Int64)).toInt32)).toNatClampNeg))) (by rw [e2]; exact Ar4.1) (State.isArrayOf_alike hZ.alike Ar4.2.1) Ar4.2.2 hin4 hat4 (g := (mkF m 10 #[.val (.ref o0), .val (.long q1), .second] [(.int ((q1 / (64 : Int64)).toInt32)), (.ref wa)])) rfl rfl (hb hby d5_10)
  have pre4 : Lead p e below G (T2.setTop (mkF m 11 #[.val (.ref o0), .val (.long q1), .second] [(.long (ga (((q1 / (64 : Int64)).toInt32)).toNatClampNeg))])) := fun t k => pre3 t (st4 _ k)
  have pre7 : Lead p e below G (T2.setTop (mkF m 30 #[.val (.ref o0), .val (.long q1), .second] [(.int (if ((ga (((q1 / (64 : Int64)).toInt32)).toNatClampNeg) &&& ((1 : Int64) <<< (((q1 - (q1 / (64 : Int64)) * (64 : Int64)).toInt32) &&& 0x3f).toInt64)) = (0 : Int64) then (0 : Int32) else (1 : Int32)))])) := fun t k => by
    refine pre4 t ?_
    show Steps p.tables e below (T2.setTop (mkF m 11 #[.val (.ref o0), .val (.long q1), .second] [(.long (ga (((q1 / (64 : Int64)).toInt32)).toNatClampNeg))])) _
    refine XS.lconst X2.here hx rfl (hb hby d5_11) ?_
    show Steps p.tables e below (T2.setTop (mkF m 12 #[.val (.ref o0), .val (.long q1), .second] [(.long (1 : Int64)), (.long (ga (((q1 / (64 : Int64)).toInt32)).toNatClampNeg))])) _
    refine XS.lloadN X2.here hx rfl (hb hby d5_12) rfl ?_
    show Steps p.tables e below (T2.setTop (mkF m 13 #[.val (.ref o0), .val (.long q1), .second] [(.long q1), (.long (1 : Int64)), (.long (ga (((q1 / (64 : Int64)).toInt32)).toNatClampNeg))])) _
    refine X2.ldc2Long hx hown (mvT hZ (hw _ (List.mem_of_getElem? (i := 10) rfl))) (g := (mkF m 13 #[.val (.ref o0), .val (.long q1), .second] [(.long q1), (.long (1 : Int64)), (.long (ga (((q1 / (64 : Int64)).toInt32)).toNatClampNeg))])) rfl (hb hby d5_13) _ ?_
    show Steps p.tables e below (T2.setTop (mkF m 16 #[.val (.ref o0), .val (.long q1), .second] [(.long (64 : Int64)), (.long q1), (.long (1 : Int64)), (.long (ga (((q1 / (64 : Int64)).toInt32)).toNatClampNeg))])) _
    refine XS.lrem X2.here hx rfl (hb hby d5_16) rfl (by decide) ?_
    show Steps p.tables e below (T2.setTop (mkF m 17 #[.val (.ref o0), .val (.long q1), .second] [(.long (q1 - (q1 / (64 : Int64)) * (64 : Int64))), (.long (1 : Int64)), (.long (ga (((q1 / (64 : Int64)).toInt32)).toNatClampNeg))])) _
    refine XS.l2i X2.here hx rfl (hb hby d5_17) rfl ?_
    show Steps p.tables e below (T2.setTop (mkF m 18 #[.val (.ref o0), .val (.long q1), .second] [(.int ((q1 - (q1 / (64 : Int64)) * (64 : Int64)).toInt32)), (.long (1 : Int64)), (.long (ga (((q1 / (64 : Int64)).toInt32)).toNatClampNeg))])) _
    refine XS.lshl X2.here hx rfl (hb hby d5_18) rfl ?_
    show Steps p.tables e below (T2.setTop (mkF m 19 #[.val (.ref o0), .val (.long q1), .second] [(.long ((1 : Int64) <<< (((q1 - (q1 / (64 : Int64)) * (64 : Int64)).toInt32) &&& 0x3f).toInt64)), (.long (ga (((q1 / (64 : Int64)).toInt32)).toNatClampNeg))])) _
    refine XS.land X2.here hx rfl (hb hby d5_19) rfl ?_
    show Steps p.tables e below (T2.setTop (mkF m 20 #[.val (.ref o0), .val (.long q1), .second] [(.long ((ga (((q1 / (64 : Int64)).toInt32)).toNatClampNeg) &&& ((1 : Int64) <<< (((q1 - (q1 / (64 : Int64)) * (64 : Int64)).toInt32) &&& 0x3f).toInt64)))])) _
    refine XS.lconst X2.here hx rfl (hb hby d5_20) ?_
    show Steps p.tables e below (T2.setTop (mkF m 21 #[.val (.ref o0), .val (.long q1), .second] [(.long (0 : Int64)), (.long ((ga (((q1 / (64 : Int64)).toInt32)).toNatClampNeg) &&& ((1 : Int64) <<< (((q1 - (q1 / (64 : Int64)) * (64 : Int64)).toInt32) &&& 0x3f).toInt64)))])) _
    refine XS.lcmp X2.here hx rfl (hb hby d5_21) rfl ?_
    show Steps p.tables e below (T2.setTop (mkF m 22 #[.val (.ref o0), .val (.long q1), .second] [(.int (lcmpW ((ga (((q1 / (64 : Int64)).toInt32)).toNatClampNeg) &&& ((1 : Int64) <<< (((q1 - (q1 / (64 : Int64)) * (64 : Int64)).toInt32) &&& 0x3f).toInt64)) (0 : Int64)))])) _
    have j6 : ∀ t, Steps p.tables e below (T2.setTop (mkF m 30 #[.val (.ref o0), .val (.long q1), .second] [(.int (if ((ga (((q1 / (64 : Int64)).toInt32)).toNatClampNeg) &&& ((1 : Int64) <<< (((q1 - (q1 / (64 : Int64)) * (64 : Int64)).toInt32) &&& 0x3f).toInt64)) = (0 : Int64) then (0 : Int32) else (1 : Int32)))])) t → Steps p.tables e below (T2.setTop (mkF m 22 #[.val (.ref o0), .val (.long q1), .second] [(.int (lcmpW ((ga (((q1 / (64 : Int64)).toInt32)).toNatClampNeg) &&& ((1 : Int64) <<< (((q1 - (q1 / (64 : Int64)) * (64 : Int64)).toInt32) &&& 0x3f).toInt64)) (0 : Int64)))])) t := fun t k => by
      by_cases hc22_5 : ((ga (((q1 / (64 : Int64)).toInt32)).toNatClampNeg) &&& ((1 : Int64) <<< (((q1 - (q1 / (64 : Int64)) * (64 : Int64)).toInt32) &&& 0x3f).toInt64)) = (0 : Int64)
      · simp only [if_pos hc22_5] at k
        refine XS.ifYes X2.here hx rfl (pc0 := 22) (pc' := 29) rfl (hb hby d5_22) rfl ((if0 _ _).trans (teq (own_lc_eq.mpr hc22_5)).1) (by decide) (by decide) ?_
        show Steps p.tables e below (T2.setTop (mkF m 29 #[.val (.ref o0), .val (.long q1), .second] [])) _
        refine XS.iconst X2.here hx rfl (hb hby d5_29) ?_
        show Steps p.tables e below (T2.setTop (mkF m 30 #[.val (.ref o0), .val (.long q1), .second] [(.int (0 : Int32))])) _
        exact k
      · simp only [if_neg hc22_5] at k
        refine XS.ifNo X2.here hx rfl (hb hby d5_22) rfl ((if0 _ _).trans (feq (fun q => hc22_5 (own_lc_eq.mp q))).1) ?_
        show Steps p.tables e below (T2.setTop (mkF m 25 #[.val (.ref o0), .val (.long q1), .second] [])) _
        refine XS.iconst X2.here hx rfl (hb hby d5_25) ?_
        show Steps p.tables e below (T2.setTop (mkF m 26 #[.val (.ref o0), .val (.long q1), .second] [(.int (1 : Int32))])) _
        refine XS.goto X2.here hx rfl (pc0 := 26) (pc' := 30) rfl (hb hby d5_26) (by decide) (by decide) ?_
        show Steps p.tables e below (T2.setTop (mkF m 30 #[.val (.ref o0), .val (.long q1), .second] [(.int (1 : Int32))])) _
        exact k
    refine j6 _ ?_
    show Steps p.tables e below (T2.setTop (mkF m 30 #[.val (.ref o0), .val (.long q1), .second] [(.int (if ((ga (((q1 / (64 : Int64)).toInt32)).toNatClampNeg) &&& ((1 : Int64) <<< (((q1 - (q1 / (64 : Int64)) * (64 : Int64)).toInt32) &&& 0x3f).toInt64)) = (0 : Int64) then (0 : Int32) else (1 : Int32)))])) _
    exact k
  obtain ⟨v8, hv8⟩ : ∃ z : Int32, z = (if ((ga (((q1 / (64 : Int64)).toInt32)).toNatClampNeg) &&& ((1 : Int64) <<< (((q1 - (q1 / (64 : Int64)) * (64 : Int64)).toInt32) &&& 0x3f).toInt64)) = (0 : Int64) then (0 : Int32) else (1 : Int32)) := ⟨_, rfl⟩
  have pre8 : Lead p e below G (T2.setTop (mkF m 30 #[.val (.ref o0), .val (.long q1), .second] [(.int v8)])) := by rw [hv8]; exact pre7
  obtain ⟨fs, hr, hrun, hended, hW, hsame⟩ := X2.leave (v := some (.int (nar .boolean v8))) (fun h => by rw [Bd.returns] at h; cases h)
  subst hG
  refine ⟨_, _, pre8 _ ?_, hrun, hended, _, _, rfl, ?_, ⟨_, rfl⟩, hW, hsame.mono (by decide) (by decide)⟩
  · show Steps p.tables e below (T2.setTop (mkF m 30 #[.val (.ref o0), .val (.long q1), .second] [(.int v8)])) _
    exact retN X2 hx (t := .boolean) Bd.returns (by simp) (hb hby d5_30) hr
  · show Q5 Z o0 q1 wa nl ga h0 n0 _ T2.heap _
    rw [e2]
    have hv_ : (nar .boolean v8) = F5 q1 ga := by
      subst hv8
      rfl
    exact ⟨congrArg (fun z => some (Value.int z)) hv_, N0, rfl⟩
def bset (q1 : Int64) (ga : Nat → Int64) : Nat → Int64 := (updF ga ((q1 / (64 : Int64)).toInt32).toNatClampNeg ((ga ((q1 / (64 : Int64)).toInt32).toNatClampNeg) ||| ((1 : Int64) <<< ((q1 - (q1 / (64 : Int64)) * (64 : Int64)).toInt32 &&& 0x3f).toInt64)))
theorem d6_0 : decode prog_37_method_4_code 0 = .ok (.aload_n 0, 1) := by decide +kernel
theorem d6_1 : decode prog_37_method_4_code 1 = .ok (.getfield 22, 3) := by decide +kernel
theorem d6_4 : decode prog_37_method_4_code 4 = .ok (.lload_n 1, 1) := by decide +kernel
theorem d6_5 : decode prog_37_method_4_code 5 = .ok (.ldc2_w 26, 3) := by decide +kernel
theorem d6_8 : decode prog_37_method_4_code 8 = .ok (.ldiv, 1) := by decide +kernel
theorem d6_9 : decode prog_37_method_4_code 9 = .ok (.l2i, 1) := by decide +kernel
theorem d6_10 : decode prog_37_method_4_code 10 = .ok (.dup2, 1) := by decide +kernel
theorem d6_11 : decode prog_37_method_4_code 11 = .ok (.laload, 1) := by decide +kernel
theorem d6_12 : decode prog_37_method_4_code 12 = .ok (.lconst 1, 1) := by decide +kernel
theorem d6_13 : decode prog_37_method_4_code 13 = .ok (.lload_n 1, 1) := by decide +kernel
theorem d6_14 : decode prog_37_method_4_code 14 = .ok (.ldc2_w 26, 3) := by decide +kernel
theorem d6_17 : decode prog_37_method_4_code 17 = .ok (.lrem, 1) := by decide +kernel
theorem d6_18 : decode prog_37_method_4_code 18 = .ok (.l2i, 1) := by decide +kernel
theorem d6_19 : decode prog_37_method_4_code 19 = .ok (.lshl, 1) := by decide +kernel
theorem d6_20 : decode prog_37_method_4_code 20 = .ok (.lor, 1) := by decide +kernel
theorem d6_21 : decode prog_37_method_4_code 21 = .ok (.lastore, 1) := by decide +kernel
theorem d6_22 : decode prog_37_method_4_code 22 = .ok (.return_, 1) := by decide +kernel
theorem ef_6 (m : MethodId) (o0 : Addr) (q1 : Int64) : entryFrame m #[(.ref o0), (.long q1)] 3 = mkF m 0 #[.val (.ref o0), .val (.long q1), .second] [] := by first | (simp [entryFrame, mkF, argsToLocals, Value.category]; done) | rfl
def Q6 (Z : State) (o0 : Addr) (q1 : Int64) (wa : Addr) (nl : Int32) (ga : Nat → Int64) (h0 : Heap) (n0 : Nat) (v : Option Value) (h : Heap) (L : List Loc) : Prop := v = none ∧ Fr n0 L ∧ Keep h0 h [wa] ∧ JV Value.long Z h wa .long nl (bset q1 ga)
set_option maxRecDepth 65536 in
set_option maxHeartbeats 40000000 in
theorem rm6 (l : Launch) (Z : State) (a0 : Array Value) (hw : ∀ d ∈ tables_1, d.before a0 Z = true) (ws : List Jvm.Cond) (o0 : Addr) (q1 : Int64) (wa : Addr) (nl : Int32) (ga : Nat → Int64) (h0 : Heap) (n0 : Nat) (Z0 : n0 ≤ h0.size) (P0_F : Fld Z h0 o0 "com/example/libnear/libnear/core/BitArray" "words" "[J" (.ref wa)) (P1_V : JV Value.long Z h0 wa .long nl ga) (hix : ¬ (q1 / (64 : Int64)).toInt32 < 0 ∧ (q1 / (64 : Int64)).toInt32 < nl) (P3_G : n0 ≤ wa) :
    MetFree l (⟨"com/example/libnear/libnear/core/BitArray", "set", "(J)V"⟩ : MethodName) (head1 (Jvm.Cond.code (⟨"com/example/libnear/libnear/core/BitArray", "set", "(J)V"⟩ : MethodName) prog_37_method_4_code 3 none :: ws) ({ frames := 0, cells := 0, slots := 0, locals := 0 } : Room)) (fun a U => a = #[(.ref o0), (.long q1)] ∧ Z.Warmed39 U.vm ∧ U.heap = h0) (fun _ _ _ _ _ => True) (fun _ U o U' => ∃ v L, o = .returned v ∧ Q6 Z o0 q1 wa nl ga h0 n0 v U'.heap L ∧ FrameEnd U o U' L ({ frames := 0, cells := 0, slots := 0, locals := 0 } : Room).cells ({ frames := 0, cells := 0, slots := 0, locals := 0 } : Room).slots) := by
  refine MetFree.of_bodySF (plainFor_of_name pn_com_example_libnear_libnear_core_BitArray) hisR ?_
  intro p e s m args below meth c s₁ Bd hml0 hP hK
  obtain ⟨rfl, hZ, hh⟩ := hP
  have hx := Bd.exec
  have hby := Bd.bytes
  have hml : c.maxLocals = 3 := hml0
  have hown : s.vm.findClass "com/example/libnear/libnear/core/BitArray" = some m.cls := findClass_of_methodNamed Bd.named
  have hnm := (name_of_methodNamed Bd.named Bd.method).1
  have X0 : Stand p l e ({ frames := 0, cells := 0, slots := 0, locals := 0 } : Room) s m #[(.ref o0), (.long q1)] below meth c s₁ [] 0 0 := Stand.of_body Bd
  have e0 : s₁.heap = h0 := by rw [← hh, Bd.state]; rfl
  have N0 := Fr.nil n0
  have K0 : Keep h0 h0 [wa] := Keep.refl _ _
  obtain ⟨G, hG⟩ : ∃ z, z = s₁.setTop (entryFrame m #[(.ref o0), (.long q1)] 3) := ⟨_, rfl⟩
  have pre0 : Lead p e below G (s₁.setTop (mkF m 0 #[.val (.ref o0), .val (.long q1), .second] [])) := fun t k => by rw [hG]; exact castTop (ef_6 m o0 q1) k
  have pre1 : Lead p e below G (s₁.setTop (mkF m 1 #[.val (.ref o0), .val (.long q1), .second] [(.ref o0)])) := fun t k => by
    refine pre0 t ?_
    show Steps p.tables e below (s₁.setTop (mkF m 0 #[.val (.ref o0), .val (.long q1), .second] [])) _
    refine XS.aloadN X0.here hx rfl (hb hby d6_0) rfl rfl ?_
    show Steps p.tables e below (s₁.setTop (mkF m 1 #[.val (.ref o0), .val (.long q1), .second] [(.ref o0)])) _
    exact k
  obtain ⟨T2, X2, e2, st2⟩ := getF X0 hx hZ hown (host := "") (Or.inl (hw _ (List.mem_of_getElem? (i := 20) rfl))) Via.refl e0 P0_F (g := (mkF m 1 #[.val (.ref o0), .val (.long q1), .second] [(.ref o0)])) rfl rfl (hb hby d6_1)
  have pre2 : Lead p e below G (T2.setTop (mkF m 4 #[.val (.ref o0), .val (.long q1), .second] [(.ref wa)])) := fun t k => pre1 t (st2 _ k)
  have pre3 : Lead p e below G (T2.setTop (mkF m 11 #[.val (.ref o0), .val (.long q1), .second] [(.int ((q1 / (64 : Int64)).toInt32)), (.ref wa), (.int ((q1 / (64 : Int64)).toInt32)), (.ref wa)])) := fun t k => by
    refine pre2 t ?_
    show Steps p.tables e below (T2.setTop (mkF m 4 #[.val (.ref o0), .val (.long q1), .second] [(.ref wa)])) _
    refine XS.lloadN X2.here hx rfl (hb hby d6_4) rfl ?_
    show Steps p.tables e below (T2.setTop (mkF m 5 #[.val (.ref o0), .val (.long q1), .second] [(.long q1), (.ref wa)])) _
    refine X2.ldc2Long hx hown (mvT hZ (hw _ (List.mem_of_getElem? (i := 10) rfl))) (g := (mkF m 5 #[.val (.ref o0), .val (.long q1), .second] [(.long q1), (.ref wa)])) rfl (hb hby d6_5) _ ?_
    show Steps p.tables e below (T2.setTop (mkF m 8 #[.val (.ref o0), .val (.long q1), .second] [(.long (64 : Int64)), (.long q1), (.ref wa)])) _
    refine XS.ldiv X2.here hx rfl (hb hby d6_8) rfl (by decide) ?_
    show Steps p.tables e below (T2.setTop (mkF m 9 #[.val (.ref o0), .val (.long q1), .second] [(.long (q1 / (64 : Int64))), (.ref wa)])) _
    refine XS.l2i X2.here hx rfl (hb hby d6_9) rfl ?_
    show Steps p.tables e below (T2.setTop (mkF m 10 #[.val (.ref o0), .val (.long q1), .second] [(.int ((q1 / (64 : Int64)).toInt32)), (.ref wa)])) _
    jvm_step X2.here [X2.here.top, hx, (hb hby d6_10), Value.category]
    show Steps p.tables e below (T2.setTop (mkF m 11 #[.val (.ref o0), .val (.long q1), .second] [(.int ((q1 / (64 : Int64)).toInt32)), (.ref wa), (.int ((q1 / (64 : Int64)).toInt32)), (.ref wa)])) _
    exact k
  obtain ⟨cl4, Ar4, hin4, hat4⟩ := P1_V.in (j := ((q1 / (64 : Int64)).toInt32)) hix
  have st4 := X2.laload hx (j := ((q1 / (64 : Int64)).toInt32)) (v := (.long (ga (((q1 / (64 : Int64)).toInt32)).toNatClampNeg))) (by rw [e2]; exact Ar4.1) (State.isArrayOf_alike hZ.alike Ar4.2.1) Ar4.2.2 hin4 hat4 (g := (mkF m 11 #[.val (.ref o0), .val (.long q1), .second] [(.int ((q1 / (64 : Int64)).toInt32)), (.ref wa), (.int ((q1 / (64 : Int64)).toInt32)), (.ref wa)])) rfl rfl (hb hby d6_11)
  have pre4 : Lead p e below G (T2.setTop (mkF m 12 #[.val (.ref o0), .val (.long q1), .second] [(.long (ga (((q1 / (64 : Int64)).toInt32)).toNatClampNeg)), (.int ((q1 / (64 : Int64)).toInt32)), (.ref wa)])) := fun t k => pre3 t (st4 _ k)
  have pre5 : Lead p e below G (T2.setTop (mkF m 21 #[.val (.ref o0), .val (.long q1), .second] [(.long ((ga (((q1 / (64 : Int64)).toInt32)).toNatClampNeg) ||| ((1 : Int64) <<< (((q1 - (q1 / (64 : Int64)) * (64 : Int64)).toInt32) &&& 0x3f).toInt64))), (.int ((q1 / (64 : Int64)).toInt32)), (.ref wa)])) := fun t k => by
    refine pre4 t ?_
    show Steps p.tables e below (T2.setTop (mkF m 12 #[.val (.ref o0), .val (.long q1), .second] [(.long (ga (((q1 / (64 : Int64)).toInt32)).toNatClampNeg)), (.int ((q1 / (64 : Int64)).toInt32)), (.ref wa)])) _
    refine XS.lconst X2.here hx rfl (hb hby d6_12) ?_
    show Steps p.tables e below (T2.setTop (mkF m 13 #[.val (.ref o0), .val (.long q1), .second] [(.long (1 : Int64)), (.long (ga (((q1 / (64 : Int64)).toInt32)).toNatClampNeg)), (.int ((q1 / (64 : Int64)).toInt32)), (.ref wa)])) _
    refine XS.lloadN X2.here hx rfl (hb hby d6_13) rfl ?_
    show Steps p.tables e below (T2.setTop (mkF m 14 #[.val (.ref o0), .val (.long q1), .second] [(.long q1), (.long (1 : Int64)), (.long (ga (((q1 / (64 : Int64)).toInt32)).toNatClampNeg)), (.int ((q1 / (64 : Int64)).toInt32)), (.ref wa)])) _
    refine X2.ldc2Long hx hown (mvT hZ (hw _ (List.mem_of_getElem? (i := 10) rfl))) (g := (mkF m 14 #[.val (.ref o0), .val (.long q1), .second] [(.long q1), (.long (1 : Int64)), (.long (ga (((q1 / (64 : Int64)).toInt32)).toNatClampNeg)), (.int ((q1 / (64 : Int64)).toInt32)), (.ref wa)])) rfl (hb hby d6_14) _ ?_
    show Steps p.tables e below (T2.setTop (mkF m 17 #[.val (.ref o0), .val (.long q1), .second] [(.long (64 : Int64)), (.long q1), (.long (1 : Int64)), (.long (ga (((q1 / (64 : Int64)).toInt32)).toNatClampNeg)), (.int ((q1 / (64 : Int64)).toInt32)), (.ref wa)])) _
    refine XS.lrem X2.here hx rfl (hb hby d6_17) rfl (by decide) ?_
    show Steps p.tables e below (T2.setTop (mkF m 18 #[.val (.ref o0), .val (.long q1), .second] [(.long (q1 - (q1 / (64 : Int64)) * (64 : Int64))), (.long (1 : Int64)), (.long (ga (((q1 / (64 : Int64)).toInt32)).toNatClampNeg)), (.int ((q1 / (64 : Int64)).toInt32)), (.ref wa)])) _
    refine XS.l2i X2.here hx rfl (hb hby d6_18) rfl ?_
    show Steps p.tables e below (T2.setTop (mkF m 19 #[.val (.ref o0), .val (.long q1), .second] [(.int ((q1 - (q1 / (64 : Int64)) * (64 : Int64)).toInt32)), (.long (1 : Int64)), (.long (ga (((q1 / (64 : Int64)).toInt32)).toNatClampNeg)), (.int ((q1 / (64 : Int64)).toInt32)), (.ref wa)])) _
    refine XS.lshl X2.here hx rfl (hb hby d6_19) rfl ?_
    show Steps p.tables e below (T2.setTop (mkF m 20 #[.val (.ref o0), .val (.long q1), .second] [(.long ((1 : Int64) <<< (((q1 - (q1 / (64 : Int64)) * (64 : Int64)).toInt32) &&& 0x3f).toInt64)), (.long (ga (((q1 / (64 : Int64)).toInt32)).toNatClampNeg)), (.int ((q1 / (64 : Int64)).toInt32)), (.ref wa)])) _
    refine XS.lor X2.here hx rfl (hb hby d6_20) rfl ?_
    show Steps p.tables e below (T2.setTop (mkF m 21 #[.val (.ref o0), .val (.long q1), .second] [(.long ((ga (((q1 / (64 : Int64)).toInt32)).toNatClampNeg) ||| ((1 : Int64) <<< (((q1 - (q1 / (64 : Int64)) * (64 : Int64)).toInt32) &&& 0x3f).toInt64))), (.int ((q1 / (64 : Int64)).toInt32)), (.ref wa)])) _
    exact k
  obtain ⟨v6, hv6⟩ : ∃ z : Int64, z = ((ga (((q1 / (64 : Int64)).toInt32)).toNatClampNeg) ||| ((1 : Int64) <<< (((q1 - (q1 / (64 : Int64)) * (64 : Int64)).toInt32) &&& 0x3f).toInt64)) := ⟨_, rfl⟩
  have pre6 : Lead p e below G (T2.setTop (mkF m 21 #[.val (.ref o0), .val (.long q1), .second] [(.long v6), (.int ((q1 / (64 : Int64)).toInt32)), (.ref wa)])) := by rw [hv6]; exact pre5
  obtain ⟨cl7, Ar7, hin7, -⟩ := P1_V.in (j := ((q1 / (64 : Int64)).toInt32)) hix
  obtain ⟨T7, h7, X7, e7, W7, st7⟩ := stJ X2 hx hZ e2 Ar7 (j := ((q1 / (64 : Int64)).toInt32)) hin7 (g := (mkF m 21 #[.val (.ref o0), .val (.long q1), .second] [(.long v6), (.int ((q1 / (64 : Int64)).toInt32)), (.ref wa)])) rfl rfl (hb hby d6_21)
  have N7 := Fr.snoc X7 N0 P3_G
  have K7 : Keep h0 h7 [wa] := K0.wr W7 (Or.inl (List.mem_of_getElem? (i := 0) rfl))
  have V7 : JV Value.long Z h7 wa .long nl (updF ga (((q1 / (64 : Int64)).toInt32)).toNatClampNeg v6) := P1_V.set W7
  have pre7 : Lead p e below G (T7.setTop (mkF m 22 #[.val (.ref o0), .val (.long q1), .second] [])) := fun t k => pre6 t (st7 _ k)
  obtain ⟨fs, hr, hrun, hended, hW, hsame⟩ := X7.leave (v := none) (fun _ => rfl)
  subst hG
  refine ⟨_, _, pre7 _ ?_, hrun, hended, _, _, rfl, ?_, ⟨_, rfl⟩, hW, hsame.mono (by decide) (by decide)⟩
  · show Steps p.tables e below (T7.setTop (mkF m 22 #[.val (.ref o0), .val (.long q1), .second] [])) _
    exact X7.returnOut hx Bd.returns (hb hby d6_22) hr
  · show Q6 Z o0 q1 wa nl ga h0 n0 _ T7.heap _
    rw [e7]
    exact ⟨rfl, N7, K7, (by subst hv6; exact V7)⟩
theorem pd__28_J_29_V : parseMethodDescriptor "(J)V" = some ⟨[.long], none⟩ := by decide +kernel
theorem pd__28_J_29_Z : parseMethodDescriptor "(J)Z" = some ⟨[.long], some .boolean⟩ := by decide +kernel
def F0 (p0 : Int32) (p1 : Int32) (p2 : Int32) (p3 : Int32) : Int32 := let v2 : Int64 := (((p1 &&& (2147483647 : Int32)).toInt64) - (((p1 &&& (2147483647 : Int32)).toInt64) / ((1 : Int64) + ((p0 &&& (1023 : Int32)).toInt64))) * ((1 : Int64) + ((p0 &&& (1023 : Int32)).toInt64))); let v4 : Int64 := (((p2 &&& (2147483647 : Int32)).toInt64) - (((p2 &&& (2147483647 : Int32)).toInt64) / ((1 : Int64) + ((p0 &&& (1023 : Int32)).toInt64))) * ((1 : Int64) + ((p0 &&& (1023 : Int32)).toInt64))); let v6 : Int64 := (((p3 &&& (2147483647 : Int32)).toInt64) - (((p3 &&& (2147483647 : Int32)).toInt64) / ((1 : Int64) + ((p0 &&& (1023 : Int32)).toInt64))) * ((1 : Int64) + ((p0 &&& (1023 : Int32)).toInt64))); let v7 : Int64 := ((1 : Int64) + ((p0 &&& (1023 : Int32)).toInt64)); let v24 : Int32 := (F5 v6 (bset v4 (bset v2 (fun _ => (0 : Int64))))); let v31 : Int32 := (if v6 = v2 then (1 : Int32) else (if v6 = v4 then (1 : Int32) else (0 : Int32))); let v39 : Int32 := (if (F5 v6 (fun _ => (0 : Int64))) = (0 : Int32) then (if v24 = v31 then (if (F5 v2 (bset v4 (bset v2 (fun _ => (0 : Int64))))) = (0 : Int32) then (0 : Int32) else (1 : Int32)) else (0 : Int32)) else (0 : Int32)); (nar .boolean v39)
theorem own_max (x : Int32) : (x &&& (2147483647 : Int32)).toInt = x.toInt % 2 ^ 31 := Jvm.Kit.i32_mask x _ (k := 31) (by decide) (by decide)
theorem own_rem (a k : Int32) (ha : 0 ≤ a.toInt) (hk : 0 < k.toInt) : (a - a / k * k).toInt = a.toInt % k.toInt := by
  have b1 := Int32.le_toInt a; have b2 := Int32.toInt_lt a
  have d : (a / k).toInt = a.toInt / k.toInt := by rw [Jvm.Kit.i32_div (by omega), Int.tdiv_eq_ediv_of_nonneg ha]
  have q0 : 0 ≤ a.toInt / k.toInt := Int.ediv_nonneg ha (by omega)
  have q1 : a.toInt / k.toInt * k.toInt ≤ a.toInt := Int.ediv_mul_le _ (by omega)
  have q2 : 0 ≤ a.toInt / k.toInt * k.toInt := Int.mul_nonneg q0 (by omega)
  have m : (a / k * k).toInt = a.toInt / k.toInt * k.toInt := by rw [Jvm.Kit.i32_mul, d] <;> rw [d] <;> omega
  rw [Jvm.Kit.i32_sub (by omega) (by omega), m, Int.emod_def, Int.mul_comm]
theorem own_nar0 : nar .boolean (0 : Int32) = 0 := by decide
theorem own_nar1 : nar .boolean (1 : Int32) = 1 := by decide
theorem own_nat {a : Int32} {k : Nat} (h : a.toInt ≤ k) : a.toNatClampNeg ≤ k := by
  show a.toInt.toNat ≤ k
  omega
theorem own_size (p0 : Int32) : ((1 : Int64) + (p0 &&& (1023 : Int32)).toInt64).toInt = 1 + p0.toInt % 1024 := by
  have h : (p0 &&& (1023 : Int32)).toInt = p0.toInt % 2 ^ 10 := Jvm.Kit.i32_mask p0 _ (k := 10) (by decide) (by decide)
  have c : (1 : Int64).toInt = 1 := by decide
  have e : (p0 &&& (1023 : Int32)).toInt64.toInt = (p0 &&& (1023 : Int32)).toInt := Int32.toInt_toInt64 _
  have := Jvm.Kit.i64_add (x := 1) (y := (p0 &&& (1023 : Int32)).toInt64) (by omega) (by omega)
  omega
theorem own_nz (p0 : Int32) : ((1 : Int64) + (p0 &&& (1023 : Int32)).toInt64) ≠ 0 := fun e => by
  have h := own_size p0
  rw [e, Int64.toInt_zero] at h; omega
theorem own_wc (n : Int64) (h0 : 1 ≤ n.toInt) (h1 : n.toInt ≤ 1024) : (F2 n).toInt = (n.toInt + 63) / 64 := by
  have c64 : (64 : Int64).toInt = 64 := by decide
  have c1 : (1 : Int64).toInt = 1 := by decide
  have s1 : (n + 64).toInt = n.toInt + 64 := by
    have := Jvm.Kit.i64_add (x := n) (y := 64) (by omega) (by omega)
    omega
  have s2 : (n + 64 - 1).toInt = n.toInt + 63 := by
    have := Jvm.Kit.i64_sub (x := n + 64) (y := 1) (by omega) (by omega)
    omega
  have s3 : ((n + 64 - 1) / 64).toInt = (n.toInt + 63) / 64 := by rw [Jvm.Kit.i64_div (by omega), s2, c64, Int.tdiv_eq_ediv_of_nonneg (by omega)]
  show (((n + 64 - 1) / 64).toInt32).toInt = _
  rw [Jvm.Kit.i32_of_i64 (by omega) (by omega), s3]
theorem own_words (p0 : Int32) : ¬ F2 ((1 : Int64) + (p0 &&& (1023 : Int32)).toInt64) < 0 ∧ (F2 ((1 : Int64) + (p0 &&& (1023 : Int32)).toInt64)).toNatClampNeg ≤ 32 := by
  have h := own_size p0
  have w := own_wc ((1 : Int64) + (p0 &&& (1023 : Int32)).toInt64) (by omega) (by omega)
  rw [Int32.lt_iff_toInt_lt, Int32.toInt_zero]
  exact ⟨by omega, own_nat (by omega)⟩
theorem own_i (p0 a : Int32) (v : Int64) (hv : v = (((a &&& (2147483647 : Int32)).toInt64) - (((a &&& (2147483647 : Int32)).toInt64) / ((1 : Int64) + ((p0 &&& (1023 : Int32)).toInt64))) * ((1 : Int64) + ((p0 &&& (1023 : Int32)).toInt64)))) : 0 ≤ v.toInt ∧ v.toInt < ((1 : Int64) + (p0 &&& (1023 : Int32)).toInt64).toInt := by
  have h := own_size p0
  have m := own_max a
  have e : v.toInt = (a &&& (2147483647 : Int32)).toInt64.toInt % ((1 : Int64) + ((p0 &&& (1023 : Int32)).toInt64)).toInt := by
    rw [hv]; exact Jvm.Kit.i64_rem_nonneg (by rw [Int32.toInt_toInt64]; omega)
  rw [e]
  exact ⟨Int.emod_nonneg _ (by omega), Int.emod_lt_of_pos _ (by omega)⟩
theorem own_div (v : Int64) (h0 : 0 ≤ v.toInt) (h1 : v.toInt < 1024) : ((v / 64).toInt32).toInt = v.toInt / 64 := by
  have c64 : (64 : Int64).toInt = 64 := by decide
  have s3 : (v / 64).toInt = v.toInt / 64 := by rw [Jvm.Kit.i64_div (by omega), c64, Int.tdiv_eq_ediv_of_nonneg (by omega)]
  rw [Jvm.Kit.i32_of_i64 (by omega) (by omega), s3]
theorem own_ix (p0 a : Int32) : ¬ ((((a &&& (2147483647 : Int32)).toInt64) - (((a &&& (2147483647 : Int32)).toInt64) / ((1 : Int64) + ((p0 &&& (1023 : Int32)).toInt64))) * ((1 : Int64) + ((p0 &&& (1023 : Int32)).toInt64))) / (64 : Int64)).toInt32 < 0 ∧ ((((a &&& (2147483647 : Int32)).toInt64) - (((a &&& (2147483647 : Int32)).toInt64) / ((1 : Int64) + ((p0 &&& (1023 : Int32)).toInt64))) * ((1 : Int64) + ((p0 &&& (1023 : Int32)).toInt64))) / (64 : Int64)).toInt32 < F2 ((1 : Int64) + (p0 &&& (1023 : Int32)).toInt64) := by
  have h := own_size p0
  have i := own_i p0 a _ rfl
  have w := own_wc _ (show 1 ≤ ((1 : Int64) + (p0 &&& (1023 : Int32)).toInt64).toInt by omega) (by omega)
  have d := own_div _ i.1 (by omega)
  rw [Int32.lt_iff_toInt_lt, Int32.lt_iff_toInt_lt, Int32.toInt_zero, w, d]
  omega

theorem own_mask64 : ∀ k : Fin 64, ((1 : Int64) <<< (Int32.ofNat k.val &&& 0x3f).toInt64).toBitVec = BitVec.twoPow 64 k.val := by decide +kernel
theorem own_M (v : Int64) (h0 : 0 ≤ v.toInt) : ((1 : Int64) <<< ((v - (v / (64 : Int64)) * (64 : Int64)).toInt32 &&& 0x3f).toInt64).toBitVec = BitVec.twoPow 64 (v.toInt % 64).toNat := by
  have c64 : (64 : Int64).toInt = 64 := by decide
  have r : (v - (v / 64) * 64).toInt = v.toInt % 64 := by rw [Jvm.Kit.i64_rem_nonneg h0, c64]
  have e : (v - (v / 64) * 64).toInt32 = Int32.ofNat (v.toInt % 64).toNat := Int32.toInt_inj.mp (by rw [Jvm.Kit.i32_of_i64 (by omega) (by omega), r, Int32.toInt_ofNat_small (by omega)]; omega)
  rw [e]; exact own_mask64 ⟨(v.toInt % 64).toNat, by omega⟩
theorem own_w (v : Int64) (h0 : 0 ≤ v.toInt) (h1 : v.toInt < 1024) : ((v / (64 : Int64)).toInt32).toNatClampNeg = (v.toInt / 64).toNat := by
  show ((v / (64 : Int64)).toInt32).toInt.toNat = _
  rw [own_div v h0 h1]
theorem own_get (v : Int64) (ga : Nat → Int64) (h0 : 0 ≤ v.toInt) (h1 : v.toInt < 1024) : F5 v ga = if (ga (v.toInt / 64).toNat).toBitVec.getLsbD (v.toInt % 64).toNat = true then 1 else 0 := by
  have e : ((ga (v.toInt / 64).toNat) &&& ((1 : Int64) <<< ((v - (v / (64 : Int64)) * (64 : Int64)).toInt32 &&& 0x3f).toInt64) = 0) ↔ ¬ (ga (v.toInt / 64).toNat).toBitVec.getLsbD (v.toInt % 64).toNat = true := by
    rw [← Int64.toBitVec_inj, Int64.toBitVec_and, own_M v h0, BitVec.and_twoPow]
    have hk : (v.toInt % 64).toNat < 64 := by omega
    constructor
    · intro h q
      rw [if_pos q] at h
      have := congrArg (fun z => BitVec.getLsbD z (v.toInt % 64).toNat) h
      simp [BitVec.getLsbD_twoPow, hk] at this
    · intro h
      rw [if_neg h]; rfl
  unfold F5
  rw [own_w v h0 h1]
  dsimp only
  by_cases q : (ga (v.toInt / 64).toNat).toBitVec.getLsbD (v.toInt % 64).toNat = true
  · rw [if_neg (fun z => (e.mp z) q), if_pos q]; decide
  · rw [if_pos (e.mpr q), if_neg q]; decide
theorem own_set (v : Int64) (ga : Nat → Int64) (h0 : 0 ≤ v.toInt) (h1 : v.toInt < 1024) (w k : Nat) (hk : k < 64) : ((bset v ga) w).toBitVec.getLsbD k = ((ga w).toBitVec.getLsbD k || decide (w = (v.toInt / 64).toNat ∧ k = (v.toInt % 64).toNat)) := by
  unfold bset updF
  rw [own_w v h0 h1]
  by_cases e : w = (v.toInt / 64).toNat
  · subst e
    rw [if_pos rfl, Int64.toBitVec_or, own_M v h0, BitVec.getLsbD_or, BitVec.getLsbD_twoPow]
    by_cases q : (v.toInt % 64).toNat = k
    · subst q; simp [hk]
    · have q' : ¬ k = (v.toInt % 64).toNat := fun z => q z.symm
      simp [q, q']
  · rw [if_neg e]; simp [e]
theorem own_law (p0 p1 p2 p3 : Int32) : F0 p0 p1 p2 p3 = 1 := by
  have h := own_size p0
  unfold F0
  dsimp only
  have a := own_i p0 p1 _ rfl
  have b := own_i p0 p2 _ rfl
  have c := own_i p0 p3 _ rfl
  generalize (((p1 &&& (2147483647 : Int32)).toInt64) - (((p1 &&& (2147483647 : Int32)).toInt64) / ((1 : Int64) + ((p0 &&& (1023 : Int32)).toInt64))) * ((1 : Int64) + ((p0 &&& (1023 : Int32)).toInt64))) = x at a ⊢
  generalize (((p2 &&& (2147483647 : Int32)).toInt64) - (((p2 &&& (2147483647 : Int32)).toInt64) / ((1 : Int64) + ((p0 &&& (1023 : Int32)).toInt64))) * ((1 : Int64) + ((p0 &&& (1023 : Int32)).toInt64))) = y at b ⊢
  generalize (((p3 &&& (2147483647 : Int32)).toInt64) - (((p3 &&& (2147483647 : Int32)).toInt64) / ((1 : Int64) + ((p0 &&& (1023 : Int32)).toInt64))) * ((1 : Int64) + ((p0 &&& (1023 : Int32)).toInt64))) = z at c ⊢
  have a1 : x.toInt < 1024 := by omega
  have b1 : y.toInt < 1024 := by omega
  have c1 : z.toInt < 1024 := by omega
  have z0 : F5 z (fun _ => (0 : Int64)) = 0 := by rw [own_get z _ c.1 c1, if_neg (by simp)]
  have gz : F5 z (bset y (bset x (fun _ => (0 : Int64)))) = if z = x then 1 else if z = y then 1 else 0 := by
    rw [own_get z _ c.1 c1, own_set y _ b.1 b1 _ _ (by omega), own_set x _ a.1 a1 _ _ (by omega)]
    have ex : z = x ↔ ((z.toInt / 64).toNat = (x.toInt / 64).toNat ∧ (z.toInt % 64).toNat = (x.toInt % 64).toNat) := by rw [← Int64.toInt_inj]; omega
    have ey : z = y ↔ ((z.toInt / 64).toNat = (y.toInt / 64).toNat ∧ (z.toInt % 64).toNat = (y.toInt % 64).toNat) := by rw [← Int64.toInt_inj]; omega
    have k0 : ∀ k, (Int64.toBitVec 0).getLsbD k = false := fun k => by simp
    by_cases qx : z = x
    · rw [if_pos qx, decide_eq_true (ex.mp qx)]; simp
    · rw [if_neg qx, decide_eq_false (fun q => qx (ex.mpr q)), k0]
      by_cases qy : z = y
      · rw [if_pos qy, decide_eq_true (ey.mp qy)]; simp
      · rw [if_neg qy, decide_eq_false (fun q => qy (ey.mpr q))]; simp
  have gx : F5 x (bset y (bset x (fun _ => (0 : Int64)))) = 1 := by
    rw [own_get x _ a.1 a1, own_set y _ b.1 b1 _ _ (by omega), own_set x _ a.1 a1 _ _ (by omega), if_pos (by simp)]
  rw [z0, gz, gx, if_pos rfl, if_pos rfl, if_neg (by decide)]; decide

theorem pn_com_example_libnear_libnear_core_BitArrayGetPinLaw : plainName "com/example/libnear/libnear/core/BitArrayGetPinLaw" = true := by first | (simp [plainName, overriddenIn]; done) | decide +kernel
theorem ef_0 (m : MethodId) (p0 : Int32) (p1 : Int32) (p2 : Int32) (p3 : Int32) : entryFrame m #[(.int p0), (.int p1), (.int p2), (.int p3)] maxLocals = mkF m 0 #[.val (.int p0), .val (.int p1), .val (.int p2), .val (.int p3), .unset, .unset, .unset, .unset, .unset, .unset, .unset, .unset, .unset, .unset, .unset, .unset, .unset] [] := by first | (simp [entryFrame, mkF, argsToLocals, Value.category, maxLocals]; done) | rfl
def Q0 (Z : State) (p0 : Int32) (p1 : Int32) (p2 : Int32) (p3 : Int32)  (h0 : Heap) (n0 : Nat) (v : Option Value) (h : Heap) (L : List Loc) : Prop := v = some (.int (1 : Int32)) ∧ Fr n0 L
set_option maxRecDepth 65536 in
set_option maxHeartbeats 40000000 in
theorem rm0 (l : Launch) (Z : State) (a0 : Array Value) (hw : ∀ d ∈ tables_1, d.before a0 Z = true) (ws : List Jvm.Cond) (p0 : Int32) (p1 : Int32) (p2 : Int32) (p3 : Int32)  (h0 : Heap) (n0 : Nat) (Z0 : n0 ≤ h0.size)  :
    MetFree l x (head1 (Jvm.Cond.code x code maxLocals ret :: ws) room_1) (fun a U => a = #[(.int p0), (.int p1), (.int p2), (.int p3)] ∧ Z.Warmed39 U.vm ∧ U.heap = h0) (fun _ _ _ _ _ => True) (fun _ U o U' => ∃ v L, o = .returned v ∧ Q0 Z p0 p1 p2 p3 h0 n0 v U'.heap L ∧ FrameEnd U o U' L room_1.cells room_1.slots) := by
  refine MetFree.of_bodySF (plainFor_of_name pn_com_example_libnear_libnear_core_BitArrayGetPinLaw) hisR ?_
  intro p e s m args below meth c s₁ Bd hml0 hP hK
  obtain ⟨rfl, hZ, hh⟩ := hP
  have hx := Bd.exec
  have hby := Bd.bytes
  have hml : c.maxLocals = 17 := hml0
  have hown : s.vm.findClass "com/example/libnear/libnear/core/BitArrayGetPinLaw" = some m.cls := findClass_of_methodNamed Bd.named
  have hnm := (name_of_methodNamed Bd.named Bd.method).1
  have X0 : Stand p l e room_1 s m #[(.int p0), (.int p1), (.int p2), (.int p3)] below meth c s₁ [] 0 0 := Stand.of_body Bd
  have e0 : s₁.heap = h0 := by rw [← hh, Bd.state]; rfl
  have N0 := Fr.nil n0
  have K0 : Keep h0 h0 [] := Keep.refl _ _
  obtain ⟨G, hG⟩ : ∃ z, z = s₁.setTop (entryFrame m #[(.int p0), (.int p1), (.int p2), (.int p3)] maxLocals) := ⟨_, rfl⟩
  have pre0 : Lead p e below G (s₁.setTop (mkF m 0 #[.val (.int p0), .val (.int p1), .val (.int p2), .val (.int p3), .unset, .unset, .unset, .unset, .unset, .unset, .unset, .unset, .unset, .unset, .unset, .unset, .unset] [])) := fun t k => by rw [hG]; exact castTop (ef_0 m p0 p1 p2 p3) k
  have pre1 : Lead p e below G (s₁.setTop (mkF m 20 #[.val (.int p0), .val (.int p1), .val (.int p2), .val (.int p3), .val (.long ((1 : Int64) + ((p0 &&& (1023 : Int32)).toInt64))), .second, .val (.long (((p1 &&& (2147483647 : Int32)).toInt64) - (((p1 &&& (2147483647 : Int32)).toInt64) / ((1 : Int64) + ((p0 &&& (1023 : Int32)).toInt64))) * ((1 : Int64) + ((p0 &&& (1023 : Int32)).toInt64)))), .second, .unset, .unset, .unset, .unset, .unset, .unset, .unset, .unset, .unset] [])) := fun t k => by
    refine pre0 t ?_
    show Steps p.tables e below (s₁.setTop (mkF m 0 #[.val (.int p0), .val (.int p1), .val (.int p2), .val (.int p3), .unset, .unset, .unset, .unset, .unset, .unset, .unset, .unset, .unset, .unset, .unset, .unset, .unset] [])) _
    refine XS.lconst X0.here hx rfl (hb hby at_0) ?_
    show Steps p.tables e below (s₁.setTop (mkF m 1 #[.val (.int p0), .val (.int p1), .val (.int p2), .val (.int p3), .unset, .unset, .unset, .unset, .unset, .unset, .unset, .unset, .unset, .unset, .unset, .unset, .unset] [(.long (1 : Int64))])) _
    refine XS.iloadN X0.here hx rfl (hb hby at_1) rfl ?_
    show Steps p.tables e below (s₁.setTop (mkF m 2 #[.val (.int p0), .val (.int p1), .val (.int p2), .val (.int p3), .unset, .unset, .unset, .unset, .unset, .unset, .unset, .unset, .unset, .unset, .unset, .unset, .unset] [(.int p0), (.long (1 : Int64))])) _
    refine XS.sipush X0.here hx rfl (hb hby at_2) ?_
    show Steps p.tables e below (s₁.setTop (mkF m 5 #[.val (.int p0), .val (.int p1), .val (.int p2), .val (.int p3), .unset, .unset, .unset, .unset, .unset, .unset, .unset, .unset, .unset, .unset, .unset, .unset, .unset] [(.int (1023 : Int32)), (.int p0), (.long (1 : Int64))])) _
    refine XS.iand X0.here hx rfl (hb hby at_5) rfl ?_
    show Steps p.tables e below (s₁.setTop (mkF m 6 #[.val (.int p0), .val (.int p1), .val (.int p2), .val (.int p3), .unset, .unset, .unset, .unset, .unset, .unset, .unset, .unset, .unset, .unset, .unset, .unset, .unset] [(.int (p0 &&& (1023 : Int32))), (.long (1 : Int64))])) _
    refine XS.i2l X0.here hx rfl (hb hby at_6) rfl ?_
    show Steps p.tables e below (s₁.setTop (mkF m 7 #[.val (.int p0), .val (.int p1), .val (.int p2), .val (.int p3), .unset, .unset, .unset, .unset, .unset, .unset, .unset, .unset, .unset, .unset, .unset, .unset, .unset] [(.long ((p0 &&& (1023 : Int32)).toInt64)), (.long (1 : Int64))])) _
    refine XS.ladd X0.here hx rfl (hb hby at_7) rfl ?_
    show Steps p.tables e below (s₁.setTop (mkF m 8 #[.val (.int p0), .val (.int p1), .val (.int p2), .val (.int p3), .unset, .unset, .unset, .unset, .unset, .unset, .unset, .unset, .unset, .unset, .unset, .unset, .unset] [(.long ((1 : Int64) + ((p0 &&& (1023 : Int32)).toInt64)))])) _
    refine XS.lstore X0.here hx rfl (hb hby at_8) rfl (l' := #[.val (.int p0), .val (.int p1), .val (.int p2), .val (.int p3), .val (.long ((1 : Int64) + ((p0 &&& (1023 : Int32)).toInt64))), .second, .unset, .unset, .unset, .unset, .unset, .unset, .unset, .unset, .unset, .unset, .unset]) rfl ?_
    show Steps p.tables e below (s₁.setTop (mkF m 10 #[.val (.int p0), .val (.int p1), .val (.int p2), .val (.int p3), .val (.long ((1 : Int64) + ((p0 &&& (1023 : Int32)).toInt64))), .second, .unset, .unset, .unset, .unset, .unset, .unset, .unset, .unset, .unset, .unset, .unset] [])) _
    refine XS.iloadN X0.here hx rfl (hb hby at_10) rfl ?_
    show Steps p.tables e below (s₁.setTop (mkF m 11 #[.val (.int p0), .val (.int p1), .val (.int p2), .val (.int p3), .val (.long ((1 : Int64) + ((p0 &&& (1023 : Int32)).toInt64))), .second, .unset, .unset, .unset, .unset, .unset, .unset, .unset, .unset, .unset, .unset, .unset] [(.int p1)])) _
    refine X0.ldcInt hx hown (mvT hZ (hw _ (List.mem_of_getElem? (i := 0) rfl))) (g := (mkF m 11 #[.val (.int p0), .val (.int p1), .val (.int p2), .val (.int p3), .val (.long ((1 : Int64) + ((p0 &&& (1023 : Int32)).toInt64))), .second, .unset, .unset, .unset, .unset, .unset, .unset, .unset, .unset, .unset, .unset, .unset] [(.int p1)])) rfl (hb hby at_11) _ ?_
    show Steps p.tables e below (s₁.setTop (mkF m 13 #[.val (.int p0), .val (.int p1), .val (.int p2), .val (.int p3), .val (.long ((1 : Int64) + ((p0 &&& (1023 : Int32)).toInt64))), .second, .unset, .unset, .unset, .unset, .unset, .unset, .unset, .unset, .unset, .unset, .unset] [(.int (2147483647 : Int32)), (.int p1)])) _
    refine XS.iand X0.here hx rfl (hb hby at_13) rfl ?_
    show Steps p.tables e below (s₁.setTop (mkF m 14 #[.val (.int p0), .val (.int p1), .val (.int p2), .val (.int p3), .val (.long ((1 : Int64) + ((p0 &&& (1023 : Int32)).toInt64))), .second, .unset, .unset, .unset, .unset, .unset, .unset, .unset, .unset, .unset, .unset, .unset] [(.int (p1 &&& (2147483647 : Int32)))])) _
    refine XS.i2l X0.here hx rfl (hb hby at_14) rfl ?_
    show Steps p.tables e below (s₁.setTop (mkF m 15 #[.val (.int p0), .val (.int p1), .val (.int p2), .val (.int p3), .val (.long ((1 : Int64) + ((p0 &&& (1023 : Int32)).toInt64))), .second, .unset, .unset, .unset, .unset, .unset, .unset, .unset, .unset, .unset, .unset, .unset] [(.long ((p1 &&& (2147483647 : Int32)).toInt64))])) _
    refine XS.lload X0.here hx rfl (hb hby at_15) rfl ?_
    show Steps p.tables e below (s₁.setTop (mkF m 17 #[.val (.int p0), .val (.int p1), .val (.int p2), .val (.int p3), .val (.long ((1 : Int64) + ((p0 &&& (1023 : Int32)).toInt64))), .second, .unset, .unset, .unset, .unset, .unset, .unset, .unset, .unset, .unset, .unset, .unset] [(.long ((1 : Int64) + ((p0 &&& (1023 : Int32)).toInt64))), (.long ((p1 &&& (2147483647 : Int32)).toInt64))])) _
    refine XS.lrem X0.here hx rfl (hb hby at_17) rfl (own_nz p0) ?_
    show Steps p.tables e below (s₁.setTop (mkF m 18 #[.val (.int p0), .val (.int p1), .val (.int p2), .val (.int p3), .val (.long ((1 : Int64) + ((p0 &&& (1023 : Int32)).toInt64))), .second, .unset, .unset, .unset, .unset, .unset, .unset, .unset, .unset, .unset, .unset, .unset] [(.long (((p1 &&& (2147483647 : Int32)).toInt64) - (((p1 &&& (2147483647 : Int32)).toInt64) / ((1 : Int64) + ((p0 &&& (1023 : Int32)).toInt64))) * ((1 : Int64) + ((p0 &&& (1023 : Int32)).toInt64))))])) _
    refine XS.lstore X0.here hx rfl (hb hby at_18) rfl (l' := #[.val (.int p0), .val (.int p1), .val (.int p2), .val (.int p3), .val (.long ((1 : Int64) + ((p0 &&& (1023 : Int32)).toInt64))), .second, .val (.long (((p1 &&& (2147483647 : Int32)).toInt64) - (((p1 &&& (2147483647 : Int32)).toInt64) / ((1 : Int64) + ((p0 &&& (1023 : Int32)).toInt64))) * ((1 : Int64) + ((p0 &&& (1023 : Int32)).toInt64)))), .second, .unset, .unset, .unset, .unset, .unset, .unset, .unset, .unset, .unset]) rfl ?_
    show Steps p.tables e below (s₁.setTop (mkF m 20 #[.val (.int p0), .val (.int p1), .val (.int p2), .val (.int p3), .val (.long ((1 : Int64) + ((p0 &&& (1023 : Int32)).toInt64))), .second, .val (.long (((p1 &&& (2147483647 : Int32)).toInt64) - (((p1 &&& (2147483647 : Int32)).toInt64) / ((1 : Int64) + ((p0 &&& (1023 : Int32)).toInt64))) * ((1 : Int64) + ((p0 &&& (1023 : Int32)).toInt64)))), .second, .unset, .unset, .unset, .unset, .unset, .unset, .unset, .unset, .unset] [])) _
    exact k
  obtain ⟨v2, hv2⟩ : ∃ z : Int64, z = (((p1 &&& (2147483647 : Int32)).toInt64) - (((p1 &&& (2147483647 : Int32)).toInt64) / ((1 : Int64) + ((p0 &&& (1023 : Int32)).toInt64))) * ((1 : Int64) + ((p0 &&& (1023 : Int32)).toInt64))) := ⟨_, rfl⟩
  have pre2 : Lead p e below G (s₁.setTop (mkF m 20 #[.val (.int p0), .val (.int p1), .val (.int p2), .val (.int p3), .val (.long ((1 : Int64) + ((p0 &&& (1023 : Int32)).toInt64))), .second, .val (.long v2), .second, .unset, .unset, .unset, .unset, .unset, .unset, .unset, .unset, .unset] [])) := by rw [hv2]; exact pre1
  have pre3 : Lead p e below G (s₁.setTop (mkF m 30 #[.val (.int p0), .val (.int p1), .val (.int p2), .val (.int p3), .val (.long ((1 : Int64) + ((p0 &&& (1023 : Int32)).toInt64))), .second, .val (.long v2), .second, .val (.long (((p2 &&& (2147483647 : Int32)).toInt64) - (((p2 &&& (2147483647 : Int32)).toInt64) / ((1 : Int64) + ((p0 &&& (1023 : Int32)).toInt64))) * ((1 : Int64) + ((p0 &&& (1023 : Int32)).toInt64)))), .second, .unset, .unset, .unset, .unset, .unset, .unset, .unset] [])) := fun t k => by
    refine pre2 t ?_
    show Steps p.tables e below (s₁.setTop (mkF m 20 #[.val (.int p0), .val (.int p1), .val (.int p2), .val (.int p3), .val (.long ((1 : Int64) + ((p0 &&& (1023 : Int32)).toInt64))), .second, .val (.long v2), .second, .unset, .unset, .unset, .unset, .unset, .unset, .unset, .unset, .unset] [])) _
    refine XS.iloadN X0.here hx rfl (hb hby at_20) rfl ?_
    show Steps p.tables e below (s₁.setTop (mkF m 21 #[.val (.int p0), .val (.int p1), .val (.int p2), .val (.int p3), .val (.long ((1 : Int64) + ((p0 &&& (1023 : Int32)).toInt64))), .second, .val (.long v2), .second, .unset, .unset, .unset, .unset, .unset, .unset, .unset, .unset, .unset] [(.int p2)])) _
    refine X0.ldcInt hx hown (mvT hZ (hw _ (List.mem_of_getElem? (i := 0) rfl))) (g := (mkF m 21 #[.val (.int p0), .val (.int p1), .val (.int p2), .val (.int p3), .val (.long ((1 : Int64) + ((p0 &&& (1023 : Int32)).toInt64))), .second, .val (.long v2), .second, .unset, .unset, .unset, .unset, .unset, .unset, .unset, .unset, .unset] [(.int p2)])) rfl (hb hby at_21) _ ?_
    show Steps p.tables e below (s₁.setTop (mkF m 23 #[.val (.int p0), .val (.int p1), .val (.int p2), .val (.int p3), .val (.long ((1 : Int64) + ((p0 &&& (1023 : Int32)).toInt64))), .second, .val (.long v2), .second, .unset, .unset, .unset, .unset, .unset, .unset, .unset, .unset, .unset] [(.int (2147483647 : Int32)), (.int p2)])) _
    refine XS.iand X0.here hx rfl (hb hby at_23) rfl ?_
    show Steps p.tables e below (s₁.setTop (mkF m 24 #[.val (.int p0), .val (.int p1), .val (.int p2), .val (.int p3), .val (.long ((1 : Int64) + ((p0 &&& (1023 : Int32)).toInt64))), .second, .val (.long v2), .second, .unset, .unset, .unset, .unset, .unset, .unset, .unset, .unset, .unset] [(.int (p2 &&& (2147483647 : Int32)))])) _
    refine XS.i2l X0.here hx rfl (hb hby at_24) rfl ?_
    show Steps p.tables e below (s₁.setTop (mkF m 25 #[.val (.int p0), .val (.int p1), .val (.int p2), .val (.int p3), .val (.long ((1 : Int64) + ((p0 &&& (1023 : Int32)).toInt64))), .second, .val (.long v2), .second, .unset, .unset, .unset, .unset, .unset, .unset, .unset, .unset, .unset] [(.long ((p2 &&& (2147483647 : Int32)).toInt64))])) _
    refine XS.lload X0.here hx rfl (hb hby at_25) rfl ?_
    show Steps p.tables e below (s₁.setTop (mkF m 27 #[.val (.int p0), .val (.int p1), .val (.int p2), .val (.int p3), .val (.long ((1 : Int64) + ((p0 &&& (1023 : Int32)).toInt64))), .second, .val (.long v2), .second, .unset, .unset, .unset, .unset, .unset, .unset, .unset, .unset, .unset] [(.long ((1 : Int64) + ((p0 &&& (1023 : Int32)).toInt64))), (.long ((p2 &&& (2147483647 : Int32)).toInt64))])) _
    refine XS.lrem X0.here hx rfl (hb hby at_27) rfl (own_nz p0) ?_
    show Steps p.tables e below (s₁.setTop (mkF m 28 #[.val (.int p0), .val (.int p1), .val (.int p2), .val (.int p3), .val (.long ((1 : Int64) + ((p0 &&& (1023 : Int32)).toInt64))), .second, .val (.long v2), .second, .unset, .unset, .unset, .unset, .unset, .unset, .unset, .unset, .unset] [(.long (((p2 &&& (2147483647 : Int32)).toInt64) - (((p2 &&& (2147483647 : Int32)).toInt64) / ((1 : Int64) + ((p0 &&& (1023 : Int32)).toInt64))) * ((1 : Int64) + ((p0 &&& (1023 : Int32)).toInt64))))])) _
    refine XS.lstore X0.here hx rfl (hb hby at_28) rfl (l' := #[.val (.int p0), .val (.int p1), .val (.int p2), .val (.int p3), .val (.long ((1 : Int64) + ((p0 &&& (1023 : Int32)).toInt64))), .second, .val (.long v2), .second, .val (.long (((p2 &&& (2147483647 : Int32)).toInt64) - (((p2 &&& (2147483647 : Int32)).toInt64) / ((1 : Int64) + ((p0 &&& (1023 : Int32)).toInt64))) * ((1 : Int64) + ((p0 &&& (1023 : Int32)).toInt64)))), .second, .unset, .unset, .unset, .unset, .unset, .unset, .unset]) rfl ?_
    show Steps p.tables e below (s₁.setTop (mkF m 30 #[.val (.int p0), .val (.int p1), .val (.int p2), .val (.int p3), .val (.long ((1 : Int64) + ((p0 &&& (1023 : Int32)).toInt64))), .second, .val (.long v2), .second, .val (.long (((p2 &&& (2147483647 : Int32)).toInt64) - (((p2 &&& (2147483647 : Int32)).toInt64) / ((1 : Int64) + ((p0 &&& (1023 : Int32)).toInt64))) * ((1 : Int64) + ((p0 &&& (1023 : Int32)).toInt64)))), .second, .unset, .unset, .unset, .unset, .unset, .unset, .unset] [])) _
    exact k
  obtain ⟨v4, hv4⟩ : ∃ z : Int64, z = (((p2 &&& (2147483647 : Int32)).toInt64) - (((p2 &&& (2147483647 : Int32)).toInt64) / ((1 : Int64) + ((p0 &&& (1023 : Int32)).toInt64))) * ((1 : Int64) + ((p0 &&& (1023 : Int32)).toInt64))) := ⟨_, rfl⟩
  have pre4 : Lead p e below G (s₁.setTop (mkF m 30 #[.val (.int p0), .val (.int p1), .val (.int p2), .val (.int p3), .val (.long ((1 : Int64) + ((p0 &&& (1023 : Int32)).toInt64))), .second, .val (.long v2), .second, .val (.long v4), .second, .unset, .unset, .unset, .unset, .unset, .unset, .unset] [])) := by rw [hv4]; exact pre3
  have pre5 : Lead p e below G (s₁.setTop (mkF m 40 #[.val (.int p0), .val (.int p1), .val (.int p2), .val (.int p3), .val (.long ((1 : Int64) + ((p0 &&& (1023 : Int32)).toInt64))), .second, .val (.long v2), .second, .val (.long v4), .second, .val (.long (((p3 &&& (2147483647 : Int32)).toInt64) - (((p3 &&& (2147483647 : Int32)).toInt64) / ((1 : Int64) + ((p0 &&& (1023 : Int32)).toInt64))) * ((1 : Int64) + ((p0 &&& (1023 : Int32)).toInt64)))), .second, .unset, .unset, .unset, .unset, .unset] [])) := fun t k => by
    refine pre4 t ?_
    show Steps p.tables e below (s₁.setTop (mkF m 30 #[.val (.int p0), .val (.int p1), .val (.int p2), .val (.int p3), .val (.long ((1 : Int64) + ((p0 &&& (1023 : Int32)).toInt64))), .second, .val (.long v2), .second, .val (.long v4), .second, .unset, .unset, .unset, .unset, .unset, .unset, .unset] [])) _
    refine XS.iloadN X0.here hx rfl (hb hby at_30) rfl ?_
    show Steps p.tables e below (s₁.setTop (mkF m 31 #[.val (.int p0), .val (.int p1), .val (.int p2), .val (.int p3), .val (.long ((1 : Int64) + ((p0 &&& (1023 : Int32)).toInt64))), .second, .val (.long v2), .second, .val (.long v4), .second, .unset, .unset, .unset, .unset, .unset, .unset, .unset] [(.int p3)])) _
    refine X0.ldcInt hx hown (mvT hZ (hw _ (List.mem_of_getElem? (i := 0) rfl))) (g := (mkF m 31 #[.val (.int p0), .val (.int p1), .val (.int p2), .val (.int p3), .val (.long ((1 : Int64) + ((p0 &&& (1023 : Int32)).toInt64))), .second, .val (.long v2), .second, .val (.long v4), .second, .unset, .unset, .unset, .unset, .unset, .unset, .unset] [(.int p3)])) rfl (hb hby at_31) _ ?_
    show Steps p.tables e below (s₁.setTop (mkF m 33 #[.val (.int p0), .val (.int p1), .val (.int p2), .val (.int p3), .val (.long ((1 : Int64) + ((p0 &&& (1023 : Int32)).toInt64))), .second, .val (.long v2), .second, .val (.long v4), .second, .unset, .unset, .unset, .unset, .unset, .unset, .unset] [(.int (2147483647 : Int32)), (.int p3)])) _
    refine XS.iand X0.here hx rfl (hb hby at_33) rfl ?_
    show Steps p.tables e below (s₁.setTop (mkF m 34 #[.val (.int p0), .val (.int p1), .val (.int p2), .val (.int p3), .val (.long ((1 : Int64) + ((p0 &&& (1023 : Int32)).toInt64))), .second, .val (.long v2), .second, .val (.long v4), .second, .unset, .unset, .unset, .unset, .unset, .unset, .unset] [(.int (p3 &&& (2147483647 : Int32)))])) _
    refine XS.i2l X0.here hx rfl (hb hby at_34) rfl ?_
    show Steps p.tables e below (s₁.setTop (mkF m 35 #[.val (.int p0), .val (.int p1), .val (.int p2), .val (.int p3), .val (.long ((1 : Int64) + ((p0 &&& (1023 : Int32)).toInt64))), .second, .val (.long v2), .second, .val (.long v4), .second, .unset, .unset, .unset, .unset, .unset, .unset, .unset] [(.long ((p3 &&& (2147483647 : Int32)).toInt64))])) _
    refine XS.lload X0.here hx rfl (hb hby at_35) rfl ?_
    show Steps p.tables e below (s₁.setTop (mkF m 37 #[.val (.int p0), .val (.int p1), .val (.int p2), .val (.int p3), .val (.long ((1 : Int64) + ((p0 &&& (1023 : Int32)).toInt64))), .second, .val (.long v2), .second, .val (.long v4), .second, .unset, .unset, .unset, .unset, .unset, .unset, .unset] [(.long ((1 : Int64) + ((p0 &&& (1023 : Int32)).toInt64))), (.long ((p3 &&& (2147483647 : Int32)).toInt64))])) _
    refine XS.lrem X0.here hx rfl (hb hby at_37) rfl (own_nz p0) ?_
    show Steps p.tables e below (s₁.setTop (mkF m 38 #[.val (.int p0), .val (.int p1), .val (.int p2), .val (.int p3), .val (.long ((1 : Int64) + ((p0 &&& (1023 : Int32)).toInt64))), .second, .val (.long v2), .second, .val (.long v4), .second, .unset, .unset, .unset, .unset, .unset, .unset, .unset] [(.long (((p3 &&& (2147483647 : Int32)).toInt64) - (((p3 &&& (2147483647 : Int32)).toInt64) / ((1 : Int64) + ((p0 &&& (1023 : Int32)).toInt64))) * ((1 : Int64) + ((p0 &&& (1023 : Int32)).toInt64))))])) _
    refine XS.lstore X0.here hx rfl (hb hby at_38) rfl (l' := #[.val (.int p0), .val (.int p1), .val (.int p2), .val (.int p3), .val (.long ((1 : Int64) + ((p0 &&& (1023 : Int32)).toInt64))), .second, .val (.long v2), .second, .val (.long v4), .second, .val (.long (((p3 &&& (2147483647 : Int32)).toInt64) - (((p3 &&& (2147483647 : Int32)).toInt64) / ((1 : Int64) + ((p0 &&& (1023 : Int32)).toInt64))) * ((1 : Int64) + ((p0 &&& (1023 : Int32)).toInt64)))), .second, .unset, .unset, .unset, .unset, .unset]) rfl ?_
    show Steps p.tables e below (s₁.setTop (mkF m 40 #[.val (.int p0), .val (.int p1), .val (.int p2), .val (.int p3), .val (.long ((1 : Int64) + ((p0 &&& (1023 : Int32)).toInt64))), .second, .val (.long v2), .second, .val (.long v4), .second, .val (.long (((p3 &&& (2147483647 : Int32)).toInt64) - (((p3 &&& (2147483647 : Int32)).toInt64) / ((1 : Int64) + ((p0 &&& (1023 : Int32)).toInt64))) * ((1 : Int64) + ((p0 &&& (1023 : Int32)).toInt64)))), .second, .unset, .unset, .unset, .unset, .unset] [])) _
    exact k
  obtain ⟨v6, hv6⟩ : ∃ z : Int64, z = (((p3 &&& (2147483647 : Int32)).toInt64) - (((p3 &&& (2147483647 : Int32)).toInt64) / ((1 : Int64) + ((p0 &&& (1023 : Int32)).toInt64))) * ((1 : Int64) + ((p0 &&& (1023 : Int32)).toInt64))) := ⟨_, rfl⟩
  have pre6 : Lead p e below G (s₁.setTop (mkF m 40 #[.val (.int p0), .val (.int p1), .val (.int p2), .val (.int p3), .val (.long ((1 : Int64) + ((p0 &&& (1023 : Int32)).toInt64))), .second, .val (.long v2), .second, .val (.long v4), .second, .val (.long v6), .second, .unset, .unset, .unset, .unset, .unset] [])) := by rw [hv6]; exact pre5
  obtain ⟨v7, hv7⟩ : ∃ z : Int64, z = ((1 : Int64) + ((p0 &&& (1023 : Int32)).toInt64)) := ⟨_, rfl⟩
  have pre7 : Lead p e below G (s₁.setTop (mkF m 40 #[.val (.int p0), .val (.int p1), .val (.int p2), .val (.int p3), .val (.long v7), .second, .val (.long v2), .second, .val (.long v4), .second, .val (.long v6), .second, .unset, .unset, .unset, .unset, .unset] [])) := by rw [hv7]; exact pre6
  obtain ⟨T8, h8, X8, e8, E8, A8, D8, -, st8⟩ := newO X0 hx hZ hown (hw _ (List.mem_of_getElem? (i := 1) rfl)) (hw _ (List.mem_of_getElem? (i := 2) rfl)) (hw _ (List.mem_of_getElem? (i := 3) rfl)) e0 (g := (mkF m 40 #[.val (.int p0), .val (.int p1), .val (.int p2), .val (.int p3), .val (.long v7), .second, .val (.long v2), .second, .val (.long v4), .second, .val (.long v6), .second, .unset, .unset, .unset, .unset, .unset] [])) rfl (hb hby at_40) (by decide) (by decide)
  obtain ⟨b8, g8⟩ : ∃ z, z = h0.size := ⟨_, rfl⟩
  rw [← g8] at A8 D8 st8
  have sz8 : h0.size ≤ b8 := Nat.le_trans K0.1 (Nat.le_of_eq g8.symm)
  have ge8 : n0 ≤ b8 := Nat.le_trans Z0 sz8
  have K8 : Keep h0 h8 [] := K0.ext E8
  have F8_size : Fld Z h8 b8 "com/example/libnear/libnear/core/BitArray" "size" "J" (.long (0 : Int64)) := D8 (Or.inr (hw _ (List.mem_of_getElem? (i := 19) rfl))) (ty := .long) (by decide)
  have F8_words : Fld Z h8 b8 "com/example/libnear/libnear/core/BitArray" "words" "[J" .null := D8 (Or.inr (hw _ (List.mem_of_getElem? (i := 21) rfl))) (ty := (.array .long)) (by decide)
  have pre8 : Lead p e below G (T8.setTop (mkF m 43 #[.val (.int p0), .val (.int p1), .val (.int p2), .val (.int p3), .val (.long v7), .second, .val (.long v2), .second, .val (.long v4), .second, .val (.long v6), .second, .unset, .unset, .unset, .unset, .unset] [(.ref b8)])) := fun t k => pre7 t (st8 _ k)
  have pre9 : Lead p e below G (T8.setTop (mkF m 46 #[.val (.int p0), .val (.int p1), .val (.int p2), .val (.int p3), .val (.long v7), .second, .val (.long v2), .second, .val (.long v4), .second, .val (.long v6), .second, .unset, .unset, .unset, .unset, .unset] [(.long v7), (.ref b8), (.ref b8)])) := fun t k => by
    refine pre8 t ?_
    show Steps p.tables e below (T8.setTop (mkF m 43 #[.val (.int p0), .val (.int p1), .val (.int p2), .val (.int p3), .val (.long v7), .second, .val (.long v2), .second, .val (.long v4), .second, .val (.long v6), .second, .unset, .unset, .unset, .unset, .unset] [(.ref b8)])) _
    refine XS.dup X8.here hx rfl (hb hby at_43) rfl rfl ?_
    show Steps p.tables e below (T8.setTop (mkF m 44 #[.val (.int p0), .val (.int p1), .val (.int p2), .val (.int p3), .val (.long v7), .second, .val (.long v2), .second, .val (.long v4), .second, .val (.long v6), .second, .unset, .unset, .unset, .unset, .unset] [(.ref b8), (.ref b8)])) _
    refine XS.lload X8.here hx rfl (hb hby at_44) rfl ?_
    show Steps p.tables e below (T8.setTop (mkF m 46 #[.val (.int p0), .val (.int p1), .val (.int p2), .val (.int p3), .val (.long v7), .second, .val (.long v2), .second, .val (.long v4), .second, .val (.long v6), .second, .unset, .unset, .unset, .unset, .unset] [(.long v7), (.ref b8), (.ref b8)])) _
    exact k
  obtain ⟨_, _, ⟨T10, L10, k10, n10⟩, -, X10, ⟨Lc10, hQ10, l10, y10, z10⟩, st10⟩ := X8.specialBack hx (y := (⟨"com/example/libnear/libnear/core/BitArray", "<init>", "(J)V"⟩ : MethodName)) rfl hown (mvT hZ (hw _ (List.mem_of_getElem? (i := 4) rfl))) (mvT hZ (hw _ (List.mem_of_getElem? (i := 5) rfl))) (mvT hZ (hw _ (List.mem_of_getElem? (i := 6) rfl))) (by decide) (backOf (W := 1) (rm1 l Z a0 hw [] b8 v7  h8 n0 (Nat.le_trans Z0 K8.1) A8 ge8 F8_size F8_words (show ¬ F2 v7 < 0 from (by subst hv7 hv6 hv4 hv2; exact (own_words p0).1)) (show (F2 v7).toNatClampNeg ≤ 32 from (by subst hv7 hv6 hv4 hv2; exact (own_words p0).2))) hZ (hw _ (List.mem_of_getElem? (i := 6) rfl)) (hw _ (List.mem_of_getElem? (i := 3) rfl)) (by decide) (by decide)) (g := (mkF m 46 #[.val (.int p0), .val (.int p1), .val (.int p2), .val (.int p3), .val (.long v7), .second, .val (.long v2), .second, .val (.long v4), .second, .val (.long v6), .second, .unset, .unset, .unset, .unset, .unset] [(.long v7), (.ref b8), (.ref b8)])) rfl (by rw [hml]; rfl) (Steps.refl _) (a := b8) (argsL := [(.long v7)]) (rest := [(.ref b8)]) (lenOf pd__28_J_29_V rfl) rfl (by show 2 * 0 + _ ≤ _; exact Nat.le_of_eq rfl) (hb hby at_46) (fun _ _ => ⟨rfl, e8, (by decide : 1 + 1 ≤ _), (by decide : 2 + 32 ≤ _)⟩)
  dsimp only [Pt.U, Pt.locs, Pt.cells, Pt.slots] at X10 l10 y10 z10 st10 hQ10
  subst l10 y10 z10
  obtain ⟨wb_10, rfl, N10q, K10c, c10_0, c10_1, c10_2, c10_3⟩ := hQ10
  have N10 := Fr.app N0 N10q
  have ne10_b8_wb_10 : b8 ≠ wb_10 := Nat.ne_of_lt (Nat.lt_of_lt_of_le A8.lt c10_2)
  have szwb_10 : h0.size ≤ wb_10 := Nat.le_trans K8.1 c10_2
  have gewb_10 : n0 ≤ wb_10 := Nat.le_trans Z0 szwb_10
  have K10 : Keep h0 T10.heap [] := K8.trans K10c (allS (Or.inr sz8) all0)
  have pre10 : Lead p e below G (T10.setTop (mkF m 49 #[.val (.int p0), .val (.int p1), .val (.int p2), .val (.int p3), .val (.long v7), .second, .val (.long v2), .second, .val (.long v4), .second, .val (.long v6), .second, .unset, .unset, .unset, .unset, .unset] [(.ref b8)])) := fun t k => pre9 t (st10.trans k)
  have pre11 : Lead p e below G (T10.setTop (mkF m 55 #[.val (.int p0), .val (.int p1), .val (.int p2), .val (.int p3), .val (.long v7), .second, .val (.long v2), .second, .val (.long v4), .second, .val (.long v6), .second, .val (.ref b8), .unset, .unset, .unset, .unset] [(.long v6), (.ref b8)])) := fun t k => by
    refine pre10 t ?_
    show Steps p.tables e below (T10.setTop (mkF m 49 #[.val (.int p0), .val (.int p1), .val (.int p2), .val (.int p3), .val (.long v7), .second, .val (.long v2), .second, .val (.long v4), .second, .val (.long v6), .second, .unset, .unset, .unset, .unset, .unset] [(.ref b8)])) _
    refine XS.astore X10.here hx rfl (hb hby at_49) rfl rfl (l' := #[.val (.int p0), .val (.int p1), .val (.int p2), .val (.int p3), .val (.long v7), .second, .val (.long v2), .second, .val (.long v4), .second, .val (.long v6), .second, .val (.ref b8), .unset, .unset, .unset, .unset]) rfl ?_
    show Steps p.tables e below (T10.setTop (mkF m 51 #[.val (.int p0), .val (.int p1), .val (.int p2), .val (.int p3), .val (.long v7), .second, .val (.long v2), .second, .val (.long v4), .second, .val (.long v6), .second, .val (.ref b8), .unset, .unset, .unset, .unset] [])) _
    refine XS.aload X10.here hx rfl (hb hby at_51) rfl rfl ?_
    show Steps p.tables e below (T10.setTop (mkF m 53 #[.val (.int p0), .val (.int p1), .val (.int p2), .val (.int p3), .val (.long v7), .second, .val (.long v2), .second, .val (.long v4), .second, .val (.long v6), .second, .val (.ref b8), .unset, .unset, .unset, .unset] [(.ref b8)])) _
    refine XS.lload X10.here hx rfl (hb hby at_53) rfl ?_
    show Steps p.tables e below (T10.setTop (mkF m 55 #[.val (.int p0), .val (.int p1), .val (.int p2), .val (.int p3), .val (.long v7), .second, .val (.long v2), .second, .val (.long v4), .second, .val (.long v6), .second, .val (.ref b8), .unset, .unset, .unset, .unset] [(.long v6), (.ref b8)])) _
    exact k
  obtain ⟨cq12, kq12, q12a, q12b, q12c⟩ := isOf hZ rfl c10_0
  obtain ⟨_, _, ⟨T12, L12, k12, n12⟩, -, X12, ⟨Lc12, hQ12, l12, y12, z12⟩, st12⟩ := X10.virtualBack hx (y := (⟨"com/example/libnear/libnear/core/BitArray", "get", "(J)Z"⟩ : MethodName)) (z := (⟨"com/example/libnear/libnear/core/BitArray", "get", "(J)Z"⟩ : MethodName)) hown (mvT hZ (hw _ (List.mem_of_getElem? (i := 22) rfl))) (mvT hZ (hw _ (List.mem_of_getElem? (i := 23) rfl))) (notFace_of_selects (args := #[]) (mvT hZ (hw _ (List.mem_of_getElem? (i := 25) rfl)))) (mvT hZ (hw _ (List.mem_of_getElem? (i := 25) rfl))) (mvT hZ (hw _ (List.mem_of_getElem? (i := 24) rfl))) (by decide) (backOf (W := 0) (rm5 l Z a0 hw [] b8 v6 wb_10 (F2 v7) (fun _ => (0 : Int64)) T10.heap n0 (Nat.le_trans Z0 K10.1) c10_1 c10_3 (show ¬ (v6 / (64 : Int64)).toInt32 < 0 ∧ (v6 / (64 : Int64)).toInt32 < (F2 v7) from (by subst hv7 hv6 hv4 hv2; exact (own_ix p0 p3)))) hZ (hw _ (List.mem_of_getElem? (i := 26) rfl)) (hw _ (List.mem_of_getElem? (i := 3) rfl)) (by decide) (by decide)) q12a q12c (g := (mkF m 55 #[.val (.int p0), .val (.int p1), .val (.int p2), .val (.int p3), .val (.long v7), .second, .val (.long v2), .second, .val (.long v4), .second, .val (.long v6), .second, .val (.ref b8), .unset, .unset, .unset, .unset] [(.long v6), (.ref b8)])) rfl (by rw [hml]; rfl) (Steps.refl _) (argsL := [(.long v6)]) (rest := []) (lenOf pd__28_J_29_Z rfl) rfl (by show 2 * 0 + _ ≤ _; exact Nat.le_of_eq rfl) (hb hby at_55) (fun _ _ => ⟨rfl, rfl, (by decide : 2 + 0 ≤ _), (by decide : 34 + 0 ≤ _)⟩)
  dsimp only [Pt.U, Pt.locs, Pt.cells, Pt.slots] at X12 l12 y12 z12 st12 hQ12
  subst l12 y12 z12
  obtain ⟨rfl, N12q, e12⟩ := hQ12
  have N12 := Fr.app N10 N12q
  have pre12 : Lead p e below G (T12.setTop (mkF m 58 #[.val (.int p0), .val (.int p1), .val (.int p2), .val (.int p3), .val (.long v7), .second, .val (.long v2), .second, .val (.long v4), .second, .val (.long v6), .second, .val (.ref b8), .unset, .unset, .unset, .unset] [(.int (F5 v6 (fun _ => (0 : Int64))))])) := fun t k => pre11 t (st12.trans k)
  have pre13 : Lead p e below G (T12.setTop (mkF m 64 #[.val (.int p0), .val (.int p1), .val (.int p2), .val (.int p3), .val (.long v7), .second, .val (.long v2), .second, .val (.long v4), .second, .val (.long v6), .second, .val (.ref b8), .val (.int (F5 v6 (fun _ => (0 : Int64)))), .unset, .unset, .unset] [(.long v2), (.ref b8)])) := fun t k => by
    refine pre12 t ?_
    show Steps p.tables e below (T12.setTop (mkF m 58 #[.val (.int p0), .val (.int p1), .val (.int p2), .val (.int p3), .val (.long v7), .second, .val (.long v2), .second, .val (.long v4), .second, .val (.long v6), .second, .val (.ref b8), .unset, .unset, .unset, .unset] [(.int (F5 v6 (fun _ => (0 : Int64))))])) _
    refine XS.istore X12.here hx rfl (hb hby at_58) rfl (l' := #[.val (.int p0), .val (.int p1), .val (.int p2), .val (.int p3), .val (.long v7), .second, .val (.long v2), .second, .val (.long v4), .second, .val (.long v6), .second, .val (.ref b8), .val (.int (F5 v6 (fun _ => (0 : Int64)))), .unset, .unset, .unset]) rfl ?_
    show Steps p.tables e below (T12.setTop (mkF m 60 #[.val (.int p0), .val (.int p1), .val (.int p2), .val (.int p3), .val (.long v7), .second, .val (.long v2), .second, .val (.long v4), .second, .val (.long v6), .second, .val (.ref b8), .val (.int (F5 v6 (fun _ => (0 : Int64)))), .unset, .unset, .unset] [])) _
    refine XS.aload X12.here hx rfl (hb hby at_60) rfl rfl ?_
    show Steps p.tables e below (T12.setTop (mkF m 62 #[.val (.int p0), .val (.int p1), .val (.int p2), .val (.int p3), .val (.long v7), .second, .val (.long v2), .second, .val (.long v4), .second, .val (.long v6), .second, .val (.ref b8), .val (.int (F5 v6 (fun _ => (0 : Int64)))), .unset, .unset, .unset] [(.ref b8)])) _
    refine XS.lload X12.here hx rfl (hb hby at_62) rfl ?_
    show Steps p.tables e below (T12.setTop (mkF m 64 #[.val (.int p0), .val (.int p1), .val (.int p2), .val (.int p3), .val (.long v7), .second, .val (.long v2), .second, .val (.long v4), .second, .val (.long v6), .second, .val (.ref b8), .val (.int (F5 v6 (fun _ => (0 : Int64)))), .unset, .unset, .unset] [(.long v2), (.ref b8)])) _
    exact k
  obtain ⟨cq14, kq14, q14a, q14b, q14c⟩ := isOf hZ e12 c10_0
  obtain ⟨_, _, ⟨T14, L14, k14, n14⟩, -, X14, ⟨Lc14, hQ14, l14, y14, z14⟩, st14⟩ := X12.virtualBack hx (y := (⟨"com/example/libnear/libnear/core/BitArray", "set", "(J)V"⟩ : MethodName)) (z := (⟨"com/example/libnear/libnear/core/BitArray", "set", "(J)V"⟩ : MethodName)) hown (mvT hZ (hw _ (List.mem_of_getElem? (i := 27) rfl))) (mvT hZ (hw _ (List.mem_of_getElem? (i := 28) rfl))) (notFace_of_selects (args := #[]) (mvT hZ (hw _ (List.mem_of_getElem? (i := 30) rfl)))) (mvT hZ (hw _ (List.mem_of_getElem? (i := 30) rfl))) (mvT hZ (hw _ (List.mem_of_getElem? (i := 29) rfl))) (by decide) (backOf (W := 0) (rm6 l Z a0 hw [] b8 v2 wb_10 (F2 v7) (fun _ => (0 : Int64)) T10.heap n0 (Nat.le_trans Z0 K10.1) c10_1 c10_3 (show ¬ (v2 / (64 : Int64)).toInt32 < 0 ∧ (v2 / (64 : Int64)).toInt32 < (F2 v7) from (by subst hv7 hv6 hv4 hv2; exact (own_ix p0 p1))) gewb_10) hZ (hw _ (List.mem_of_getElem? (i := 31) rfl)) (hw _ (List.mem_of_getElem? (i := 3) rfl)) (by decide) (by decide)) q14a q14c (g := (mkF m 64 #[.val (.int p0), .val (.int p1), .val (.int p2), .val (.int p3), .val (.long v7), .second, .val (.long v2), .second, .val (.long v4), .second, .val (.long v6), .second, .val (.ref b8), .val (.int (F5 v6 (fun _ => (0 : Int64)))), .unset, .unset, .unset] [(.long v2), (.ref b8)])) rfl (by rw [hml]; rfl) (Steps.refl _) (argsL := [(.long v2)]) (rest := []) (lenOf pd__28_J_29_V rfl) rfl (by show 2 * 0 + _ ≤ _; exact Nat.le_of_eq rfl) (hb hby at_64) (fun _ _ => ⟨rfl, e12, (by decide : 2 + 0 ≤ _), (by decide : 34 + 0 ≤ _)⟩)
  dsimp only [Pt.U, Pt.locs, Pt.cells, Pt.slots] at X14 l14 y14 z14 st14 hQ14
  subst l14 y14 z14
  obtain ⟨rfl, N14q, K14c, c14_0⟩ := hQ14
  have N14 := Fr.app N12 N14q
  have K14 : Keep h0 T14.heap [] := K10.trans K14c (allS (Or.inr szwb_10) all0)
  have pre14 : Lead p e below G (T14.setTop (mkF m 67 #[.val (.int p0), .val (.int p1), .val (.int p2), .val (.int p3), .val (.long v7), .second, .val (.long v2), .second, .val (.long v4), .second, .val (.long v6), .second, .val (.ref b8), .val (.int (F5 v6 (fun _ => (0 : Int64)))), .unset, .unset, .unset] [])) := fun t k => pre13 t (st14.trans k)
  have pre15 : Lead p e below G (T14.setTop (mkF m 71 #[.val (.int p0), .val (.int p1), .val (.int p2), .val (.int p3), .val (.long v7), .second, .val (.long v2), .second, .val (.long v4), .second, .val (.long v6), .second, .val (.ref b8), .val (.int (F5 v6 (fun _ => (0 : Int64)))), .unset, .unset, .unset] [(.long v4), (.ref b8)])) := fun t k => by
    refine pre14 t ?_
    show Steps p.tables e below (T14.setTop (mkF m 67 #[.val (.int p0), .val (.int p1), .val (.int p2), .val (.int p3), .val (.long v7), .second, .val (.long v2), .second, .val (.long v4), .second, .val (.long v6), .second, .val (.ref b8), .val (.int (F5 v6 (fun _ => (0 : Int64)))), .unset, .unset, .unset] [])) _
    refine XS.aload X14.here hx rfl (hb hby at_67) rfl rfl ?_
    show Steps p.tables e below (T14.setTop (mkF m 69 #[.val (.int p0), .val (.int p1), .val (.int p2), .val (.int p3), .val (.long v7), .second, .val (.long v2), .second, .val (.long v4), .second, .val (.long v6), .second, .val (.ref b8), .val (.int (F5 v6 (fun _ => (0 : Int64)))), .unset, .unset, .unset] [(.ref b8)])) _
    refine XS.lload X14.here hx rfl (hb hby at_69) rfl ?_
    show Steps p.tables e below (T14.setTop (mkF m 71 #[.val (.int p0), .val (.int p1), .val (.int p2), .val (.int p3), .val (.long v7), .second, .val (.long v2), .second, .val (.long v4), .second, .val (.long v6), .second, .val (.ref b8), .val (.int (F5 v6 (fun _ => (0 : Int64)))), .unset, .unset, .unset] [(.long v4), (.ref b8)])) _
    exact k
  have f17 : Fld Z T14.heap b8 "com/example/libnear/libnear/core/BitArray" "words" "[J" (.ref wb_10) := (c10_1.keep K14c (ninS ne10_b8_wb_10 nin0))
  have f18 : Exa Z T14.heap b8 "com/example/libnear/libnear/core/BitArray" := (c10_0.keep K14c)
  obtain ⟨cq16, kq16, q16a, q16b, q16c⟩ := isOf hZ rfl f18
  obtain ⟨_, _, ⟨T16, L16, k16, n16⟩, -, X16, ⟨Lc16, hQ16, l16, y16, z16⟩, st16⟩ := X14.virtualBack hx (y := (⟨"com/example/libnear/libnear/core/BitArray", "set", "(J)V"⟩ : MethodName)) (z := (⟨"com/example/libnear/libnear/core/BitArray", "set", "(J)V"⟩ : MethodName)) hown (mvT hZ (hw _ (List.mem_of_getElem? (i := 27) rfl))) (mvT hZ (hw _ (List.mem_of_getElem? (i := 28) rfl))) (notFace_of_selects (args := #[]) (mvT hZ (hw _ (List.mem_of_getElem? (i := 30) rfl)))) (mvT hZ (hw _ (List.mem_of_getElem? (i := 30) rfl))) (mvT hZ (hw _ (List.mem_of_getElem? (i := 29) rfl))) (by decide) (backOf (W := 0) (rm6 l Z a0 hw [] b8 v4 wb_10 (F2 v7) (bset v2 (fun _ => (0 : Int64))) T14.heap n0 (Nat.le_trans Z0 K14.1) f17 c14_0 (show ¬ (v4 / (64 : Int64)).toInt32 < 0 ∧ (v4 / (64 : Int64)).toInt32 < (F2 v7) from (by subst hv7 hv6 hv4 hv2; exact (own_ix p0 p2))) gewb_10) hZ (hw _ (List.mem_of_getElem? (i := 31) rfl)) (hw _ (List.mem_of_getElem? (i := 3) rfl)) (by decide) (by decide)) q16a q16c (g := (mkF m 71 #[.val (.int p0), .val (.int p1), .val (.int p2), .val (.int p3), .val (.long v7), .second, .val (.long v2), .second, .val (.long v4), .second, .val (.long v6), .second, .val (.ref b8), .val (.int (F5 v6 (fun _ => (0 : Int64)))), .unset, .unset, .unset] [(.long v4), (.ref b8)])) rfl (by rw [hml]; rfl) (Steps.refl _) (argsL := [(.long v4)]) (rest := []) (lenOf pd__28_J_29_V rfl) rfl (by show 2 * 0 + _ ≤ _; exact Nat.le_of_eq rfl) (hb hby at_71) (fun _ _ => ⟨rfl, rfl, (by decide : 2 + 0 ≤ _), (by decide : 34 + 0 ≤ _)⟩)
  dsimp only [Pt.U, Pt.locs, Pt.cells, Pt.slots] at X16 l16 y16 z16 st16 hQ16
  subst l16 y16 z16
  obtain ⟨rfl, N16q, K16c, c16_0⟩ := hQ16
  have N16 := Fr.app N14 N16q
  have K16 : Keep h0 T16.heap [] := K14.trans K16c (allS (Or.inr szwb_10) all0)
  have pre16 : Lead p e below G (T16.setTop (mkF m 74 #[.val (.int p0), .val (.int p1), .val (.int p2), .val (.int p3), .val (.long v7), .second, .val (.long v2), .second, .val (.long v4), .second, .val (.long v6), .second, .val (.ref b8), .val (.int (F5 v6 (fun _ => (0 : Int64)))), .unset, .unset, .unset] [])) := fun t k => pre15 t (st16.trans k)
  have pre19 : Lead p e below G (T16.setTop (mkF m 78 #[.val (.int p0), .val (.int p1), .val (.int p2), .val (.int p3), .val (.long v7), .second, .val (.long v2), .second, .val (.long v4), .second, .val (.long v6), .second, .val (.ref b8), .val (.int (F5 v6 (fun _ => (0 : Int64)))), .unset, .unset, .unset] [(.long v6), (.ref b8)])) := fun t k => by
    refine pre16 t ?_
    show Steps p.tables e below (T16.setTop (mkF m 74 #[.val (.int p0), .val (.int p1), .val (.int p2), .val (.int p3), .val (.long v7), .second, .val (.long v2), .second, .val (.long v4), .second, .val (.long v6), .second, .val (.ref b8), .val (.int (F5 v6 (fun _ => (0 : Int64)))), .unset, .unset, .unset] [])) _
    refine XS.aload X16.here hx rfl (hb hby at_74) rfl rfl ?_
    show Steps p.tables e below (T16.setTop (mkF m 76 #[.val (.int p0), .val (.int p1), .val (.int p2), .val (.int p3), .val (.long v7), .second, .val (.long v2), .second, .val (.long v4), .second, .val (.long v6), .second, .val (.ref b8), .val (.int (F5 v6 (fun _ => (0 : Int64)))), .unset, .unset, .unset] [(.ref b8)])) _
    refine XS.lload X16.here hx rfl (hb hby at_76) rfl ?_
    show Steps p.tables e below (T16.setTop (mkF m 78 #[.val (.int p0), .val (.int p1), .val (.int p2), .val (.int p3), .val (.long v7), .second, .val (.long v2), .second, .val (.long v4), .second, .val (.long v6), .second, .val (.ref b8), .val (.int (F5 v6 (fun _ => (0 : Int64)))), .unset, .unset, .unset] [(.long v6), (.ref b8)])) _
    exact k
  have f21 : Fld Z T16.heap b8 "com/example/libnear/libnear/core/BitArray" "words" "[J" (.ref wb_10) := (f17.keep K16c (ninS ne10_b8_wb_10 nin0))
  have f22 : Exa Z T16.heap b8 "com/example/libnear/libnear/core/BitArray" := (f18.keep K16c)
  obtain ⟨cq20, kq20, q20a, q20b, q20c⟩ := isOf hZ rfl f22
  obtain ⟨_, _, ⟨T20, L20, k20, n20⟩, -, X20, ⟨Lc20, hQ20, l20, y20, z20⟩, st20⟩ := X16.virtualBack hx (y := (⟨"com/example/libnear/libnear/core/BitArray", "get", "(J)Z"⟩ : MethodName)) (z := (⟨"com/example/libnear/libnear/core/BitArray", "get", "(J)Z"⟩ : MethodName)) hown (mvT hZ (hw _ (List.mem_of_getElem? (i := 22) rfl))) (mvT hZ (hw _ (List.mem_of_getElem? (i := 23) rfl))) (notFace_of_selects (args := #[]) (mvT hZ (hw _ (List.mem_of_getElem? (i := 25) rfl)))) (mvT hZ (hw _ (List.mem_of_getElem? (i := 25) rfl))) (mvT hZ (hw _ (List.mem_of_getElem? (i := 24) rfl))) (by decide) (backOf (W := 0) (rm5 l Z a0 hw [] b8 v6 wb_10 (F2 v7) (bset v4 (bset v2 (fun _ => (0 : Int64)))) T16.heap n0 (Nat.le_trans Z0 K16.1) f21 c16_0 (show ¬ (v6 / (64 : Int64)).toInt32 < 0 ∧ (v6 / (64 : Int64)).toInt32 < (F2 v7) from (by subst hv7 hv6 hv4 hv2; exact (own_ix p0 p3)))) hZ (hw _ (List.mem_of_getElem? (i := 26) rfl)) (hw _ (List.mem_of_getElem? (i := 3) rfl)) (by decide) (by decide)) q20a q20c (g := (mkF m 78 #[.val (.int p0), .val (.int p1), .val (.int p2), .val (.int p3), .val (.long v7), .second, .val (.long v2), .second, .val (.long v4), .second, .val (.long v6), .second, .val (.ref b8), .val (.int (F5 v6 (fun _ => (0 : Int64)))), .unset, .unset, .unset] [(.long v6), (.ref b8)])) rfl (by rw [hml]; rfl) (Steps.refl _) (argsL := [(.long v6)]) (rest := []) (lenOf pd__28_J_29_Z rfl) rfl (by show 2 * 0 + _ ≤ _; exact Nat.le_of_eq rfl) (hb hby at_78) (fun _ _ => ⟨rfl, rfl, (by decide : 2 + 0 ≤ _), (by decide : 34 + 0 ≤ _)⟩)
  dsimp only [Pt.U, Pt.locs, Pt.cells, Pt.slots] at X20 l20 y20 z20 st20 hQ20
  subst l20 y20 z20
  obtain ⟨rfl, N20q, e20⟩ := hQ20
  have N20 := Fr.app N16 N20q
  have pre20 : Lead p e below G (T20.setTop (mkF m 81 #[.val (.int p0), .val (.int p1), .val (.int p2), .val (.int p3), .val (.long v7), .second, .val (.long v2), .second, .val (.long v4), .second, .val (.long v6), .second, .val (.ref b8), .val (.int (F5 v6 (fun _ => (0 : Int64)))), .unset, .unset, .unset] [(.int (F5 v6 (bset v4 (bset v2 (fun _ => (0 : Int64))))))])) := fun t k => pre19 t (st20.trans k)
  have pre23 : Lead p e below G (T20.setTop (mkF m 87 #[.val (.int p0), .val (.int p1), .val (.int p2), .val (.int p3), .val (.long v7), .second, .val (.long v2), .second, .val (.long v4), .second, .val (.long v6), .second, .val (.ref b8), .val (.int (F5 v6 (fun _ => (0 : Int64)))), .val (.int (F5 v6 (bset v4 (bset v2 (fun _ => (0 : Int64)))))), .unset, .unset] [(.long v2), (.ref b8)])) := fun t k => by
    refine pre20 t ?_
    show Steps p.tables e below (T20.setTop (mkF m 81 #[.val (.int p0), .val (.int p1), .val (.int p2), .val (.int p3), .val (.long v7), .second, .val (.long v2), .second, .val (.long v4), .second, .val (.long v6), .second, .val (.ref b8), .val (.int (F5 v6 (fun _ => (0 : Int64)))), .unset, .unset, .unset] [(.int (F5 v6 (bset v4 (bset v2 (fun _ => (0 : Int64))))))])) _
    refine XS.istore X20.here hx rfl (hb hby at_81) rfl (l' := #[.val (.int p0), .val (.int p1), .val (.int p2), .val (.int p3), .val (.long v7), .second, .val (.long v2), .second, .val (.long v4), .second, .val (.long v6), .second, .val (.ref b8), .val (.int (F5 v6 (fun _ => (0 : Int64)))), .val (.int (F5 v6 (bset v4 (bset v2 (fun _ => (0 : Int64)))))), .unset, .unset]) rfl ?_
    show Steps p.tables e below (T20.setTop (mkF m 83 #[.val (.int p0), .val (.int p1), .val (.int p2), .val (.int p3), .val (.long v7), .second, .val (.long v2), .second, .val (.long v4), .second, .val (.long v6), .second, .val (.ref b8), .val (.int (F5 v6 (fun _ => (0 : Int64)))), .val (.int (F5 v6 (bset v4 (bset v2 (fun _ => (0 : Int64)))))), .unset, .unset] [])) _
    refine XS.aload X20.here hx rfl (hb hby at_83) rfl rfl ?_
    show Steps p.tables e below (T20.setTop (mkF m 85 #[.val (.int p0), .val (.int p1), .val (.int p2), .val (.int p3), .val (.long v7), .second, .val (.long v2), .second, .val (.long v4), .second, .val (.long v6), .second, .val (.ref b8), .val (.int (F5 v6 (fun _ => (0 : Int64)))), .val (.int (F5 v6 (bset v4 (bset v2 (fun _ => (0 : Int64)))))), .unset, .unset] [(.ref b8)])) _
    refine XS.lload X20.here hx rfl (hb hby at_85) rfl ?_
    show Steps p.tables e below (T20.setTop (mkF m 87 #[.val (.int p0), .val (.int p1), .val (.int p2), .val (.int p3), .val (.long v7), .second, .val (.long v2), .second, .val (.long v4), .second, .val (.long v6), .second, .val (.ref b8), .val (.int (F5 v6 (fun _ => (0 : Int64)))), .val (.int (F5 v6 (bset v4 (bset v2 (fun _ => (0 : Int64)))))), .unset, .unset] [(.long v2), (.ref b8)])) _
    exact k
  obtain ⟨v24, hv24⟩ : ∃ z : Int32, z = (F5 v6 (bset v4 (bset v2 (fun _ => (0 : Int64))))) := ⟨_, rfl⟩
  have pre24 : Lead p e below G (T20.setTop (mkF m 87 #[.val (.int p0), .val (.int p1), .val (.int p2), .val (.int p3), .val (.long v7), .second, .val (.long v2), .second, .val (.long v4), .second, .val (.long v6), .second, .val (.ref b8), .val (.int (F5 v6 (fun _ => (0 : Int64)))), .val (.int v24), .unset, .unset] [(.long v2), (.ref b8)])) := by rw [hv24]; exact pre23
  obtain ⟨cq25, kq25, q25a, q25b, q25c⟩ := isOf hZ e20 f22
  obtain ⟨_, _, ⟨T25, L25, k25, n25⟩, -, X25, ⟨Lc25, hQ25, l25, y25, z25⟩, st25⟩ := X20.virtualBack hx (y := (⟨"com/example/libnear/libnear/core/BitArray", "get", "(J)Z"⟩ : MethodName)) (z := (⟨"com/example/libnear/libnear/core/BitArray", "get", "(J)Z"⟩ : MethodName)) hown (mvT hZ (hw _ (List.mem_of_getElem? (i := 22) rfl))) (mvT hZ (hw _ (List.mem_of_getElem? (i := 23) rfl))) (notFace_of_selects (args := #[]) (mvT hZ (hw _ (List.mem_of_getElem? (i := 25) rfl)))) (mvT hZ (hw _ (List.mem_of_getElem? (i := 25) rfl))) (mvT hZ (hw _ (List.mem_of_getElem? (i := 24) rfl))) (by decide) (backOf (W := 0) (rm5 l Z a0 hw [] b8 v2 wb_10 (F2 v7) (bset v4 (bset v2 (fun _ => (0 : Int64)))) T16.heap n0 (Nat.le_trans Z0 K16.1) f21 c16_0 (show ¬ (v2 / (64 : Int64)).toInt32 < 0 ∧ (v2 / (64 : Int64)).toInt32 < (F2 v7) from (by subst hv24 hv7 hv6 hv4 hv2; exact (own_ix p0 p1)))) hZ (hw _ (List.mem_of_getElem? (i := 26) rfl)) (hw _ (List.mem_of_getElem? (i := 3) rfl)) (by decide) (by decide)) q25a q25c (g := (mkF m 87 #[.val (.int p0), .val (.int p1), .val (.int p2), .val (.int p3), .val (.long v7), .second, .val (.long v2), .second, .val (.long v4), .second, .val (.long v6), .second, .val (.ref b8), .val (.int (F5 v6 (fun _ => (0 : Int64)))), .val (.int v24), .unset, .unset] [(.long v2), (.ref b8)])) rfl (by rw [hml]; rfl) (Steps.refl _) (argsL := [(.long v2)]) (rest := []) (lenOf pd__28_J_29_Z rfl) rfl (by show 2 * 0 + _ ≤ _; exact Nat.le_of_eq rfl) (hb hby at_87) (fun _ _ => ⟨rfl, e20, (by decide : 2 + 0 ≤ _), (by decide : 34 + 0 ≤ _)⟩)
  dsimp only [Pt.U, Pt.locs, Pt.cells, Pt.slots] at X25 l25 y25 z25 st25 hQ25
  subst l25 y25 z25
  obtain ⟨rfl, N25q, e25⟩ := hQ25
  have N25 := Fr.app N20 N25q
  have pre25 : Lead p e below G (T25.setTop (mkF m 90 #[.val (.int p0), .val (.int p1), .val (.int p2), .val (.int p3), .val (.long v7), .second, .val (.long v2), .second, .val (.long v4), .second, .val (.long v6), .second, .val (.ref b8), .val (.int (F5 v6 (fun _ => (0 : Int64)))), .val (.int v24), .unset, .unset] [(.int (F5 v2 (bset v4 (bset v2 (fun _ => (0 : Int64))))))])) := fun t k => pre24 t (st25.trans k)
  have pre30 : Lead p e below G (T25.setTop (mkF m 113 #[.val (.int p0), .val (.int p1), .val (.int p2), .val (.int p3), .val (.long v7), .second, .val (.long v2), .second, .val (.long v4), .second, .val (.long v6), .second, .val (.ref b8), .val (.int (F5 v6 (fun _ => (0 : Int64)))), .val (.int v24), .val (.int (F5 v2 (bset v4 (bset v2 (fun _ => (0 : Int64)))))), .unset] [(.int (if v6 = v2 then (1 : Int32) else (if v6 = v4 then (1 : Int32) else (0 : Int32))))])) := fun t k => by
    refine pre25 t ?_
    show Steps p.tables e below (T25.setTop (mkF m 90 #[.val (.int p0), .val (.int p1), .val (.int p2), .val (.int p3), .val (.long v7), .second, .val (.long v2), .second, .val (.long v4), .second, .val (.long v6), .second, .val (.ref b8), .val (.int (F5 v6 (fun _ => (0 : Int64)))), .val (.int v24), .unset, .unset] [(.int (F5 v2 (bset v4 (bset v2 (fun _ => (0 : Int64))))))])) _
    refine XS.istore X25.here hx rfl (hb hby at_90) rfl (l' := #[.val (.int p0), .val (.int p1), .val (.int p2), .val (.int p3), .val (.long v7), .second, .val (.long v2), .second, .val (.long v4), .second, .val (.long v6), .second, .val (.ref b8), .val (.int (F5 v6 (fun _ => (0 : Int64)))), .val (.int v24), .val (.int (F5 v2 (bset v4 (bset v2 (fun _ => (0 : Int64)))))), .unset]) rfl ?_
    show Steps p.tables e below (T25.setTop (mkF m 92 #[.val (.int p0), .val (.int p1), .val (.int p2), .val (.int p3), .val (.long v7), .second, .val (.long v2), .second, .val (.long v4), .second, .val (.long v6), .second, .val (.ref b8), .val (.int (F5 v6 (fun _ => (0 : Int64)))), .val (.int v24), .val (.int (F5 v2 (bset v4 (bset v2 (fun _ => (0 : Int64)))))), .unset] [])) _
    refine XS.lload X25.here hx rfl (hb hby at_92) rfl ?_
    show Steps p.tables e below (T25.setTop (mkF m 94 #[.val (.int p0), .val (.int p1), .val (.int p2), .val (.int p3), .val (.long v7), .second, .val (.long v2), .second, .val (.long v4), .second, .val (.long v6), .second, .val (.ref b8), .val (.int (F5 v6 (fun _ => (0 : Int64)))), .val (.int v24), .val (.int (F5 v2 (bset v4 (bset v2 (fun _ => (0 : Int64)))))), .unset] [(.long v6)])) _
    refine XS.lload X25.here hx rfl (hb hby at_94) rfl ?_
    show Steps p.tables e below (T25.setTop (mkF m 96 #[.val (.int p0), .val (.int p1), .val (.int p2), .val (.int p3), .val (.long v7), .second, .val (.long v2), .second, .val (.long v4), .second, .val (.long v6), .second, .val (.ref b8), .val (.int (F5 v6 (fun _ => (0 : Int64)))), .val (.int v24), .val (.int (F5 v2 (bset v4 (bset v2 (fun _ => (0 : Int64)))))), .unset] [(.long v2), (.long v6)])) _
    refine XS.lcmp X25.here hx rfl (hb hby at_96) rfl ?_
    show Steps p.tables e below (T25.setTop (mkF m 97 #[.val (.int p0), .val (.int p1), .val (.int p2), .val (.int p3), .val (.long v7), .second, .val (.long v2), .second, .val (.long v4), .second, .val (.long v6), .second, .val (.ref b8), .val (.int (F5 v6 (fun _ => (0 : Int64)))), .val (.int v24), .val (.int (F5 v2 (bset v4 (bset v2 (fun _ => (0 : Int64)))))), .unset] [(.int (lcmpW v6 v2))])) _
    have j29 : ∀ t, Steps p.tables e below (T25.setTop (mkF m 113 #[.val (.int p0), .val (.int p1), .val (.int p2), .val (.int p3), .val (.long v7), .second, .val (.long v2), .second, .val (.long v4), .second, .val (.long v6), .second, .val (.ref b8), .val (.int (F5 v6 (fun _ => (0 : Int64)))), .val (.int v24), .val (.int (F5 v2 (bset v4 (bset v2 (fun _ => (0 : Int64)))))), .unset] [(.int (if v6 = v2 then (1 : Int32) else (if v6 = v4 then (1 : Int32) else (0 : Int32))))])) t → Steps p.tables e below (T25.setTop (mkF m 97 #[.val (.int p0), .val (.int p1), .val (.int p2), .val (.int p3), .val (.long v7), .second, .val (.long v2), .second, .val (.long v4), .second, .val (.long v6), .second, .val (.ref b8), .val (.int (F5 v6 (fun _ => (0 : Int64)))), .val (.int v24), .val (.int (F5 v2 (bset v4 (bset v2 (fun _ => (0 : Int64)))))), .unset] [(.int (lcmpW v6 v2))])) t := fun t k => by
      by_cases hc97_26 : v6 = v2
      · simp only [if_pos hc97_26] at k
        refine XS.ifYes X25.here hx rfl (pc0 := 97) (pc' := 108) rfl (hb hby at_97) rfl ((if0 _ _).trans (teq (own_lc_eq.mpr hc97_26)).1) (by decide) (by decide) ?_
        show Steps p.tables e below (T25.setTop (mkF m 108 #[.val (.int p0), .val (.int p1), .val (.int p2), .val (.int p3), .val (.long v7), .second, .val (.long v2), .second, .val (.long v4), .second, .val (.long v6), .second, .val (.ref b8), .val (.int (F5 v6 (fun _ => (0 : Int64)))), .val (.int v24), .val (.int (F5 v2 (bset v4 (bset v2 (fun _ => (0 : Int64)))))), .unset] [])) _
        refine XS.iconst X25.here hx rfl (hb hby at_108) ?_
        show Steps p.tables e below (T25.setTop (mkF m 109 #[.val (.int p0), .val (.int p1), .val (.int p2), .val (.int p3), .val (.long v7), .second, .val (.long v2), .second, .val (.long v4), .second, .val (.long v6), .second, .val (.ref b8), .val (.int (F5 v6 (fun _ => (0 : Int64)))), .val (.int v24), .val (.int (F5 v2 (bset v4 (bset v2 (fun _ => (0 : Int64)))))), .unset] [(.int (1 : Int32))])) _
        refine XS.goto X25.here hx rfl (pc0 := 109) (pc' := 113) rfl (hb hby at_109) (by decide) (by decide) ?_
        show Steps p.tables e below (T25.setTop (mkF m 113 #[.val (.int p0), .val (.int p1), .val (.int p2), .val (.int p3), .val (.long v7), .second, .val (.long v2), .second, .val (.long v4), .second, .val (.long v6), .second, .val (.ref b8), .val (.int (F5 v6 (fun _ => (0 : Int64)))), .val (.int v24), .val (.int (F5 v2 (bset v4 (bset v2 (fun _ => (0 : Int64)))))), .unset] [(.int (1 : Int32))])) _
        exact k
      · simp only [if_neg hc97_26] at k
        refine XS.ifNo X25.here hx rfl (hb hby at_97) rfl ((if0 _ _).trans (feq (fun q => hc97_26 (own_lc_eq.mp q))).1) ?_
        show Steps p.tables e below (T25.setTop (mkF m 100 #[.val (.int p0), .val (.int p1), .val (.int p2), .val (.int p3), .val (.long v7), .second, .val (.long v2), .second, .val (.long v4), .second, .val (.long v6), .second, .val (.ref b8), .val (.int (F5 v6 (fun _ => (0 : Int64)))), .val (.int v24), .val (.int (F5 v2 (bset v4 (bset v2 (fun _ => (0 : Int64)))))), .unset] [])) _
        refine XS.lload X25.here hx rfl (hb hby at_100) rfl ?_
        show Steps p.tables e below (T25.setTop (mkF m 102 #[.val (.int p0), .val (.int p1), .val (.int p2), .val (.int p3), .val (.long v7), .second, .val (.long v2), .second, .val (.long v4), .second, .val (.long v6), .second, .val (.ref b8), .val (.int (F5 v6 (fun _ => (0 : Int64)))), .val (.int v24), .val (.int (F5 v2 (bset v4 (bset v2 (fun _ => (0 : Int64)))))), .unset] [(.long v6)])) _
        refine XS.lload X25.here hx rfl (hb hby at_102) rfl ?_
        show Steps p.tables e below (T25.setTop (mkF m 104 #[.val (.int p0), .val (.int p1), .val (.int p2), .val (.int p3), .val (.long v7), .second, .val (.long v2), .second, .val (.long v4), .second, .val (.long v6), .second, .val (.ref b8), .val (.int (F5 v6 (fun _ => (0 : Int64)))), .val (.int v24), .val (.int (F5 v2 (bset v4 (bset v2 (fun _ => (0 : Int64)))))), .unset] [(.long v4), (.long v6)])) _
        refine XS.lcmp X25.here hx rfl (hb hby at_104) rfl ?_
        show Steps p.tables e below (T25.setTop (mkF m 105 #[.val (.int p0), .val (.int p1), .val (.int p2), .val (.int p3), .val (.long v7), .second, .val (.long v2), .second, .val (.long v4), .second, .val (.long v6), .second, .val (.ref b8), .val (.int (F5 v6 (fun _ => (0 : Int64)))), .val (.int v24), .val (.int (F5 v2 (bset v4 (bset v2 (fun _ => (0 : Int64)))))), .unset] [(.int (lcmpW v6 v4))])) _
        have j28 : ∀ t, Steps p.tables e below (T25.setTop (mkF m 113 #[.val (.int p0), .val (.int p1), .val (.int p2), .val (.int p3), .val (.long v7), .second, .val (.long v2), .second, .val (.long v4), .second, .val (.long v6), .second, .val (.ref b8), .val (.int (F5 v6 (fun _ => (0 : Int64)))), .val (.int v24), .val (.int (F5 v2 (bset v4 (bset v2 (fun _ => (0 : Int64)))))), .unset] [(.int (if v6 = v4 then (1 : Int32) else (0 : Int32)))])) t → Steps p.tables e below (T25.setTop (mkF m 105 #[.val (.int p0), .val (.int p1), .val (.int p2), .val (.int p3), .val (.long v7), .second, .val (.long v2), .second, .val (.long v4), .second, .val (.long v6), .second, .val (.ref b8), .val (.int (F5 v6 (fun _ => (0 : Int64)))), .val (.int v24), .val (.int (F5 v2 (bset v4 (bset v2 (fun _ => (0 : Int64)))))), .unset] [(.int (lcmpW v6 v4))])) t := fun t k => by
          by_cases hc105_27 : v6 = v4
          · simp only [if_pos hc105_27] at k
            refine XS.ifNo X25.here hx rfl (hb hby at_105) rfl ((if0 _ _).trans (teq (own_lc_eq.mpr hc105_27)).2) ?_
            show Steps p.tables e below (T25.setTop (mkF m 108 #[.val (.int p0), .val (.int p1), .val (.int p2), .val (.int p3), .val (.long v7), .second, .val (.long v2), .second, .val (.long v4), .second, .val (.long v6), .second, .val (.ref b8), .val (.int (F5 v6 (fun _ => (0 : Int64)))), .val (.int v24), .val (.int (F5 v2 (bset v4 (bset v2 (fun _ => (0 : Int64)))))), .unset] [])) _
            refine XS.iconst X25.here hx rfl (hb hby at_108) ?_
            show Steps p.tables e below (T25.setTop (mkF m 109 #[.val (.int p0), .val (.int p1), .val (.int p2), .val (.int p3), .val (.long v7), .second, .val (.long v2), .second, .val (.long v4), .second, .val (.long v6), .second, .val (.ref b8), .val (.int (F5 v6 (fun _ => (0 : Int64)))), .val (.int v24), .val (.int (F5 v2 (bset v4 (bset v2 (fun _ => (0 : Int64)))))), .unset] [(.int (1 : Int32))])) _
            refine XS.goto X25.here hx rfl (pc0 := 109) (pc' := 113) rfl (hb hby at_109) (by decide) (by decide) ?_
            show Steps p.tables e below (T25.setTop (mkF m 113 #[.val (.int p0), .val (.int p1), .val (.int p2), .val (.int p3), .val (.long v7), .second, .val (.long v2), .second, .val (.long v4), .second, .val (.long v6), .second, .val (.ref b8), .val (.int (F5 v6 (fun _ => (0 : Int64)))), .val (.int v24), .val (.int (F5 v2 (bset v4 (bset v2 (fun _ => (0 : Int64)))))), .unset] [(.int (1 : Int32))])) _
            exact k
          · simp only [if_neg hc105_27] at k
            refine XS.ifYes X25.here hx rfl (pc0 := 105) (pc' := 112) rfl (hb hby at_105) rfl ((if0 _ _).trans (feq (fun q => hc105_27 (own_lc_eq.mp q))).2) (by decide) (by decide) ?_
            show Steps p.tables e below (T25.setTop (mkF m 112 #[.val (.int p0), .val (.int p1), .val (.int p2), .val (.int p3), .val (.long v7), .second, .val (.long v2), .second, .val (.long v4), .second, .val (.long v6), .second, .val (.ref b8), .val (.int (F5 v6 (fun _ => (0 : Int64)))), .val (.int v24), .val (.int (F5 v2 (bset v4 (bset v2 (fun _ => (0 : Int64)))))), .unset] [])) _
            refine XS.iconst X25.here hx rfl (hb hby at_112) ?_
            show Steps p.tables e below (T25.setTop (mkF m 113 #[.val (.int p0), .val (.int p1), .val (.int p2), .val (.int p3), .val (.long v7), .second, .val (.long v2), .second, .val (.long v4), .second, .val (.long v6), .second, .val (.ref b8), .val (.int (F5 v6 (fun _ => (0 : Int64)))), .val (.int v24), .val (.int (F5 v2 (bset v4 (bset v2 (fun _ => (0 : Int64)))))), .unset] [(.int (0 : Int32))])) _
            exact k
        refine j28 _ ?_
        show Steps p.tables e below (T25.setTop (mkF m 113 #[.val (.int p0), .val (.int p1), .val (.int p2), .val (.int p3), .val (.long v7), .second, .val (.long v2), .second, .val (.long v4), .second, .val (.long v6), .second, .val (.ref b8), .val (.int (F5 v6 (fun _ => (0 : Int64)))), .val (.int v24), .val (.int (F5 v2 (bset v4 (bset v2 (fun _ => (0 : Int64)))))), .unset] [(.int (if v6 = v4 then (1 : Int32) else (0 : Int32)))])) _
        exact k
    refine j29 _ ?_
    show Steps p.tables e below (T25.setTop (mkF m 113 #[.val (.int p0), .val (.int p1), .val (.int p2), .val (.int p3), .val (.long v7), .second, .val (.long v2), .second, .val (.long v4), .second, .val (.long v6), .second, .val (.ref b8), .val (.int (F5 v6 (fun _ => (0 : Int64)))), .val (.int v24), .val (.int (F5 v2 (bset v4 (bset v2 (fun _ => (0 : Int64)))))), .unset] [(.int (if v6 = v2 then (1 : Int32) else (if v6 = v4 then (1 : Int32) else (0 : Int32))))])) _
    exact k
  obtain ⟨v31, hv31⟩ : ∃ z : Int32, z = (if v6 = v2 then (1 : Int32) else (if v6 = v4 then (1 : Int32) else (0 : Int32))) := ⟨_, rfl⟩
  have pre31 : Lead p e below G (T25.setTop (mkF m 113 #[.val (.int p0), .val (.int p1), .val (.int p2), .val (.int p3), .val (.long v7), .second, .val (.long v2), .second, .val (.long v4), .second, .val (.long v6), .second, .val (.ref b8), .val (.int (F5 v6 (fun _ => (0 : Int64)))), .val (.int v24), .val (.int (F5 v2 (bset v4 (bset v2 (fun _ => (0 : Int64)))))), .unset] [(.int v31)])) := by rw [hv31]; exact pre30
  have pre38 : Lead p e below G (T25.setTop (mkF m 137 #[.val (.int p0), .val (.int p1), .val (.int p2), .val (.int p3), .val (.long v7), .second, .val (.long v2), .second, .val (.long v4), .second, .val (.long v6), .second, .val (.ref b8), .val (.int (F5 v6 (fun _ => (0 : Int64)))), .val (.int v24), .val (.int (F5 v2 (bset v4 (bset v2 (fun _ => (0 : Int64)))))), .val (.int v31)] [(.int (if (F5 v6 (fun _ => (0 : Int64))) = (0 : Int32) then (if v24 = v31 then (if (F5 v2 (bset v4 (bset v2 (fun _ => (0 : Int64))))) = (0 : Int32) then (0 : Int32) else (1 : Int32)) else (0 : Int32)) else (0 : Int32)))])) := fun t k => by
    refine pre31 t ?_
    show Steps p.tables e below (T25.setTop (mkF m 113 #[.val (.int p0), .val (.int p1), .val (.int p2), .val (.int p3), .val (.long v7), .second, .val (.long v2), .second, .val (.long v4), .second, .val (.long v6), .second, .val (.ref b8), .val (.int (F5 v6 (fun _ => (0 : Int64)))), .val (.int v24), .val (.int (F5 v2 (bset v4 (bset v2 (fun _ => (0 : Int64)))))), .unset] [(.int v31)])) _
    refine XS.istore X25.here hx rfl (hb hby at_113) rfl (l' := #[.val (.int p0), .val (.int p1), .val (.int p2), .val (.int p3), .val (.long v7), .second, .val (.long v2), .second, .val (.long v4), .second, .val (.long v6), .second, .val (.ref b8), .val (.int (F5 v6 (fun _ => (0 : Int64)))), .val (.int v24), .val (.int (F5 v2 (bset v4 (bset v2 (fun _ => (0 : Int64)))))), .val (.int v31)]) rfl ?_
    show Steps p.tables e below (T25.setTop (mkF m 115 #[.val (.int p0), .val (.int p1), .val (.int p2), .val (.int p3), .val (.long v7), .second, .val (.long v2), .second, .val (.long v4), .second, .val (.long v6), .second, .val (.ref b8), .val (.int (F5 v6 (fun _ => (0 : Int64)))), .val (.int v24), .val (.int (F5 v2 (bset v4 (bset v2 (fun _ => (0 : Int64)))))), .val (.int v31)] [])) _
    refine XS.iload X25.here hx rfl (hb hby at_115) rfl ?_
    show Steps p.tables e below (T25.setTop (mkF m 117 #[.val (.int p0), .val (.int p1), .val (.int p2), .val (.int p3), .val (.long v7), .second, .val (.long v2), .second, .val (.long v4), .second, .val (.long v6), .second, .val (.ref b8), .val (.int (F5 v6 (fun _ => (0 : Int64)))), .val (.int v24), .val (.int (F5 v2 (bset v4 (bset v2 (fun _ => (0 : Int64)))))), .val (.int v31)] [(.int (F5 v6 (fun _ => (0 : Int64))))])) _
    have j37 : ∀ t, Steps p.tables e below (T25.setTop (mkF m 137 #[.val (.int p0), .val (.int p1), .val (.int p2), .val (.int p3), .val (.long v7), .second, .val (.long v2), .second, .val (.long v4), .second, .val (.long v6), .second, .val (.ref b8), .val (.int (F5 v6 (fun _ => (0 : Int64)))), .val (.int v24), .val (.int (F5 v2 (bset v4 (bset v2 (fun _ => (0 : Int64)))))), .val (.int v31)] [(.int (if (F5 v6 (fun _ => (0 : Int64))) = (0 : Int32) then (if v24 = v31 then (if (F5 v2 (bset v4 (bset v2 (fun _ => (0 : Int64))))) = (0 : Int32) then (0 : Int32) else (1 : Int32)) else (0 : Int32)) else (0 : Int32)))])) t → Steps p.tables e below (T25.setTop (mkF m 117 #[.val (.int p0), .val (.int p1), .val (.int p2), .val (.int p3), .val (.long v7), .second, .val (.long v2), .second, .val (.long v4), .second, .val (.long v6), .second, .val (.ref b8), .val (.int (F5 v6 (fun _ => (0 : Int64)))), .val (.int v24), .val (.int (F5 v2 (bset v4 (bset v2 (fun _ => (0 : Int64)))))), .val (.int v31)] [(.int (F5 v6 (fun _ => (0 : Int64))))])) t := fun t k => by
      by_cases hc117_32 : (F5 v6 (fun _ => (0 : Int64))) = (0 : Int32)
      · simp only [if_pos hc117_32] at k
        refine XS.ifNo X25.here hx rfl (hb hby at_117) rfl ((if0 _ _).trans (teq hc117_32).2) ?_
        show Steps p.tables e below (T25.setTop (mkF m 120 #[.val (.int p0), .val (.int p1), .val (.int p2), .val (.int p3), .val (.long v7), .second, .val (.long v2), .second, .val (.long v4), .second, .val (.long v6), .second, .val (.ref b8), .val (.int (F5 v6 (fun _ => (0 : Int64)))), .val (.int v24), .val (.int (F5 v2 (bset v4 (bset v2 (fun _ => (0 : Int64)))))), .val (.int v31)] [])) _
        refine XS.iload X25.here hx rfl (hb hby at_120) rfl ?_
        show Steps p.tables e below (T25.setTop (mkF m 122 #[.val (.int p0), .val (.int p1), .val (.int p2), .val (.int p3), .val (.long v7), .second, .val (.long v2), .second, .val (.long v4), .second, .val (.long v6), .second, .val (.ref b8), .val (.int (F5 v6 (fun _ => (0 : Int64)))), .val (.int v24), .val (.int (F5 v2 (bset v4 (bset v2 (fun _ => (0 : Int64)))))), .val (.int v31)] [(.int v24)])) _
        refine XS.iload X25.here hx rfl (hb hby at_122) rfl ?_
        show Steps p.tables e below (T25.setTop (mkF m 124 #[.val (.int p0), .val (.int p1), .val (.int p2), .val (.int p3), .val (.long v7), .second, .val (.long v2), .second, .val (.long v4), .second, .val (.long v6), .second, .val (.ref b8), .val (.int (F5 v6 (fun _ => (0 : Int64)))), .val (.int v24), .val (.int (F5 v2 (bset v4 (bset v2 (fun _ => (0 : Int64)))))), .val (.int v31)] [(.int v31), (.int v24)])) _
        have j36 : ∀ t, Steps p.tables e below (T25.setTop (mkF m 137 #[.val (.int p0), .val (.int p1), .val (.int p2), .val (.int p3), .val (.long v7), .second, .val (.long v2), .second, .val (.long v4), .second, .val (.long v6), .second, .val (.ref b8), .val (.int (F5 v6 (fun _ => (0 : Int64)))), .val (.int v24), .val (.int (F5 v2 (bset v4 (bset v2 (fun _ => (0 : Int64)))))), .val (.int v31)] [(.int (if v24 = v31 then (if (F5 v2 (bset v4 (bset v2 (fun _ => (0 : Int64))))) = (0 : Int32) then (0 : Int32) else (1 : Int32)) else (0 : Int32)))])) t → Steps p.tables e below (T25.setTop (mkF m 124 #[.val (.int p0), .val (.int p1), .val (.int p2), .val (.int p3), .val (.long v7), .second, .val (.long v2), .second, .val (.long v4), .second, .val (.long v6), .second, .val (.ref b8), .val (.int (F5 v6 (fun _ => (0 : Int64)))), .val (.int v24), .val (.int (F5 v2 (bset v4 (bset v2 (fun _ => (0 : Int64)))))), .val (.int v31)] [(.int v31), (.int v24)])) t := fun t k => by
          by_cases hc124_33 : v24 = v31
          · simp only [if_pos hc124_33] at k
            refine XS.icmpNo X25.here hx rfl (hb hby at_124) rfl (teq hc124_33).2 ?_
            show Steps p.tables e below (T25.setTop (mkF m 127 #[.val (.int p0), .val (.int p1), .val (.int p2), .val (.int p3), .val (.long v7), .second, .val (.long v2), .second, .val (.long v4), .second, .val (.long v6), .second, .val (.ref b8), .val (.int (F5 v6 (fun _ => (0 : Int64)))), .val (.int v24), .val (.int (F5 v2 (bset v4 (bset v2 (fun _ => (0 : Int64)))))), .val (.int v31)] [])) _
            refine XS.iload X25.here hx rfl (hb hby at_127) rfl ?_
            show Steps p.tables e below (T25.setTop (mkF m 129 #[.val (.int p0), .val (.int p1), .val (.int p2), .val (.int p3), .val (.long v7), .second, .val (.long v2), .second, .val (.long v4), .second, .val (.long v6), .second, .val (.ref b8), .val (.int (F5 v6 (fun _ => (0 : Int64)))), .val (.int v24), .val (.int (F5 v2 (bset v4 (bset v2 (fun _ => (0 : Int64)))))), .val (.int v31)] [(.int (F5 v2 (bset v4 (bset v2 (fun _ => (0 : Int64))))))])) _
            have j35 : ∀ t, Steps p.tables e below (T25.setTop (mkF m 137 #[.val (.int p0), .val (.int p1), .val (.int p2), .val (.int p3), .val (.long v7), .second, .val (.long v2), .second, .val (.long v4), .second, .val (.long v6), .second, .val (.ref b8), .val (.int (F5 v6 (fun _ => (0 : Int64)))), .val (.int v24), .val (.int (F5 v2 (bset v4 (bset v2 (fun _ => (0 : Int64)))))), .val (.int v31)] [(.int (if (F5 v2 (bset v4 (bset v2 (fun _ => (0 : Int64))))) = (0 : Int32) then (0 : Int32) else (1 : Int32)))])) t → Steps p.tables e below (T25.setTop (mkF m 129 #[.val (.int p0), .val (.int p1), .val (.int p2), .val (.int p3), .val (.long v7), .second, .val (.long v2), .second, .val (.long v4), .second, .val (.long v6), .second, .val (.ref b8), .val (.int (F5 v6 (fun _ => (0 : Int64)))), .val (.int v24), .val (.int (F5 v2 (bset v4 (bset v2 (fun _ => (0 : Int64)))))), .val (.int v31)] [(.int (F5 v2 (bset v4 (bset v2 (fun _ => (0 : Int64))))))])) t := fun t k => by
              by_cases hc129_34 : (F5 v2 (bset v4 (bset v2 (fun _ => (0 : Int64))))) = (0 : Int32)
              · simp only [if_pos hc129_34] at k
                refine XS.ifYes X25.here hx rfl (pc0 := 129) (pc' := 136) rfl (hb hby at_129) rfl ((if0 _ _).trans (teq hc129_34).1) (by decide) (by decide) ?_
                show Steps p.tables e below (T25.setTop (mkF m 136 #[.val (.int p0), .val (.int p1), .val (.int p2), .val (.int p3), .val (.long v7), .second, .val (.long v2), .second, .val (.long v4), .second, .val (.long v6), .second, .val (.ref b8), .val (.int (F5 v6 (fun _ => (0 : Int64)))), .val (.int v24), .val (.int (F5 v2 (bset v4 (bset v2 (fun _ => (0 : Int64)))))), .val (.int v31)] [])) _
                refine XS.iconst X25.here hx rfl (hb hby at_136) ?_
                show Steps p.tables e below (T25.setTop (mkF m 137 #[.val (.int p0), .val (.int p1), .val (.int p2), .val (.int p3), .val (.long v7), .second, .val (.long v2), .second, .val (.long v4), .second, .val (.long v6), .second, .val (.ref b8), .val (.int (F5 v6 (fun _ => (0 : Int64)))), .val (.int v24), .val (.int (F5 v2 (bset v4 (bset v2 (fun _ => (0 : Int64)))))), .val (.int v31)] [(.int (0 : Int32))])) _
                exact k
              · simp only [if_neg hc129_34] at k
                refine XS.ifNo X25.here hx rfl (hb hby at_129) rfl ((if0 _ _).trans (feq hc129_34).1) ?_
                show Steps p.tables e below (T25.setTop (mkF m 132 #[.val (.int p0), .val (.int p1), .val (.int p2), .val (.int p3), .val (.long v7), .second, .val (.long v2), .second, .val (.long v4), .second, .val (.long v6), .second, .val (.ref b8), .val (.int (F5 v6 (fun _ => (0 : Int64)))), .val (.int v24), .val (.int (F5 v2 (bset v4 (bset v2 (fun _ => (0 : Int64)))))), .val (.int v31)] [])) _
                refine XS.iconst X25.here hx rfl (hb hby at_132) ?_
                show Steps p.tables e below (T25.setTop (mkF m 133 #[.val (.int p0), .val (.int p1), .val (.int p2), .val (.int p3), .val (.long v7), .second, .val (.long v2), .second, .val (.long v4), .second, .val (.long v6), .second, .val (.ref b8), .val (.int (F5 v6 (fun _ => (0 : Int64)))), .val (.int v24), .val (.int (F5 v2 (bset v4 (bset v2 (fun _ => (0 : Int64)))))), .val (.int v31)] [(.int (1 : Int32))])) _
                refine XS.goto X25.here hx rfl (pc0 := 133) (pc' := 137) rfl (hb hby at_133) (by decide) (by decide) ?_
                show Steps p.tables e below (T25.setTop (mkF m 137 #[.val (.int p0), .val (.int p1), .val (.int p2), .val (.int p3), .val (.long v7), .second, .val (.long v2), .second, .val (.long v4), .second, .val (.long v6), .second, .val (.ref b8), .val (.int (F5 v6 (fun _ => (0 : Int64)))), .val (.int v24), .val (.int (F5 v2 (bset v4 (bset v2 (fun _ => (0 : Int64)))))), .val (.int v31)] [(.int (1 : Int32))])) _
                exact k
            refine j35 _ ?_
            show Steps p.tables e below (T25.setTop (mkF m 137 #[.val (.int p0), .val (.int p1), .val (.int p2), .val (.int p3), .val (.long v7), .second, .val (.long v2), .second, .val (.long v4), .second, .val (.long v6), .second, .val (.ref b8), .val (.int (F5 v6 (fun _ => (0 : Int64)))), .val (.int v24), .val (.int (F5 v2 (bset v4 (bset v2 (fun _ => (0 : Int64)))))), .val (.int v31)] [(.int (if (F5 v2 (bset v4 (bset v2 (fun _ => (0 : Int64))))) = (0 : Int32) then (0 : Int32) else (1 : Int32)))])) _
            exact k
          · simp only [if_neg hc124_33] at k
            refine XS.icmpYes X25.here hx rfl (pc0 := 124) (pc' := 136) rfl (hb hby at_124) rfl (feq hc124_33).2 (by decide) (by decide) ?_
            show Steps p.tables e below (T25.setTop (mkF m 136 #[.val (.int p0), .val (.int p1), .val (.int p2), .val (.int p3), .val (.long v7), .second, .val (.long v2), .second, .val (.long v4), .second, .val (.long v6), .second, .val (.ref b8), .val (.int (F5 v6 (fun _ => (0 : Int64)))), .val (.int v24), .val (.int (F5 v2 (bset v4 (bset v2 (fun _ => (0 : Int64)))))), .val (.int v31)] [])) _
            refine XS.iconst X25.here hx rfl (hb hby at_136) ?_
            show Steps p.tables e below (T25.setTop (mkF m 137 #[.val (.int p0), .val (.int p1), .val (.int p2), .val (.int p3), .val (.long v7), .second, .val (.long v2), .second, .val (.long v4), .second, .val (.long v6), .second, .val (.ref b8), .val (.int (F5 v6 (fun _ => (0 : Int64)))), .val (.int v24), .val (.int (F5 v2 (bset v4 (bset v2 (fun _ => (0 : Int64)))))), .val (.int v31)] [(.int (0 : Int32))])) _
            exact k
        refine j36 _ ?_
        show Steps p.tables e below (T25.setTop (mkF m 137 #[.val (.int p0), .val (.int p1), .val (.int p2), .val (.int p3), .val (.long v7), .second, .val (.long v2), .second, .val (.long v4), .second, .val (.long v6), .second, .val (.ref b8), .val (.int (F5 v6 (fun _ => (0 : Int64)))), .val (.int v24), .val (.int (F5 v2 (bset v4 (bset v2 (fun _ => (0 : Int64)))))), .val (.int v31)] [(.int (if v24 = v31 then (if (F5 v2 (bset v4 (bset v2 (fun _ => (0 : Int64))))) = (0 : Int32) then (0 : Int32) else (1 : Int32)) else (0 : Int32)))])) _
        exact k
      · simp only [if_neg hc117_32] at k
        refine XS.ifYes X25.here hx rfl (pc0 := 117) (pc' := 136) rfl (hb hby at_117) rfl ((if0 _ _).trans (feq hc117_32).2) (by decide) (by decide) ?_
        show Steps p.tables e below (T25.setTop (mkF m 136 #[.val (.int p0), .val (.int p1), .val (.int p2), .val (.int p3), .val (.long v7), .second, .val (.long v2), .second, .val (.long v4), .second, .val (.long v6), .second, .val (.ref b8), .val (.int (F5 v6 (fun _ => (0 : Int64)))), .val (.int v24), .val (.int (F5 v2 (bset v4 (bset v2 (fun _ => (0 : Int64)))))), .val (.int v31)] [])) _
        refine XS.iconst X25.here hx rfl (hb hby at_136) ?_
        show Steps p.tables e below (T25.setTop (mkF m 137 #[.val (.int p0), .val (.int p1), .val (.int p2), .val (.int p3), .val (.long v7), .second, .val (.long v2), .second, .val (.long v4), .second, .val (.long v6), .second, .val (.ref b8), .val (.int (F5 v6 (fun _ => (0 : Int64)))), .val (.int v24), .val (.int (F5 v2 (bset v4 (bset v2 (fun _ => (0 : Int64)))))), .val (.int v31)] [(.int (0 : Int32))])) _
        exact k
    refine j37 _ ?_
    show Steps p.tables e below (T25.setTop (mkF m 137 #[.val (.int p0), .val (.int p1), .val (.int p2), .val (.int p3), .val (.long v7), .second, .val (.long v2), .second, .val (.long v4), .second, .val (.long v6), .second, .val (.ref b8), .val (.int (F5 v6 (fun _ => (0 : Int64)))), .val (.int v24), .val (.int (F5 v2 (bset v4 (bset v2 (fun _ => (0 : Int64)))))), .val (.int v31)] [(.int (if (F5 v6 (fun _ => (0 : Int64))) = (0 : Int32) then (if v24 = v31 then (if (F5 v2 (bset v4 (bset v2 (fun _ => (0 : Int64))))) = (0 : Int32) then (0 : Int32) else (1 : Int32)) else (0 : Int32)) else (0 : Int32)))])) _
    exact k
  obtain ⟨v39, hv39⟩ : ∃ z : Int32, z = (if (F5 v6 (fun _ => (0 : Int64))) = (0 : Int32) then (if v24 = v31 then (if (F5 v2 (bset v4 (bset v2 (fun _ => (0 : Int64))))) = (0 : Int32) then (0 : Int32) else (1 : Int32)) else (0 : Int32)) else (0 : Int32)) := ⟨_, rfl⟩
  have pre39 : Lead p e below G (T25.setTop (mkF m 137 #[.val (.int p0), .val (.int p1), .val (.int p2), .val (.int p3), .val (.long v7), .second, .val (.long v2), .second, .val (.long v4), .second, .val (.long v6), .second, .val (.ref b8), .val (.int (F5 v6 (fun _ => (0 : Int64)))), .val (.int v24), .val (.int (F5 v2 (bset v4 (bset v2 (fun _ => (0 : Int64)))))), .val (.int v31)] [(.int v39)])) := by rw [hv39]; exact pre38
  obtain ⟨fs, hr, hrun, hended, hW, hsame⟩ := X25.leave (v := some (.int (nar .boolean v39))) (fun h => by rw [Bd.returns] at h; cases h)
  subst hG
  refine ⟨_, _, pre39 _ ?_, hrun, hended, _, _, rfl, ?_, ⟨_, rfl⟩, hW, hsame.mono (by decide) (by decide)⟩
  · show Steps p.tables e below (T25.setTop (mkF m 137 #[.val (.int p0), .val (.int p1), .val (.int p2), .val (.int p3), .val (.long v7), .second, .val (.long v2), .second, .val (.long v4), .second, .val (.long v6), .second, .val (.ref b8), .val (.int (F5 v6 (fun _ => (0 : Int64)))), .val (.int v24), .val (.int (F5 v2 (bset v4 (bset v2 (fun _ => (0 : Int64)))))), .val (.int v31)] [(.int v39)])) _
    exact retN X25 hx (t := .boolean) Bd.returns (by simp) (hb hby at_137) hr
  · show Q0 Z p0 p1 p2 p3 h0 n0 _ T25.heap _
    refine ⟨congrArg (fun z => some (Value.int z)) (Eq.trans (?_ : (nar .boolean v39) = F0 p0 p1 p2 p3) (own_law p0 p1 p2 p3)), N25⟩
    subst hv39 hv31 hv24 hv7 hv6 hv4 hv2
    rfl
set_option maxRecDepth 65536 in
set_option maxHeartbeats 40000000 in
theorem comes_1 {Post : Tables → Env → Array Value → State → Outcome → State → Prop} (hpost : ∀ tb e args s v u, (limb_1_1.after args s (.returned v) u = true ∧ limb_1_2.after args s (.returned v) u = true ∧ True) → FrameEnd s (.returned v) u (Jvm.fieldLocs frame_1_writes args s ++ Jvm.arrayLocs frame_1_arrays args s ++ Jvm.staticLocs frame_1_statics s) 16 128 → Post tb e args s (.returned v) u) :
    ArmFor flags0 classFile x code maxLocals ret World_1 tables_1 room_1 Calls_1 rest_1 Pre_1 Post := by
  intro l hfl _ _ p e ha hc hk s m args below hf hA hF happ hP
  obtain ⟨hcalls, hrest, hpre⟩ := hP
  obtain ⟨-, -, -, hnamed, -, -, -, hat⟩ := (Spec.applies_iff hf).mp happ
  obtain ⟨hg, hn⟩ := and_e (Cond.before_iff.mp (show (Jvm.Cond.and given_1 narrow_1).before args s = true from hpre))
  obtain ⟨g1, g2⟩ := and_e hg
  obtain ⟨g3, g4⟩ := and_e g2
  obtain ⟨g5, g6⟩ := and_e g4
  obtain ⟨g7, g8⟩ := and_e g6
  obtain ⟨w0, w1, w2, w3, rfl⟩ : ∃ w0 w1 w2 w3 : Value, args = #[w0, w1, w2, w3] := by
    have hs : args.size = 4 := by simpa [Cond.value, given_1] using g1
    obtain ⟨L⟩ := args
    match L, hs with
    | [w0, w1, w2, w3], _ => exact ⟨w0, w1, w2, w3, rfl⟩
  have hw := fun d (hd : d ∈ tables_1) => atoms_spec (ws := Jvm.Cond.code x code maxLocals ret :: tables_1) hat d (List.mem_cons_of_mem _ hd)
  obtain ⟨i0, ei0⟩ := is_v g3
  obtain rfl : w0 = (.int i0) := Option.some.inj ei0
  obtain ⟨i1, ei1⟩ := is_v g5
  obtain rfl : w1 = (.int i1) := Option.some.inj ei1
  obtain ⟨i2, ei2⟩ := is_v g7
  obtain rfl : w2 = (.int i2) := Option.some.inj ei2
  obtain ⟨i3, ei3⟩ := is_v g8
  obtain rfl : w3 = (.int i3) := Option.some.inj ei3
  obtain ⟨n, o, h1, h2, h3, _, L, rfl, ⟨rfl, N⟩, hq⟩ := rm0 l s _ hw tables_1 i0 i1 i2 i3 s.heap s.heap.size (Nat.le_refl _) p e ha hc hk s m _ below hf ((Spec.applies_iff_loose hf).mp happ).1 ⟨rfl, State.Warmed39.refl s, rfl⟩ trivial
  refine ⟨n, _, h1, h2, h3, hpost _ _ _ _ _ _ ⟨Cond.after_iff.mpr rfl, Cond.after_iff.mpr (eq_i res_at (Term.int_eval (1)) rfl), trivial⟩ ⟨hq.1, hq.2.1, (hq.2.2.sift fun y hy => Or.inr (N y hy)).mono (by decide) (by decide)⟩⟩
theorem main_1_1 : Claimed_1_1 := comes_1 fun _ _ _ _ _ _ h hF => ⟨h.1, hF⟩
theorem main_1_2 : Claimed_1_2 := comes_1 fun _ _ _ _ _ _ h hF => ⟨h.2.1, hF⟩
end Jvm.Pilot.@@N@@
namespace Jvm.Pilot.@@N@@
open Jvm Jvm.ClassFile Sem Op Lib Jvm.Free Jvm.Stand Jvm.Pilot.@@N@@.Jvm.D
/-! MADE BY PROGRAM (witnessworld.py) out of the Statement's table words and the real class files: 11 classes; the members and pool entries that the words name. The judged class is class 1, her method 1. -/
namespace start1
open Jvm.ClassFile
def u (s : String) : CpInfo := .utf8 (stringToUtf16 s)
/-- a pool by its gaps: so many unusable entries, then the entry; so many at the end -/
def gap : Nat → List CpInfo → List CpInfo
  | 0, r => r
  | n + 1, r => .unusable :: gap n r
def poolList (es : List (Nat × CpInfo)) (last : Nat) : List CpInfo := es.foldr (fun e r => gap e.1 (e.2 :: r)) (gap last [])
def pool (es : List (Nat × CpInfo)) (last : Nat) : Array CpInfo := ⟨poolList es last⟩
def fileOf (pool : Array CpInfo) (this : Nat) (attrs : Array Attribute := #[]) (ms : Array MethodInfo := #[]) (fl : Nat := 33) (sup : Nat := 0) (ifs : Array Nat := #[]) (fds : Array FieldInfo := #[]) : ClassFile where
  minorVersion := 0
  majorVersion := 65
  constantPool := pool
  accessFlags := fl
  thisClass := this
  superClass := sup
  interfaces := ifs
  fields := fds
  methods := ms
  attributes := attrs
def plain (name : String) (sup : Option ClassId) : Class where
  name := name
  kind := .ordinary
  loader := none
  accessFlags := 33
  super := sup
  interfaces := #[]
  cf := none
  fields := #[]
  methods := #[]
  instanceTypes := #[]
  staticTypes := #[]
  resolved := #[]
  callSites := []
  init := .initialized
  statics := none
  mirror := none

def pool0 : Array CpInfo := pool [(5, u "<init>"), (0, u "()V"), (1, .class_ 10), (1, u "java/lang/Object")] 113

def k0c0 : Code := { maxStack := 0, maxLocals := 1, code := object_method_1_code, exceptionTable := #[], attributes := #[] }
def k0m0 : Method := { name := "<init>", desc := "()V", sig := { parameters := [], returnType := none }, accessFlags := 1, code := some k0c0 }
/-- java/lang/Object -/
def k0 : Class := { plain "java/lang/Object" none with
  accessFlags := 33
  interfaces := #[]
  cf := some (fileOf pool0 8 #[] #[{ accessFlags := 1, nameIndex := 5, descriptorIndex := 6, attributes := #[] }] 33 0 #[] #[])
  fields := #[]
  methods := #[k0m0]
  instanceTypes := #[]
  staticTypes := #[]
  resolved := Array.replicate 124 none
  statics := none }

def pool1 : Array CpInfo := pool [(2, .class_ 4), (1, u "java/lang/Object"), (0, u "<init>"), (0, u "()V"), (0, .integer 2147483647), (0, .class_ 9), (0, u "com/example/libnear/libnear/core/BitArray"), (0, .methodref 8 11), (0, .nameAndType 5 12), (0, u "(J)V"), (0, .methodref 8 14), (0, .nameAndType 15 16), (0, u "get"), (0, u "(J)Z"), (0, .methodref 8 18), (0, .nameAndType 19 12), (0, u "set"), (0, .class_ 21), (0, u "com/example/libnear/libnear/core/BitArrayGetPinLaw"), (2, u "law"), (0, u "(IIII)Z")] 3

def k1m0 : Method := { name := "<init>", desc := "()V", sig := { parameters := [], returnType := none }, accessFlags := 1, code := none }
def k1c1 : Code := { maxStack := 4, maxLocals := 17, code := code, exceptionTable := #[], attributes := #[] }
def k1m1 : Method := { name := "law", desc := "(IIII)Z", sig := { parameters := [.int, .int, .int, .int], returnType := some .boolean }, accessFlags := 9, code := some k1c1 }
/-- com/example/libnear/libnear/core/BitArrayGetPinLaw -/
def k1 : Class := { plain "com/example/libnear/libnear/core/BitArrayGetPinLaw" (some 0) with
  accessFlags := 49
  interfaces := #[]
  cf := some (fileOf pool1 20 #[] #[{ accessFlags := 1, nameIndex := 5, descriptorIndex := 6, attributes := #[] }, { accessFlags := 9, nameIndex := 24, descriptorIndex := 25, attributes := #[] }] 49 2 #[] #[])
  fields := #[]
  methods := #[k1m0, k1m1]
  instanceTypes := #[]
  staticTypes := #[]
  resolved := Array.replicate 29 none
  statics := none }

def pool2 : Array CpInfo := pool [(3, .methodref 4 5), (0, .class_ 6), (0, .nameAndType 7 8), (0, u "com/example/libnear/libnear/core/BitArray"), (0, u "wordCount"), (0, u "(J)I"), (0, .methodref 4 10), (0, .nameAndType 11 12), (0, u "<init>"), (0, u "(J[J)V"), (0, .methodref 14 15), (0, .class_ 16), (0, .nameAndType 11 17), (0, u "java/lang/Object"), (0, u "()V"), (0, .fieldref 4 19), (0, .nameAndType 20 21), (0, u "size"), (0, u "J"), (0, .fieldref 4 23), (0, .nameAndType 24 25), (0, u "words"), (0, u "[J"), (0, .long 64), (48, u "(J)V"), (9, u "get"), (0, u "WORD_BITS"), (0, u "I"), (2, u "CHUNK_WORDS"), (3, u "set"), (0, u "(J)Z")] 15

def k2c0 : Code := { maxStack := 5, maxLocals := 3, code := prog_37_method_1_code, exceptionTable := #[], attributes := #[] }
def k2m0 : Method := { name := "<init>", desc := "(J)V", sig := { parameters := [.long], returnType := none }, accessFlags := 0, code := some k2c0 }
def k2c1 : Code := { maxStack := 3, maxLocals := 4, code := prog_37_method_2_code, exceptionTable := #[], attributes := #[] }
def k2m1 : Method := { name := "<init>", desc := "(J[J)V", sig := { parameters := [.long, (.array .long)], returnType := none }, accessFlags := 2, code := some k2c1 }
def k2c2 : Code := { maxStack := 4, maxLocals := 2, code := prog_37_method_3_code, exceptionTable := #[], attributes := #[] }
def k2m2 : Method := { name := "wordCount", desc := "(J)I", sig := { parameters := [.long], returnType := some .int }, accessFlags := 8, code := some k2c2 }
def k2c3 : Code := { maxStack := 10, maxLocals := 3, code := prog_37_method_4_code, exceptionTable := #[], attributes := #[] }
def k2m3 : Method := { name := "set", desc := "(J)V", sig := { parameters := [.long], returnType := none }, accessFlags := 0, code := some k2c3 }
def k2c4 : Code := { maxStack := 8, maxLocals := 3, code := prog_37_method_5_code, exceptionTable := #[], attributes := #[] }
def k2m4 : Method := { name := "get", desc := "(J)Z", sig := { parameters := [.long], returnType := some .boolean }, accessFlags := 0, code := some k2c4 }
/-- com/example/libnear/libnear/core/BitArray -/
def k2 : Class := { plain "com/example/libnear/libnear/core/BitArray" (some 0) with
  accessFlags := 32
  interfaces := #[]
  cf := some (fileOf pool2 4 #[] #[{ accessFlags := 0, nameIndex := 11, descriptorIndex := 75, attributes := #[] }, { accessFlags := 2, nameIndex := 11, descriptorIndex := 12, attributes := #[] }, { accessFlags := 8, nameIndex := 7, descriptorIndex := 8, attributes := #[] }, { accessFlags := 0, nameIndex := 94, descriptorIndex := 75, attributes := #[] }, { accessFlags := 0, nameIndex := 85, descriptorIndex := 95, attributes := #[] }] 32 14 #[] #[{ accessFlags := 26, nameIndex := 86, descriptorIndex := 87, attributes := #[] }, { accessFlags := 26, nameIndex := 90, descriptorIndex := 87, attributes := #[] }, { accessFlags := 18, nameIndex := 20, descriptorIndex := 21, attributes := #[] }, { accessFlags := 18, nameIndex := 24, descriptorIndex := 25, attributes := #[] }])
  fields := #[{ name := "WORD_BITS", type := .int, accessFlags := 26, slot := 0, constantValue := 0 }, { name := "CHUNK_WORDS", type := .int, accessFlags := 26, slot := 1, constantValue := 0 }, { name := "size", type := .long, accessFlags := 18, slot := 0, constantValue := 0 }, { name := "words", type := (.array .long), accessFlags := 18, slot := 1, constantValue := 0 }]
  methods := #[k2m0, k2m1, k2m2, k2m3, k2m4]
  instanceTypes := #[.long, (.array .long)]
  staticTypes := #[.int, .int]
  resolved := Array.replicate 111 none
  statics := none }

def pool3 : Array CpInfo := pool [(1, u "java/lang/Cloneable"), (0, .class_ 1), (0, u "java/lang/Object"), (0, .class_ 3)] 3

/-- java/lang/Cloneable -/
def k3 : Class := { plain "java/lang/Cloneable" (some 0) with
  accessFlags := 1537
  interfaces := #[]
  cf := some (fileOf pool3 2 #[] #[] 1537 4 #[] #[])
  fields := #[]
  methods := #[]
  instanceTypes := #[]
  staticTypes := #[]
  resolved := Array.replicate 8 none
  statics := none }

def pool4 : Array CpInfo := pool [(1, u "java/io/Serializable"), (0, .class_ 1), (0, u "java/lang/Object"), (0, .class_ 3)] 3

/-- java/io/Serializable -/
def k4 : Class := { plain "java/io/Serializable" (some 0) with
  accessFlags := 1537
  interfaces := #[]
  cf := some (fileOf pool4 2 #[] #[] 1537 4 #[] #[])
  fields := #[]
  methods := #[]
  instanceTypes := #[]
  staticTypes := #[]
  resolved := Array.replicate 8 none
  statics := none }

/-- the primitive byte -/
def k5 : Class := { plain "byte" none with kind := .primitive 'B', accessFlags := 0x411 }
/-- [B -/
def k6 : Class := { plain "[B" (some 0) with kind := .array 5 .byte, interfaces := #[3, 4], accessFlags := 1041 }

/-- the primitive int -/
def k7 : Class := { plain "int" none with kind := .primitive 'I', accessFlags := 0x411 }
/-- [I -/
def k8 : Class := { plain "[I" (some 0) with kind := .array 7 .int, interfaces := #[3, 4], accessFlags := 1041 }

/-- the primitive long -/
def k9 : Class := { plain "long" none with kind := .primitive 'J', accessFlags := 0x411 }
/-- [J -/
def k10 : Class := { plain "[J" (some 0) with kind := .array 9 .long, interfaces := #[3, 4], accessFlags := 1041 }

def heap : Heap := #[]
def classes : Array Class := #[k0, k1, k2, k3, k4, k5, k6, k7, k8, k9, k10]
def interned : List (Array UInt16 × Addr) := []
def slotsUsed : Nat := 0
def theMethod : MethodId := ⟨1, 1⟩
def args0 : Array Value := #[.int 5, .int 9, .int 9, .int 9]
def aboutOver (below : List Frame) : State where
  vm := { classes := classes, interned := interned.toArray }
  heap := heap
  slotsUsed := slotsUsed
  threads := #[{ frames := .invoking theMethod args0 :: below }]
def below0 : List Frame := [.native { method := ⟨0, 0⟩, args := #[] }]
def about1 : State := aboutOver below0
def p0 : Program := .bare "" "" ""
def e0 : Env := launch0.env 0 0 0
theorem w_frames : about1.frames = Frame.invoking theMethod args0 :: below0 := rfl
set_option maxRecDepth 65536 in
theorem w_args : argsFit about1.vm theMethod args0 = true := by decide +kernel
set_option maxRecDepth 65536 in
theorem w_heap : heapFits about1 = true := by decide +kernel
set_option maxRecDepth 65536 in
theorem w_runnable : about1.curStatus? = some .runnable := by decide +kernel
set_option maxRecDepth 65536 in
theorem w_alone : about1.alone = true := by decide +kernel
set_option maxRecDepth 65536 in
theorem w_named : about1.methodNamed? x = some theMethod := by decide +kernel
set_option maxRecDepth 65536 in
theorem w_hears : about1.hears theMethod below0 = true := by decide +kernel
set_option maxRecDepth 65536 in
theorem w_ripe : about1.ripe theMethod args0 below0 = true := by decide +kernel
theorem w_running : about1.status = .running := rfl
set_option maxRecDepth 65536 in
theorem w_room : about1.hasRoom e0.platform room_1 = true :=
  launch0.hasRoom_least _ room_1 (by decide +kernel) (by decide +kernel) (by decide +kernel) (by decide +kernel) (by decide +kernel) (by decide +kernel)
theorem allAtoms_all (ts : List Jvm.Cond) (a : Array Jvm.Value) (st : Jvm.State) : (allAtoms ts).before a st = ts.all (fun c => c.before a st) := by
  induction ts with
  | nil => rfl
  | cons c t ih =>
    show (Jvm.Cond.and c (allAtoms t)).before a st = _
    rw [Jvm.Cond.before_and, ih, List.all_cons]
def words1 : List Jvm.Cond := Jvm.Cond.code x code maxLocals ret :: tables_1
/-- a 'code' word, met by the world's own term for the bytes: nothing is compared byte by byte -/
theorem code_word {y : MethodName} {bytes : ByteArray} {mx : Nat} {rt : Option FieldType} {a : Array Value} {s : State} {m : MethodId} {meth : Method} {c : Code} (h1 : s.methodNamed? y = some m) (h2 : s.vm.method? m = some meth) (h3 : meth.code = some c) (h4 : c.code = bytes)
    (h5 : (c.maxLocals == mx && c.exceptionTable.isEmpty && decide (c.maxStack ≤ mostOperands) && decide (meth.sig.returnType = rt) && !meth.locks && decide (parseMethodDescriptor y.desc = some meth.sig)) = true) : (Jvm.Cond.code y bytes mx rt).before a s = true := by
  simp only [Bool.and_eq_true, beq_iff_eq, Bool.not_eq_true', decide_eq_true_eq] at h5
  obtain ⟨⟨⟨⟨⟨g1, g2⟩, g3⟩, g4⟩, g5⟩, g6⟩ := h5
  simp [Cond.before, Cond.holds, Cond.value, h1, h2, h3, h4, g1, g2, g3, g4, g5, g6]
def isCode : Jvm.Cond → Bool
  | .code _ _ _ _ => true
  | _ => false
theorem all_split {L : List Jvm.Cond} {P : Jvm.Cond → Bool} (h1 : L.all (fun c => isCode c || P c) = true) (h2 : ∀ c ∈ L.filter isCode, P c = true) : L.all P = true := by
  refine List.all_eq_true.mpr fun c hc => ?_
  have h := List.all_eq_true.mp h1 c hc
  rcases Bool.eq_false_or_eq_true (isCode c) with hi | hi
  · exact h2 c (List.mem_filter.mpr ⟨hc, hi⟩)
  · simpa [hi] using h
set_option maxRecDepth 65536 in
theorem w_c0 : (Jvm.Cond.code x code maxLocals ret).before args0 about1 = true := code_word (m := ⟨1, 1⟩) (meth := k1m1) (c := k1c1) (by decide +kernel) rfl rfl rfl (by decide +kernel)
set_option maxRecDepth 65536 in
theorem w_c1 : (Jvm.Cond.code ({ cls := "com/example/libnear/libnear/core/BitArray", name := "<init>", desc := "(J)V" } : Jvm.MethodName) prog_37_method_1_code (3 : Nat) (Option.none : Option Jvm.ClassFile.FieldType)).before args0 about1 = true := code_word (m := ⟨2, 0⟩) (meth := k2m0) (c := k2c0) (by decide +kernel) rfl rfl rfl (by decide +kernel)
set_option maxRecDepth 65536 in
theorem w_c2 : (Jvm.Cond.code ({ cls := "com/example/libnear/libnear/core/BitArray", name := "wordCount", desc := "(J)I" } : Jvm.MethodName) prog_37_method_3_code (2 : Nat) (Option.some Jvm.ClassFile.FieldType.int)).before args0 about1 = true := code_word (m := ⟨2, 2⟩) (meth := k2m2) (c := k2c2) (by decide +kernel) rfl rfl rfl (by decide +kernel)
set_option maxRecDepth 65536 in
theorem w_c3 : (Jvm.Cond.code ({ cls := "com/example/libnear/libnear/core/BitArray", name := "<init>", desc := "(J[J)V" } : Jvm.MethodName) prog_37_method_2_code (4 : Nat) (Option.none : Option Jvm.ClassFile.FieldType)).before args0 about1 = true := code_word (m := ⟨2, 1⟩) (meth := k2m1) (c := k2c1) (by decide +kernel) rfl rfl rfl (by decide +kernel)
set_option maxRecDepth 65536 in
theorem w_c4 : (Jvm.Cond.code ({ cls := "java/lang/Object", name := "<init>", desc := "()V" } : Jvm.MethodName) object_method_1_code (1 : Nat) (Option.none : Option Jvm.ClassFile.FieldType)).before args0 about1 = true := code_word (m := ⟨0, 0⟩) (meth := k0m0) (c := k0c0) (by decide +kernel) rfl rfl rfl (by decide +kernel)
set_option maxRecDepth 65536 in
theorem w_c5 : (Jvm.Cond.code ({ cls := "com/example/libnear/libnear/core/BitArray", name := "get", desc := "(J)Z" } : Jvm.MethodName) prog_37_method_5_code (3 : Nat) (Option.some Jvm.ClassFile.FieldType.boolean)).before args0 about1 = true := code_word (m := ⟨2, 4⟩) (meth := k2m4) (c := k2c4) (by decide +kernel) rfl rfl rfl (by decide +kernel)
set_option maxRecDepth 65536 in
theorem w_c6 : (Jvm.Cond.code ({ cls := "com/example/libnear/libnear/core/BitArray", name := "set", desc := "(J)V" } : Jvm.MethodName) prog_37_method_4_code (3 : Nat) (Option.none : Option Jvm.ClassFile.FieldType)).before args0 about1 = true := code_word (m := ⟨2, 3⟩) (meth := k2m3) (c := k2c3) (by decide +kernel) rfl rfl rfl (by decide +kernel)
def codes1 : List Jvm.Cond := [Jvm.Cond.code x code maxLocals ret, Jvm.Cond.code ({ cls := "com/example/libnear/libnear/core/BitArray", name := "<init>", desc := "(J)V" } : Jvm.MethodName) prog_37_method_1_code (3 : Nat) (Option.none : Option Jvm.ClassFile.FieldType), Jvm.Cond.code ({ cls := "com/example/libnear/libnear/core/BitArray", name := "wordCount", desc := "(J)I" } : Jvm.MethodName) prog_37_method_3_code (2 : Nat) (Option.some Jvm.ClassFile.FieldType.int), Jvm.Cond.code ({ cls := "com/example/libnear/libnear/core/BitArray", name := "<init>", desc := "(J[J)V" } : Jvm.MethodName) prog_37_method_2_code (4 : Nat) (Option.none : Option Jvm.ClassFile.FieldType), Jvm.Cond.code ({ cls := "java/lang/Object", name := "<init>", desc := "()V" } : Jvm.MethodName) object_method_1_code (1 : Nat) (Option.none : Option Jvm.ClassFile.FieldType), Jvm.Cond.code ({ cls := "com/example/libnear/libnear/core/BitArray", name := "get", desc := "(J)Z" } : Jvm.MethodName) prog_37_method_5_code (3 : Nat) (Option.some Jvm.ClassFile.FieldType.boolean), Jvm.Cond.code ({ cls := "com/example/libnear/libnear/core/BitArray", name := "set", desc := "(J)V" } : Jvm.MethodName) prog_37_method_4_code (3 : Nat) (Option.none : Option Jvm.ClassFile.FieldType)]
set_option maxRecDepth 65536 in
theorem codes_eq : words1.filter isCode = codes1 := rfl
theorem w_codes : ∀ c ∈ words1.filter isCode, c.before args0 about1 = true := by
  rw [codes_eq]
  intro c hc
  simp only [codes1, List.mem_cons, List.not_mem_nil, or_false] at hc
  rcases hc with rfl | rfl | rfl | rfl | rfl | rfl | rfl
  · exact w_c0
  · exact w_c1
  · exact w_c2
  · exact w_c3
  · exact w_c4
  · exact w_c5
  · exact w_c6
set_option maxRecDepth 65536 in
theorem w_t1 : (words1.take 24).all (fun c => isCode c || c.before args0 about1) = true := by decide +kernel
set_option maxRecDepth 65536 in
theorem w_t2 : (words1.drop 24).all (fun c => isCode c || c.before args0 about1) = true := by decide +kernel
theorem w_tables : (allAtoms (Jvm.Cond.code x code maxLocals ret :: tables_1)).before args0 about1 = true := by
  rw [allAtoms_all]
  show words1.all (fun c => c.before args0 about1) = true
  refine all_split ?_ w_codes
  rw [← List.take_append_drop 24 words1, List.all_append, w_t1, w_t2]
  rfl
set_option maxRecDepth 65536 in
theorem w_case : (Jvm.Cond.and given_1 narrow_1).before args0 about1 = true := by decide +kernel
theorem w_applies : (headSpec (Jvm.Cond.code x code maxLocals ret :: tables_1) room_1).applies x e0.platform about1 = true :=
  (Spec.applies_iff w_frames).mpr ⟨w_running, w_runnable, w_alone, w_named, w_hears, w_ripe, w_room, w_tables⟩
theorem atStart : AtStart classFile x code maxLocals ret World_1 tables_1 room_1 Calls_1 rest_1 Pre_1 launch0 p0 e0 about1 theMethod args0 below0 :=
  ⟨lists_1, trivial, launch0.admits_env _ _ _, launch0.least_env, fairChoices_fair.cas, fairChoices_fair.clock, w_frames, w_args, w_heap, w_applies, trivial, trivial, w_case⟩
end start1
theorem witness_1 : WitnessClaimed_1 := ⟨start1.p0, start1.e0, start1.about1, start1.theMethod, start1.args0, start1.below0, start1.atStart⟩
end Jvm.Pilot.@@N@@

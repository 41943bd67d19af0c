import JvmDerived
import JvmDerived.Pilot.@@N@@Statement
import JvmDerived.Pilot.@@N@@Code
set_option linter.unusedVariables false
set_option linter.unusedSimpArgs false
@@BLOCK:NumsL.lean.txt@@
@@BLOCK:Masks.lean.txt@@
namespace Jvm.RoadKit
open Sem ClassFile Op Lib Jvm.Stand Jvm.Free Jvm.LawKit
section New
variable {p : Program} {l : Launch} {e : Env} {R : Room} {s : State} {m : MethodId} {args : Array Value} {below : List Frame} {meth : Method} {c : Code} {T : State} {locs : List Loc} {cells slots : Nat}
theorem retI (X : Stand p l e R s m args below meth c T locs cells slots) (hx : p.tables.exec = Jvm.exec) {pc : Nat} {Ls : Array Slot} {z : Int32} {rest : List Value} (hret : meth.sig.returnType = some .int) (hd : decode c.code pc = .ok (.ireturn, 1)) {fs : List Frame}
    (hl : ∀ (f : JFrame) (acts : List Action), f.method = m → f.locked = none → f.entered = [] → (doReturn e (T.setTop f) acts (some (.int z))).1 = T.setFrames fs) : Steps p.tables e below (T.setTop (mkF m pc Ls (.int z :: rest))) (T.setFrames fs) := by
  have hm' : T.vm.method? m = some meth := X.method'
  have hn : narrow .int (.int z) = .int z := rfl
  show Steps p.tables e below (T.setTop { method := m, pc := pc, locals := Ls, stack := _ :: rest, locked := none }) _
  jvm_step X.here [X.here.top, hx, hd, hm', hret, hn]
  first | (intro acts; rw [hl _ acts rfl rfl rfl]) | rw [hl _ _ rfl rfl rfl]
  exact Steps.refl _
theorem retJ (X : Stand p l e R s m args below meth c T locs cells slots) (hx : p.tables.exec = Jvm.exec) {pc : Nat} {Ls : Array Slot} {z : Int64} {rest : List Value} (hret : meth.sig.returnType = some .long) (hd : decode c.code pc = .ok (.lreturn, 1)) {fs : List Frame}
    (hl : ∀ (f : JFrame) (acts : List Action), f.method = m → f.locked = none → f.entered = [] → (doReturn e (T.setTop f) acts (some (.long z))).1 = T.setFrames fs) : Steps p.tables e below (T.setTop (mkF m pc Ls (.long z :: rest))) (T.setFrames fs) := by
  have hm' : T.vm.method? m = some meth := X.method'
  have hn : narrow .long (.long z) = .long z := rfl
  show Steps p.tables e below (T.setTop { method := m, pc := pc, locals := Ls, stack := _ :: rest, locked := none }) _
  jvm_step X.here [X.here.top, hx, hd, hm', hret, hn]
  first | (intro acts; rw [hl _ acts rfl rfl rfl]) | rw [hl _ _ rfl rfl rfl]
  exact Steps.refl _
end New
theorem own_ite {α : Type} {P : Prop} [Decidable P] {f : α → Prop} {a b : α} (ha : f a) (hb : f b) : f (if P then a else b) := by split <;> assumption
theorem own_lc_eq {x y : Int64} : lcmpW x y = 0 ↔ x = y := by rw [lcW]; exact lc_eq x y
theorem own_lc_lt {x y : Int64} : lcmpW x y < 0 ↔ x < y := by rw [lcW]; exact lc_lt x y
theorem own_lc_gt {x y : Int64} : 0 < lcmpW x y ↔ y < x := by rw [lcW]; exact lc_gt x y
end Jvm.RoadKit
namespace Jvm.RoadKit
open Sem ClassFile Op Lib Jvm.Stand Jvm.Free Jvm.LawKit
section Own
variable {Z : State} {h h' : Heap} {a b : Addr} {ty : FieldType} {n j : Int32} {sl : Nat} {v : Value} {ws : List Addr} {α : Type} {mk : α → Value} {g : Nat → α} {w : α}
/-- an array: its kind, its length and, by a function, what it holds -/
def JV (mk : α → Value) (Z : State) (h : Heap) (a : Addr) (ty : FieldType) (n : Int32) (g : Nat → α) : Prop := ∃ c : Cell, Arr Z h a c ty ∧ c.slots.size = n.toNatClampNeg ∧ ¬ n < 0 ∧ ∀ i, i < c.slots.size → c.slots[i]? = some (mk (g i))
def updF (g : Nat → α) (k : Nat) (w : α) : Nat → α := fun i => if i = k then w else g i
theorem JV.lt (F : JV mk Z h a ty n g) : a < h.size := by obtain ⟨c, A, -⟩ := F; exact A.lt
theorem JV.ext (F : JV mk Z h a ty n g) (E : Ext h h') : JV mk Z h' a ty n g := by obtain ⟨c, A, r⟩ := F; exact ⟨c, A.ext E, r⟩
theorem JV.other (F : JV mk Z h b ty n g) (W : Wr h h' a sl v) (q : b ≠ a) : JV mk Z h' b ty n g := by obtain ⟨c, A, r⟩ := F; exact ⟨c, A.other W q, r⟩
theorem JV.keep (F : JV mk Z h a ty n g) (K : Keep h h' ws) (q : a ∉ ws) : JV mk Z h' a ty n g := by obtain ⟨c, A, r⟩ := F; exact ⟨c, ⟨K.2.1 a c A.1 q, A.2⟩, r⟩
theorem JV.new {k : ClassId} (A : Arr Z h a (newA k ty n) ty) (q : ¬ n < 0) (w : α) (hd : defaultValue ty = mk w) : JV mk Z h a ty n (fun _ => w) := by
  obtain ⟨c, A', -, S, N, H, -⟩ := Arv.new A q
  exact ⟨c, A', S, N, fun i hi => by rw [H i hi, hd]; rfl⟩
theorem JV.in (F : JV mk Z h a ty n g) (q : ¬ j < 0 ∧ j < n) : ∃ c : Cell, Arr Z h a c ty ∧ ¬ (j < 0 ∨ c.slots.size ≤ j.toNatClampNeg) ∧ c.slots[j.toNatClampNeg]? = some (mk (g j.toNatClampNeg)) := by
  obtain ⟨c, A, S, N, H⟩ := F
  have hin := inb_of S q
  exact ⟨c, A, hin, H _ (Nat.lt_of_not_le fun y => hin (Or.inr y))⟩
theorem JV.len (F : JV mk Z h a ty n g) : ∃ c : Cell, Arr Z h a c ty ∧ c.slots.size.toInt32 = n := by
  obtain ⟨c, A, S, N, H⟩ := F
  exact ⟨c, A, len_of S N⟩
theorem JV.nn (F : JV mk Z h a ty n g) : ¬ n < 0 := by obtain ⟨c, A, S, N, H⟩ := F; exact N
theorem JV.set (F : JV mk Z h a ty n g) (W : Wr h h' a j.toNatClampNeg (mk w)) : JV mk Z h' a ty n (updF g j.toNatClampNeg w) := by
  obtain ⟨c, A, S, N, H⟩ := F
  refine ⟨_, A.same W, ?_, N, ?_⟩
  · rw [← S]; simp [Cell.setSlot]
  · intro i hi
    have hi' : i < c.slots.size := by simpa [Cell.setSlot] using hi
    obtain ⟨cell, h1, -, h3, rfl⟩ := W
    cases A.1.symm.trans h1
    by_cases e : i = j.toNatClampNeg
    · subst e; simp [Cell.setSlot, updF, hi']
    · rw [show (c.setSlot j.toNatClampNeg (mk w)).slots[i]? = c.slots[i]? from by simp [Cell.setSlot, Array.getElem?_setIfInBounds, Ne.symm e], H i hi']
      simp [updF, e]
end Own
end Jvm.RoadKit
namespace Jvm.Pilot.@@N@@
open Jvm Jvm.ClassFile Sem Op Lib Jvm.Free Jvm.Stand Jvm.LawKit Jvm.RoadKit Bundle Jvm.Pilot.@@N@@.Jvm.D
def Lead (p : Program) (e : Env) (below : List Frame) (A B : State) : Prop := ∀ t, Steps p.tables e below B t → Steps p.tables e below A t
theorem d1_0 : decode prog_63_method_1_code 0 = .ok (.aload_n 0, 1) := by decide +kernel
theorem d1_1 : decode prog_63_method_1_code 1 = .ok (.invokespecial 3, 3) := by decide +kernel
theorem d1_4 : decode prog_63_method_1_code 4 = .ok (.aload_n 0, 1) := by decide +kernel
theorem d1_5 : decode prog_63_method_1_code 5 = .ok (.iload_n 1, 1) := by decide +kernel
theorem d1_6 : decode prog_63_method_1_code 6 = .ok (.putfield 9, 3) := by decide +kernel
theorem d1_9 : decode prog_63_method_1_code 9 = .ok (.aload_n 0, 1) := by decide +kernel
theorem d1_10 : decode prog_63_method_1_code 10 = .ok (.iload_n 2, 1) := by decide +kernel
theorem d1_11 : decode prog_63_method_1_code 11 = .ok (.putfield 15, 3) := by decide +kernel
theorem d1_14 : decode prog_63_method_1_code 14 = .ok (.aload_n 0, 1) := by decide +kernel
theorem d1_15 : decode prog_63_method_1_code 15 = .ok (.aload_n 3, 1) := by decide +kernel
theorem d1_16 : decode prog_63_method_1_code 16 = .ok (.putfield 18, 3) := by decide +kernel
theorem d1_19 : decode prog_63_method_1_code 19 = .ok (.return_, 1) := by decide +kernel
theorem pn_com_example_libnear_libnear_hamming_BitSampling : plainName "com/example/libnear/libnear/hamming/BitSampling" = true := by first | (simp [plainName, overriddenIn]; done) | decide +kernel
theorem ef_1 (m : MethodId) (o0 : Addr) (p1 : Int32) (p2 : Int32) (o3 : Addr) : entryFrame m #[(.ref o0), (.int p1), (.int p2), (.ref o3)] 4 = mkF m 0 #[.val (.ref o0), .val (.int p1), .val (.int p2), .val (.ref o3)] [] := by first | (simp [entryFrame, mkF, argsToLocals, Value.category]; done) | rfl
def Q1 (Z : State) (o0 : Addr) (p1 : Int32) (p2 : Int32) (o3 : Addr)  (h0 : Heap) (n0 : Nat) (v : Option Value) (h : Heap) (L : List Loc) : Prop := v = none ∧ Fr n0 L ∧ Keep h0 h [o0] ∧ Exa Z h o0 "com/example/libnear/libnear/hamming/BitSampling" ∧ Fld Z h o0 "com/example/libnear/libnear/hamming/BitSampling" "sample" "I" (.int p2)
set_option maxRecDepth 65536 in
set_option maxHeartbeats 40000000 in
theorem rm1 (l : Launch) (Z : State) (a0 : Array Value) (hw : ∀ d ∈ tables_1, d.before a0 Z = true) (ws : List Jvm.Cond) (o0 : Addr) (p1 : Int32) (p2 : Int32) (o3 : Addr)  (h0 : Heap) (n0 : Nat) (Z0 : n0 ≤ h0.size) (P0_E : Exa Z h0 o0 "com/example/libnear/libnear/hamming/BitSampling") (P1_G : n0 ≤ o0) (P2_F : Fld Z h0 o0 "com/example/libnear/libnear/hamming/BitSampling" "length" "I" (.int (0 : Int32))) (P3_F : Fld Z h0 o0 "com/example/libnear/libnear/hamming/BitSampling" "sample" "I" (.int (0 : Int32))) (P4_F : Fld Z h0 o0 "com/example/libnear/libnear/hamming/BitSampling" "positions" "[I" .null) :
    MetFree l (⟨"com/example/libnear/libnear/hamming/BitSampling", "<init>", "(II[I)V"⟩ : MethodName) (head1 (Jvm.Cond.code (⟨"com/example/libnear/libnear/hamming/BitSampling", "<init>", "(II[I)V"⟩ : MethodName) prog_63_method_1_code 4 none :: ws) ({ frames := 1, cells := 0, slots := 0, locals := 12 } : Room)) (fun a U => a = #[(.ref o0), (.int p1), (.int p2), (.ref o3)] ∧ Z.Warmed39 U.vm ∧ U.heap = h0) (fun _ _ _ _ _ => True) (fun _ U o U' => ∃ v L, o = .returned v ∧ Q1 Z o0 p1 p2 o3 h0 n0 v U'.heap L ∧ FrameEnd U o U' L ({ frames := 1, cells := 0, slots := 0, locals := 12 } : Room).cells ({ frames := 1, cells := 0, slots := 0, locals := 12 } : Room).slots) := by
  refine MetFree.of_bodySF (plainFor_of_name pn_com_example_libnear_libnear_hamming_BitSampling) hisR ?_
  intro p e s m args below meth c s₁ Bd hml0 hP hK
  obtain ⟨rfl, hZ, hh⟩ := hP
  have hx := Bd.exec
  have hby := Bd.bytes
  have hml : c.maxLocals = 4 := hml0
  have hown : s.vm.findClass "com/example/libnear/libnear/hamming/BitSampling" = some m.cls := findClass_of_methodNamed Bd.named
  have hnm := (name_of_methodNamed Bd.named Bd.method).1
  have X0 : Stand p l e ({ frames := 1, cells := 0, slots := 0, locals := 12 } : Room) s m #[(.ref o0), (.int p1), (.int p2), (.ref o3)] below meth c s₁ [] 0 0 := Stand.of_body Bd
  have e0 : s₁.heap = h0 := by rw [← hh, Bd.state]; rfl
  have N0 := Fr.nil n0
  have K0 : Keep h0 h0 [o0] := Keep.refl _ _
  obtain ⟨G, hG⟩ : ∃ z, z = s₁.setTop (entryFrame m #[(.ref o0), (.int p1), (.int p2), (.ref o3)] 4) := ⟨_, rfl⟩
  have pre0 : Lead p e below G (s₁.setTop (mkF m 0 #[.val (.ref o0), .val (.int p1), .val (.int p2), .val (.ref o3)] [])) := fun t k => by rw [hG]; exact castTop (ef_1 m o0 p1 p2 o3) k
  have pre1 : Lead p e below G (s₁.setTop (mkF m 1 #[.val (.ref o0), .val (.int p1), .val (.int p2), .val (.ref o3)] [(.ref o0)])) := fun t k => by
    refine pre0 t ?_
    show Steps p.tables e below (s₁.setTop (mkF m 0 #[.val (.ref o0), .val (.int p1), .val (.int p2), .val (.ref o3)] [])) _
    refine XS.aloadN X0.here hx rfl (hb hby d1_0) rfl rfl ?_
    show Steps p.tables e below (s₁.setTop (mkF m 1 #[.val (.ref o0), .val (.int p1), .val (.int p2), .val (.ref o3)] [(.ref o0)])) _
    exact k
  obtain ⟨T2, X2, e2, st2⟩ := initO X0 hx hZ hown (hw _ (List.mem_of_getElem? (i := 8) rfl)) (hw _ (List.mem_of_getElem? (i := 9) rfl)) (hw _ (List.mem_of_getElem? (i := 10) rfl)) e0 (g := (mkF m 1 #[.val (.ref o0), .val (.int p1), .val (.int p2), .val (.ref o3)] [(.ref o0)])) rfl (by rw [hml]; rfl) rfl (hb hby d1_1) (by decide) (W := 0) (by show 2 * 0 + _ ≤ _; exact Nat.le_of_eq rfl) (by decide)
  have pre2 : Lead p e below G (T2.setTop (mkF m 4 #[.val (.ref o0), .val (.int p1), .val (.int p2), .val (.ref o3)] [])) := fun t k => pre1 t (st2 _ k)
  have pre3 : Lead p e below G (T2.setTop (mkF m 6 #[.val (.ref o0), .val (.int p1), .val (.int p2), .val (.ref o3)] [(.int p1), (.ref o0)])) := fun t k => by
    refine pre2 t ?_
    show Steps p.tables e below (T2.setTop (mkF m 4 #[.val (.ref o0), .val (.int p1), .val (.int p2), .val (.ref o3)] [])) _
    refine XS.aloadN X2.here hx rfl (hb hby d1_4) rfl rfl ?_
    show Steps p.tables e below (T2.setTop (mkF m 5 #[.val (.ref o0), .val (.int p1), .val (.int p2), .val (.ref o3)] [(.ref o0)])) _
    refine XS.iloadN X2.here hx rfl (hb hby d1_5) rfl ?_
    show Steps p.tables e below (T2.setTop (mkF m 6 #[.val (.ref o0), .val (.int p1), .val (.int p2), .val (.ref o3)] [(.int p1), (.ref o0)])) _
    exact k
  obtain ⟨T4, h4, X4, e4, W4, st4⟩ := putF X2 hx hZ hown (host := "") (Or.inl (hw _ (List.mem_of_getElem? (i := 11) rfl))) Via.refl e2 P2_F P0_E (Or.inr ⟨(hw _ (List.mem_of_getElem? (i := 12) rfl)), rfl, hnm⟩) (hw _ (List.mem_of_getElem? (i := 2) rfl)) (ty := .int) (by decide) rfl rfl (g := (mkF m 6 #[.val (.ref o0), .val (.int p1), .val (.int p2), .val (.ref o3)] [(.int p1), (.ref o0)])) rfl rfl (hb hby d1_6)
  have N4 := Fr.snoc X4 N0 P1_G
  have K4 : Keep h0 h4 [o0] := K0.wr W4 (Or.inl (List.mem_of_getElem? (i := 0) rfl))
  obtain ⟨M4, Y4, N4⟩ : ∃ M, Stand p l e ({ frames := 1, cells := 0, slots := 0, locals := 12 } : Room) s m #[(.ref o0), (.int p1), (.int p2), (.ref o3)] below meth c T4 M 0 0 ∧ Fr n0 M := ⟨_, X4, N4⟩
  have Fw4 : Fld Z h4 o0 "com/example/libnear/libnear/hamming/BitSampling" "length" "I" (.int p1) := P2_F.same W4
  have pre4 : Lead p e below G (T4.setTop (mkF m 9 #[.val (.ref o0), .val (.int p1), .val (.int p2), .val (.ref o3)] [])) := fun t k => pre3 t (st4 _ k)
  have pre5 : Lead p e below G (T4.setTop (mkF m 11 #[.val (.ref o0), .val (.int p1), .val (.int p2), .val (.ref o3)] [(.int p2), (.ref o0)])) := fun t k => by
    refine pre4 t ?_
    show Steps p.tables e below (T4.setTop (mkF m 9 #[.val (.ref o0), .val (.int p1), .val (.int p2), .val (.ref o3)] [])) _
    refine XS.aloadN Y4.here hx rfl (hb hby d1_9) rfl rfl ?_
    show Steps p.tables e below (T4.setTop (mkF m 10 #[.val (.ref o0), .val (.int p1), .val (.int p2), .val (.ref o3)] [(.ref o0)])) _
    refine XS.iloadN Y4.here hx rfl (hb hby d1_10) rfl ?_
    show Steps p.tables e below (T4.setTop (mkF m 11 #[.val (.ref o0), .val (.int p1), .val (.int p2), .val (.ref o3)] [(.int p2), (.ref o0)])) _
    exact k
  have f7 : Fld Z h4 o0 "com/example/libnear/libnear/hamming/BitSampling" "sample" "I" (.int (0 : Int32)) := (P3_F.other W4 (Or.inr (slot_ne (Or.inr (hw _ (List.mem_of_getElem? (i := 14) rfl))) (Or.inr (hw _ (List.mem_of_getElem? (i := 12) rfl))) (by decide) (t := .int) (t' := .int) (by decide) (by decide))))
  have f8 : Exa Z h4 o0 "com/example/libnear/libnear/hamming/BitSampling" := (P0_E.wr W4)
  obtain ⟨T6, h6, X6, e6, W6, st6⟩ := putF Y4 hx hZ hown (host := "") (Or.inl (hw _ (List.mem_of_getElem? (i := 13) rfl))) Via.refl e4 f7 f8 (Or.inr ⟨(hw _ (List.mem_of_getElem? (i := 14) rfl)), rfl, hnm⟩) (hw _ (List.mem_of_getElem? (i := 2) rfl)) (ty := .int) (by decide) rfl rfl (g := (mkF m 11 #[.val (.ref o0), .val (.int p1), .val (.int p2), .val (.ref o3)] [(.int p2), (.ref o0)])) rfl rfl (hb hby d1_11)
  have N6 := Fr.snoc X6 N4 P1_G
  have K6 : Keep h0 h6 [o0] := K4.wr W6 (Or.inl (List.mem_of_getElem? (i := 0) rfl))
  obtain ⟨M6, Y6, N6⟩ : ∃ M, Stand p l e ({ frames := 1, cells := 0, slots := 0, locals := 12 } : Room) s m #[(.ref o0), (.int p1), (.int p2), (.ref o3)] below meth c T6 M 0 0 ∧ Fr n0 M := ⟨_, X6, N6⟩
  have Fw6 : Fld Z h6 o0 "com/example/libnear/libnear/hamming/BitSampling" "sample" "I" (.int p2) := f7.same W6
  have pre6 : Lead p e below G (T6.setTop (mkF m 14 #[.val (.ref o0), .val (.int p1), .val (.int p2), .val (.ref o3)] [])) := fun t k => pre5 t (st6 _ k)
  have pre9 : Lead p e below G (T6.setTop (mkF m 16 #[.val (.ref o0), .val (.int p1), .val (.int p2), .val (.ref o3)] [(.ref o3), (.ref o0)])) := fun t k => by
    refine pre6 t ?_
    show Steps p.tables e below (T6.setTop (mkF m 14 #[.val (.ref o0), .val (.int p1), .val (.int p2), .val (.ref o3)] [])) _
    refine XS.aloadN Y6.here hx rfl (hb hby d1_14) rfl rfl ?_
    show Steps p.tables e below (T6.setTop (mkF m 15 #[.val (.ref o0), .val (.int p1), .val (.int p2), .val (.ref o3)] [(.ref o0)])) _
    refine XS.aloadN Y6.here hx rfl (hb hby d1_15) rfl rfl ?_
    show Steps p.tables e below (T6.setTop (mkF m 16 #[.val (.ref o0), .val (.int p1), .val (.int p2), .val (.ref o3)] [(.ref o3), (.ref o0)])) _
    exact k
  have f11 : Fld Z h6 o0 "com/example/libnear/libnear/hamming/BitSampling" "positions" "[I" .null := ((P4_F.other W4 (Or.inr (slot_ne (Or.inr (hw _ (List.mem_of_getElem? (i := 16) rfl))) (Or.inr (hw _ (List.mem_of_getElem? (i := 12) rfl))) (by decide) (t := (.array .int)) (t' := .int) (by decide) (by decide)))).other W6 (Or.inr (slot_ne (Or.inr (hw _ (List.mem_of_getElem? (i := 16) rfl))) (Or.inr (hw _ (List.mem_of_getElem? (i := 14) rfl))) (by decide) (t := (.array .int)) (t' := .int) (by decide) (by decide))))
  have f12 : Exa Z h6 o0 "com/example/libnear/libnear/hamming/BitSampling" := (f8.wr W6)
  obtain ⟨T10, h10, X10, e10, W10, st10⟩ := putF Y6 hx hZ hown (host := "") (Or.inl (hw _ (List.mem_of_getElem? (i := 15) rfl))) Via.refl e6 f11 f12 (Or.inr ⟨(hw _ (List.mem_of_getElem? (i := 16) rfl)), rfl, hnm⟩) (hw _ (List.mem_of_getElem? (i := 2) rfl)) (ty := (.array .int)) (by decide) rfl rfl (g := (mkF m 16 #[.val (.ref o0), .val (.int p1), .val (.int p2), .val (.ref o3)] [(.ref o3), (.ref o0)])) rfl rfl (hb hby d1_16)
  have N10 := Fr.snoc X10 N6 P1_G
  have K10 : Keep h0 h10 [o0] := K6.wr W10 (Or.inl (List.mem_of_getElem? (i := 0) rfl))
  obtain ⟨M10, Y10, N10⟩ : ∃ M, Stand p l e ({ frames := 1, cells := 0, slots := 0, locals := 12 } : Room) s m #[(.ref o0), (.int p1), (.int p2), (.ref o3)] below meth c T10 M 0 0 ∧ Fr n0 M := ⟨_, X10, N10⟩
  have Fw10 : Fld Z h10 o0 "com/example/libnear/libnear/hamming/BitSampling" "positions" "[I" (.ref o3) := f11.same W10
  have pre10 : Lead p e below G (T10.setTop (mkF m 19 #[.val (.ref o0), .val (.int p1), .val (.int p2), .val (.ref o3)] [])) := fun t k => pre9 t (st10 _ k)
  obtain ⟨fs, hr, hrun, hended, hW, hsame⟩ := Y10.leave (v := none) (fun _ => rfl)
  subst hG
  refine ⟨_, _, pre10 _ ?_, hrun, hended, _, _, rfl, ?_, ⟨_, rfl⟩, hW, hsame.mono (by decide) (by decide)⟩
  · show Steps p.tables e below (T10.setTop (mkF m 19 #[.val (.ref o0), .val (.int p1), .val (.int p2), .val (.ref o3)] [])) _
    exact Y10.returnOut hx Bd.returns (hb hby d1_19) hr
  · show Q1 Z o0 p1 p2 o3 h0 n0 _ T10.heap _
    rw [e10]
    have f13 : Exa Z h10 o0 "com/example/libnear/libnear/hamming/BitSampling" := (f12.wr W10)
    have f14 : Fld Z h10 o0 "com/example/libnear/libnear/hamming/BitSampling" "sample" "I" (.int p2) := (Fw6.other W10 (Or.inr (slot_ne (Or.inr (hw _ (List.mem_of_getElem? (i := 14) rfl))) (Or.inr (hw _ (List.mem_of_getElem? (i := 16) rfl))) (by decide) (t := .int) (t' := (.array .int)) (by decide) (by decide))))
    exact ⟨rfl, N10, K10, f13, f14⟩
def flip (q1 : Int64) (sm : Int32) (i : Nat) : Int64 := q1 ^^^ ((1 : Int64) <<< (((sm - (1 : Int32)) - Int32.ofNat i) &&& 0x3f).toInt64)
theorem own_max (x : Int32) : (x &&& (2147483647 : Int32)).toInt = x.toInt % 2 ^ 31 := Jvm.Kit.i32_mask x _ (k := 31) (by decide) (by decide)
theorem own_rem (a k : Int32) (ha : 0 ≤ a.toInt) (hk : 0 < k.toInt) : (a - a / k * k).toInt = a.toInt % k.toInt := by
  have b1 := Int32.le_toInt a; have b2 := Int32.toInt_lt a
  have d : (a / k).toInt = a.toInt / k.toInt := by rw [Jvm.Kit.i32_div (by omega), Int.tdiv_eq_ediv_of_nonneg ha]
  have q0 : 0 ≤ a.toInt / k.toInt := Int.ediv_nonneg ha (by omega)
  have q1 : a.toInt / k.toInt * k.toInt ≤ a.toInt := Int.ediv_mul_le _ (by omega)
  have q2 : 0 ≤ a.toInt / k.toInt * k.toInt := Int.mul_nonneg q0 (by omega)
  have m : (a / k * k).toInt = a.toInt / k.toInt * k.toInt := by rw [Jvm.Kit.i32_mul, d] <;> rw [d] <;> omega
  rw [Jvm.Kit.i32_sub (by omega) (by omega), m, Int.emod_def, Int.mul_comm]
theorem own_nar0 : nar .boolean (0 : Int32) = 0 := by decide
theorem own_nar1 : nar .boolean (1 : Int32) = 1 := by decide
theorem own_nat {a : Int32} {k : Nat} (h : a.toInt ≤ k) : a.toNatClampNeg ≤ k := by
  show a.toInt.toNat ≤ k
  omega
theorem own_start {sm : Int32} (h : ¬ sm < 0) : 0 ≤ (0 : Int32).toInt ∧ (0 : Int32).toInt ≤ sm.toInt := by
  rw [Int32.lt_iff_toInt_lt, Int32.toInt_zero] at h
  rw [Int32.toInt_zero]; omega
theorem own_inc {iv sm : Int32} (h : 0 ≤ iv.toInt ∧ iv.toInt ≤ sm.toInt) (q : iv < sm) : (iv + 1).toInt = iv.toInt + 1 := by
  have c1 : (1 : Int32).toInt = 1 := by decide
  have b := Int32.toInt_lt sm
  rw [Int32.lt_iff_toInt_lt] at q
  have := Jvm.Kit.i32_add (p := iv) (q := 1) (by omega) (by omega)
  omega
theorem own_next {iv sm : Int32} (h : 0 ≤ iv.toInt ∧ iv.toInt ≤ sm.toInt) (q : iv < sm) : 0 ≤ (iv + 1).toInt ∧ (iv + 1).toInt ≤ sm.toInt := by
  rw [own_inc h q]
  rw [Int32.lt_iff_toInt_lt] at q
  omega
theorem own_decr {iv sm : Int32} (h : 0 ≤ iv.toInt ∧ iv.toInt ≤ sm.toInt) (q : iv < sm) : (sm.toInt - (iv + 1).toInt).toNat < (sm.toInt - iv.toInt).toNat := by
  rw [own_inc h q]
  rw [Int32.lt_iff_toInt_lt] at q
  omega
theorem own_bnd {iv sm : Int32} (h : 0 ≤ iv.toInt ∧ iv.toInt ≤ sm.toInt) (q : iv < sm) : ¬ iv < 0 ∧ iv < sm := ⟨by rw [Int32.lt_iff_toInt_lt, Int32.toInt_zero]; omega, q⟩
theorem own_done {iv sm : Int32} {ga : Nat → Int64} {q1 : Int64} (h : 0 ≤ iv.toInt ∧ iv.toInt ≤ sm.toInt) (q : iv < sm) (hc : sm.toInt ≤ 64) (hd : ∀ j, j < iv.toInt.toNat → ga j = flip q1 sm j) :
    ∀ j, j < (iv + 1).toInt.toNat → (updF ga iv.toNatClampNeg (q1 ^^^ ((1 : Int64) <<< (((sm - (1 : Int32)) - iv) &&& 0x3f).toInt64))) j = flip q1 sm j := by
  intro j hj
  rw [own_inc h q] at hj
  unfold updF
  by_cases e : j = iv.toNatClampNeg
  · rw [if_pos e]
    have e' : j = iv.toInt.toNat := e
    have : iv = Int32.ofNat j := Int32.toInt_inj.mp (by rw [Int32.toInt_ofNat_small (by omega)]; omega)
    unfold flip; rw [this]
  · rw [if_neg e]
    have e' : ¬ j = iv.toInt.toNat := e
    exact hd j (by omega)
theorem own_fin {iv sm : Int32} {ga : Nat → Int64} {q1 : Int64} (h : 0 ≤ iv.toInt ∧ iv.toInt ≤ sm.toInt) (q : ¬ iv < sm) (hd : ∀ j, j < iv.toInt.toNat → ga j = flip q1 sm j) : ∀ j, j < sm.toInt.toNat → ga j = flip q1 sm j := by
  rw [Int32.lt_iff_toInt_lt] at q
  intro j hj; exact hd j (by omega)
def own_S (p0 : Int32) : Int32 := (1 : Int32) + ((p0 &&& (2147483647 : Int32)) - ((p0 &&& (2147483647 : Int32)) / (36 : Int32)) * (36 : Int32))
def own_I (p0 p2 : Int32) : Int32 := (p2 &&& (2147483647 : Int32)) - ((p2 &&& (2147483647 : Int32)) / own_S p0) * own_S p0
theorem own_Sv (p0 : Int32) : 1 ≤ (own_S p0).toInt ∧ (own_S p0).toInt ≤ 36 := by
  have m := own_max p0
  have c : (36 : Int32).toInt = 36 := by decide
  have c1 : (1 : Int32).toInt = 1 := by decide
  have r := own_rem (p0 &&& 2147483647) 36 (by omega) (by omega)
  rw [c] at r
  have := Jvm.Kit.i32_add (p := 1) (q := (p0 &&& (2147483647 : Int32)) - ((p0 &&& (2147483647 : Int32)) / (36 : Int32)) * (36 : Int32)) (by omega) (by omega)
  unfold own_S; omega
theorem own_s (p0 : Int32) : ¬ own_S p0 < 0 ∧ (own_S p0).toNatClampNeg ≤ 64 ∧ (own_S p0).toInt ≤ 64 ∧ own_S p0 ≠ 0 := by
  have h := own_Sv p0
  refine ⟨by rw [Int32.lt_iff_toInt_lt, Int32.toInt_zero]; omega, own_nat (by omega), by omega, fun e => ?_⟩
  rw [e, Int32.toInt_zero] at h; omega
theorem own_Iv (p0 p2 : Int32) : 0 ≤ (own_I p0 p2).toInt ∧ (own_I p0 p2).toInt < (own_S p0).toInt := by
  have h := own_Sv p0
  have m := own_max p2
  have r := own_rem (p2 &&& 2147483647) (own_S p0) (by omega) (by omega)
  have b1 := Int.emod_nonneg (p2 &&& 2147483647).toInt (show (own_S p0).toInt ≠ 0 by omega)
  have b2 := Int.emod_lt_of_pos (p2 &&& 2147483647).toInt (show 0 < (own_S p0).toInt by omega)
  unfold own_I; omega
theorem own_ib (p0 p2 : Int32) : ¬ own_I p0 p2 < 0 ∧ own_I p0 p2 < own_S p0 := by
  have h := own_Iv p0 p2
  rw [Int32.lt_iff_toInt_lt, Int32.lt_iff_toInt_lt, Int32.toInt_zero]; omega
theorem own_tab : ∀ s : Fin 37, ∀ i : Fin 36, i.val < s.val → ((1 : Int64) <<< (((Int32.ofNat s.val - (1 : Int32)) - Int32.ofNat i.val) &&& 0x3f).toInt64) = ((((1 : Int64) <<< ((Int32.ofNat s.val - (1 : Int32)) &&& 0x3f).toInt64).toUInt64 >>> (Int32.ofNat i.val &&& 0x3f).toInt64.toUInt64).toInt64) := by decide +kernel
theorem own_at (p0 p2 : Int32) : ∃ s i : Nat, i < s ∧ s ≤ 36 ∧ own_S p0 = Int32.ofNat s ∧ own_I p0 p2 = Int32.ofNat i ∧ (own_I p0 p2).toNatClampNeg = i ∧ (own_S p0).toInt.toNat = s := by
  have h := own_Sv p0
  have g := own_Iv p0 p2
  refine ⟨(own_S p0).toInt.toNat, (own_I p0 p2).toInt.toNat, by omega, by omega, ?_, ?_, rfl, rfl⟩
  · exact Int32.toInt_inj.mp (by rw [Int32.toInt_ofNat_small (by omega)]; omega)
  · exact Int32.toInt_inj.mp (by rw [Int32.toInt_ofNat_small (by omega)]; omega)
theorem own_xx (a b : Int64) : (a ^^^ b) ^^^ a = b := by
  apply Int64.toBitVec_inj.mp
  rw [Int64.toBitVec_xor, Int64.toBitVec_xor, BitVec.xor_comm, ← BitVec.xor_assoc, BitVec.xor_self, BitVec.zero_xor]
theorem own_xy (a b : Int64) : (a ^^^ b) ^^^ b = a := by
  apply Int64.toBitVec_inj.mp
  rw [Int64.toBitVec_xor, Int64.toBitVec_xor, BitVec.xor_assoc, BitVec.xor_self, BitVec.xor_zero]
theorem own_flip1 (p0 p2 : Int32) (q1 : Int64) {g : Nat → Int64} (h : ∀ j, j < (own_S p0).toInt.toNat → g j = flip q1 (own_S p0) j) : ((g (own_I p0 p2).toNatClampNeg) ^^^ q1) = ((((1 : Int64) <<< ((own_S p0 - (1 : Int32)) &&& 0x3f).toInt64).toUInt64 >>> (own_I p0 p2 &&& 0x3f).toInt64.toUInt64).toInt64) := by
  obtain ⟨s, i, h1, h2, e1, e2, e3, e4⟩ := own_at p0 p2
  rw [e3, h i (by omega), e1, e2]
  unfold flip
  rw [own_xx]
  exact own_tab ⟨s, by omega⟩ ⟨i, by omega⟩ h1
theorem own_flip2 (p0 p2 : Int32) (q1 : Int64) {g g2 : Nat → Int64} (h : ∀ j, j < (own_S p0).toInt.toNat → g j = flip q1 (own_S p0) j) (h2 : ∀ j, j < (own_S p0).toInt.toNat → g2 j = flip (g (own_I p0 p2).toNatClampNeg) (own_S p0) j) : g2 (own_I p0 p2).toNatClampNeg = q1 := by
  obtain ⟨s, i, h1, h2', e1, e2, e3, e4⟩ := own_at p0 p2
  rw [e3] at h2 ⊢
  rw [h2 i (by omega), h i (by omega)]
  unfold flip
  exact own_xy _ _

theorem d3_10 : decode prog_63_method_7_code 10 = .ok (.iload 4, 2) := by decide +kernel
theorem d3_12 : decode prog_63_method_7_code 12 = .ok (.aload_n 0, 1) := by decide +kernel
theorem d3_13 : decode prog_63_method_7_code 13 = .ok (.getfield 15, 3) := by decide +kernel
theorem d3_16 : decode prog_63_method_7_code 16 = .ok (.if_icmp .ge 26, 3) := by decide +kernel
theorem d3_19 : decode prog_63_method_7_code 19 = .ok (.aload_n 3, 1) := by decide +kernel
theorem d3_20 : decode prog_63_method_7_code 20 = .ok (.iload 4, 2) := by decide +kernel
theorem d3_22 : decode prog_63_method_7_code 22 = .ok (.lload_n 1, 1) := by decide +kernel
theorem d3_23 : decode prog_63_method_7_code 23 = .ok (.lconst 1, 1) := by decide +kernel
theorem d3_24 : decode prog_63_method_7_code 24 = .ok (.aload_n 0, 1) := by decide +kernel
theorem d3_25 : decode prog_63_method_7_code 25 = .ok (.getfield 15, 3) := by decide +kernel
theorem d3_28 : decode prog_63_method_7_code 28 = .ok (.iconst 1, 1) := by decide +kernel
theorem d3_29 : decode prog_63_method_7_code 29 = .ok (.isub, 1) := by decide +kernel
theorem d3_30 : decode prog_63_method_7_code 30 = .ok (.iload 4, 2) := by decide +kernel
theorem d3_32 : decode prog_63_method_7_code 32 = .ok (.isub, 1) := by decide +kernel
theorem d3_33 : decode prog_63_method_7_code 33 = .ok (.lshl, 1) := by decide +kernel
theorem d3_34 : decode prog_63_method_7_code 34 = .ok (.lxor, 1) := by decide +kernel
theorem d3_35 : decode prog_63_method_7_code 35 = .ok (.lastore, 1) := by decide +kernel
theorem d3_36 : decode prog_63_method_7_code 36 = .ok (.iinc 4 1, 3) := by decide +kernel
theorem d3_39 : decode prog_63_method_7_code 39 = .ok (.goto (-29), 3) := by decide +kernel
set_option maxRecDepth 65536 in
set_option maxHeartbeats 40000000 in
theorem lp3_10 (l : Launch) (Z : State) (a0 : Array Value) (hw : ∀ d ∈ tables_1, d.before a0 Z = true) {p : Program} {e : Env} {s : State} {m : MethodId} {below : List Frame} {meth : Method} {c : Code} (o0 : Addr) (q1 : Int64) (sm : Int32) (bx : Addr) (n0 : Nat) (hx : p.tables.exec = Jvm.exec) (hZ : Z.Warmed39 s.vm) (hby : c.code = prog_63_method_7_code) (hml : c.maxLocals = 5) (hown : s.vm.findClass "com/example/libnear/libnear/hamming/BitSampling" = some m.cls) (Q0_G : n0 ≤ bx) (Q1_NE : o0 ≠ bx) (hcap : sm.toInt ≤ 64) :
    ∀ (d : Nat) (iv : Int32) (ga : Nat → Int64) (T0 : State) (M0 : List Loc) (h0 : Heap), n0 ≤ h0.size → (sm.toInt - iv.toInt).toNat = d → (0 ≤ iv.toInt ∧ iv.toInt ≤ sm.toInt) → (∀ j, j < iv.toInt.toNat → ga j = flip q1 sm j) → Stand p l e ({ frames := 0, cells := 1, slots := 64, locals := 0 } : Room) s m #[(.ref o0), (.long q1)] below meth c T0 M0 1 64 → T0.heap = h0 → Fr n0 M0 → Fld Z h0 o0 "com/example/libnear/libnear/hamming/BitSampling" "sample" "I" (.int sm) → JV Value.long Z h0 bx .long sm ga → (∃ (iv_ : Int32) (ga_ : Nat → Int64) (T' : State) (M' : List Loc) (h' : Heap), (∀ j, j < sm.toInt.toNat → ga_ j = flip q1 sm j) ∧ Stand p l e ({ frames := 0, cells := 1, slots := 64, locals := 0 } : Room) s m #[(.ref o0), (.long q1)] below meth c T' M' 1 64 ∧ T'.heap = h' ∧ Fr n0 M' ∧ Keep h0 h' [bx] ∧ Fld Z h' o0 "com/example/libnear/libnear/hamming/BitSampling" "sample" "I" (.int sm) ∧ JV Value.long Z h' bx .long sm ga_ ∧ Lead p e below (T0.setTop (mkF m 10 #[.val (.ref o0), .val (.long q1), .second, .val (.ref bx), .val (.int iv)] [])) (T'.setTop (mkF m 42 #[.val (.ref o0), .val (.long q1), .second, .val (.ref bx), .val (.int iv_)] []))) := by
  intro d
  induction d using Nat.strongRecOn with
  | ind d ih =>
    intro iv ga T0 M0 h0 Z0 hd hi0 hdone X0 e0 N0 P0_F P1_V
    have K0 : Keep h0 h0 [bx] := Keep.refl _ _
    obtain ⟨G, hG⟩ : ∃ z, z = T0.setTop (mkF m 10 #[.val (.ref o0), .val (.long q1), .second, .val (.ref bx), .val (.int iv)] []) := ⟨_, rfl⟩
    rw [← hG]
    have pre0 : Lead p e below G (T0.setTop (mkF m 10 #[.val (.ref o0), .val (.long q1), .second, .val (.ref bx), .val (.int iv)] [])) := fun t k => by rw [hG]; exact k
    have pre1 : Lead p e below G (T0.setTop (mkF m 13 #[.val (.ref o0), .val (.long q1), .second, .val (.ref bx), .val (.int iv)] [(.ref o0), (.int iv)])) := fun t k => by
      refine pre0 t ?_
      show Steps p.tables e below (T0.setTop (mkF m 10 #[.val (.ref o0), .val (.long q1), .second, .val (.ref bx), .val (.int iv)] [])) _
      refine XS.iload X0.here hx rfl (hb hby d3_10) rfl ?_
      show Steps p.tables e below (T0.setTop (mkF m 12 #[.val (.ref o0), .val (.long q1), .second, .val (.ref bx), .val (.int iv)] [(.int iv)])) _
      refine XS.aloadN X0.here hx rfl (hb hby d3_12) rfl rfl ?_
      show Steps p.tables e below (T0.setTop (mkF m 13 #[.val (.ref o0), .val (.long q1), .second, .val (.ref bx), .val (.int iv)] [(.ref o0), (.int iv)])) _
      exact k
    obtain ⟨T2, X2, e2, st2⟩ := getF X0 hx hZ hown (host := "") (Or.inl (hw _ (List.mem_of_getElem? (i := 13) rfl))) Via.refl e0 P0_F (g := (mkF m 13 #[.val (.ref o0), .val (.long q1), .second, .val (.ref bx), .val (.int iv)] [(.ref o0), (.int iv)])) rfl rfl (hb hby d3_13)
    have pre2 : Lead p e below G (T2.setTop (mkF m 16 #[.val (.ref o0), .val (.long q1), .second, .val (.ref bx), .val (.int iv)] [(.int sm), (.int iv)])) := fun t k => pre1 t (st2 _ k)
    by_cases hs16_3 : iv < sm
    · have pre4 : Lead p e below G (T2.setTop (mkF m 25 #[.val (.ref o0), .val (.long q1), .second, .val (.ref bx), .val (.int iv)] [(.ref o0), (.long (1 : Int64)), (.long q1), (.int iv), (.ref bx)])) := fun t k => by
        refine pre2 t ?_
        show Steps p.tables e below (T2.setTop (mkF m 16 #[.val (.ref o0), .val (.long q1), .second, .val (.ref bx), .val (.int iv)] [(.int sm), (.int iv)])) _
        refine XS.icmpNo X2.here hx rfl (hb hby d3_16) rfl (tlt hs16_3).2.1 ?_
        show Steps p.tables e below (T2.setTop (mkF m 19 #[.val (.ref o0), .val (.long q1), .second, .val (.ref bx), .val (.int iv)] [])) _
        refine XS.aloadN X2.here hx rfl (hb hby d3_19) rfl rfl ?_
        show Steps p.tables e below (T2.setTop (mkF m 20 #[.val (.ref o0), .val (.long q1), .second, .val (.ref bx), .val (.int iv)] [(.ref bx)])) _
        refine XS.iload X2.here hx rfl (hb hby d3_20) rfl ?_
        show Steps p.tables e below (T2.setTop (mkF m 22 #[.val (.ref o0), .val (.long q1), .second, .val (.ref bx), .val (.int iv)] [(.int iv), (.ref bx)])) _
        refine XS.lloadN X2.here hx rfl (hb hby d3_22) rfl ?_
        show Steps p.tables e below (T2.setTop (mkF m 23 #[.val (.ref o0), .val (.long q1), .second, .val (.ref bx), .val (.int iv)] [(.long q1), (.int iv), (.ref bx)])) _
        refine XS.lconst X2.here hx rfl (hb hby d3_23) ?_
        show Steps p.tables e below (T2.setTop (mkF m 24 #[.val (.ref o0), .val (.long q1), .second, .val (.ref bx), .val (.int iv)] [(.long (1 : Int64)), (.long q1), (.int iv), (.ref bx)])) _
        refine XS.aloadN X2.here hx rfl (hb hby d3_24) rfl rfl ?_
        show Steps p.tables e below (T2.setTop (mkF m 25 #[.val (.ref o0), .val (.long q1), .second, .val (.ref bx), .val (.int iv)] [(.ref o0), (.long (1 : Int64)), (.long q1), (.int iv), (.ref bx)])) _
        exact k
      obtain ⟨T5, X5, e5, st5⟩ := getF X2 hx hZ hown (host := "") (Or.inl (hw _ (List.mem_of_getElem? (i := 13) rfl))) Via.refl e2 P0_F (g := (mkF m 25 #[.val (.ref o0), .val (.long q1), .second, .val (.ref bx), .val (.int iv)] [(.ref o0), (.long (1 : Int64)), (.long q1), (.int iv), (.ref bx)])) rfl rfl (hb hby d3_25)
      have pre5 : Lead p e below G (T5.setTop (mkF m 28 #[.val (.ref o0), .val (.long q1), .second, .val (.ref bx), .val (.int iv)] [(.int sm), (.long (1 : Int64)), (.long q1), (.int iv), (.ref bx)])) := fun t k => pre4 t (st5 _ k)
      have pre6 : Lead p e below G (T5.setTop (mkF m 35 #[.val (.ref o0), .val (.long q1), .second, .val (.ref bx), .val (.int iv)] [(.long (q1 ^^^ ((1 : Int64) <<< (((sm - (1 : Int32)) - iv) &&& 0x3f).toInt64))), (.int iv), (.ref bx)])) := fun t k => by
        refine pre5 t ?_
        show Steps p.tables e below (T5.setTop (mkF m 28 #[.val (.ref o0), .val (.long q1), .second, .val (.ref bx), .val (.int iv)] [(.int sm), (.long (1 : Int64)), (.long q1), (.int iv), (.ref bx)])) _
        refine XS.iconst X5.here hx rfl (hb hby d3_28) ?_
        show Steps p.tables e below (T5.setTop (mkF m 29 #[.val (.ref o0), .val (.long q1), .second, .val (.ref bx), .val (.int iv)] [(.int (1 : Int32)), (.int sm), (.long (1 : Int64)), (.long q1), (.int iv), (.ref bx)])) _
        refine XS.isub X5.here hx rfl (hb hby d3_29) rfl ?_
        show Steps p.tables e below (T5.setTop (mkF m 30 #[.val (.ref o0), .val (.long q1), .second, .val (.ref bx), .val (.int iv)] [(.int (sm - (1 : Int32))), (.long (1 : Int64)), (.long q1), (.int iv), (.ref bx)])) _
        refine XS.iload X5.here hx rfl (hb hby d3_30) rfl ?_
        show Steps p.tables e below (T5.setTop (mkF m 32 #[.val (.ref o0), .val (.long q1), .second, .val (.ref bx), .val (.int iv)] [(.int iv), (.int (sm - (1 : Int32))), (.long (1 : Int64)), (.long q1), (.int iv), (.ref bx)])) _
        refine XS.isub X5.here hx rfl (hb hby d3_32) rfl ?_
        show Steps p.tables e below (T5.setTop (mkF m 33 #[.val (.ref o0), .val (.long q1), .second, .val (.ref bx), .val (.int iv)] [(.int ((sm - (1 : Int32)) - iv)), (.long (1 : Int64)), (.long q1), (.int iv), (.ref bx)])) _
        refine XS.lshl X5.here hx rfl (hb hby d3_33) rfl ?_
        show Steps p.tables e below (T5.setTop (mkF m 34 #[.val (.ref o0), .val (.long q1), .second, .val (.ref bx), .val (.int iv)] [(.long ((1 : Int64) <<< (((sm - (1 : Int32)) - iv) &&& 0x3f).toInt64)), (.long q1), (.int iv), (.ref bx)])) _
        refine XS.lxor X5.here hx rfl (hb hby d3_34) rfl ?_
        show Steps p.tables e below (T5.setTop (mkF m 35 #[.val (.ref o0), .val (.long q1), .second, .val (.ref bx), .val (.int iv)] [(.long (q1 ^^^ ((1 : Int64) <<< (((sm - (1 : Int32)) - iv) &&& 0x3f).toInt64))), (.int iv), (.ref bx)])) _
        exact k
      obtain ⟨v7, hv7⟩ : ∃ z : Int64, z = (q1 ^^^ ((1 : Int64) <<< (((sm - (1 : Int32)) - iv) &&& 0x3f).toInt64)) := ⟨_, rfl⟩
      have pre7 : Lead p e below G (T5.setTop (mkF m 35 #[.val (.ref o0), .val (.long q1), .second, .val (.ref bx), .val (.int iv)] [(.long v7), (.int iv), (.ref bx)])) := by rw [hv7]; exact pre6
      obtain ⟨cl8, Ar8, hin8, -⟩ := P1_V.in (j := iv) (own_bnd hi0 hs16_3)
      obtain ⟨T8, h8, X8, e8, W8, st8⟩ := stJ X5 hx hZ e5 Ar8 (j := iv) hin8 (g := (mkF m 35 #[.val (.ref o0), .val (.long q1), .second, .val (.ref bx), .val (.int iv)] [(.long v7), (.int iv), (.ref bx)])) rfl rfl (hb hby d3_35)
      have N8 := Fr.snoc X8 N0 Q0_G
      have K8 : Keep h0 h8 [bx] := K0.wr W8 (Or.inl (List.mem_of_getElem? (i := 0) rfl))
      obtain ⟨M8, Y8, N8⟩ : ∃ M, Stand p l e ({ frames := 0, cells := 1, slots := 64, locals := 0 } : Room) s m #[(.ref o0), (.long q1)] below meth c T8 M 1 64 ∧ Fr n0 M := ⟨_, X8, N8⟩
      have V8 : JV Value.long Z h8 bx .long sm (updF ga (iv).toNatClampNeg v7) := P1_V.set W8
      have pre8 : Lead p e below G (T8.setTop (mkF m 36 #[.val (.ref o0), .val (.long q1), .second, .val (.ref bx), .val (.int iv)] [])) := fun t k => pre7 t (st8 _ k)
      have pre9 : Lead p e below G (T8.setTop (mkF m 10 #[.val (.ref o0), .val (.long q1), .second, .val (.ref bx), .val (.int (iv + (1 : Int32)))] [])) := fun t k => by
        refine pre8 t ?_
        show Steps p.tables e below (T8.setTop (mkF m 36 #[.val (.ref o0), .val (.long q1), .second, .val (.ref bx), .val (.int iv)] [])) _
        refine XS.iinc Y8.here hx rfl (hb hby d3_36) rfl (l' := #[.val (.ref o0), .val (.long q1), .second, .val (.ref bx), .val (.int (iv + (1 : Int32)))]) rfl ?_
        show Steps p.tables e below (T8.setTop (mkF m 39 #[.val (.ref o0), .val (.long q1), .second, .val (.ref bx), .val (.int (iv + (1 : Int32)))] [])) _
        refine XS.goto Y8.here hx rfl (pc0 := 39) (pc' := 10) rfl (hb hby d3_39) (by decide) (by decide) ?_
        show Steps p.tables e below (T8.setTop (mkF m 10 #[.val (.ref o0), .val (.long q1), .second, .val (.ref bx), .val (.int (iv + (1 : Int32)))] [])) _
        exact k
      have f10 : Fld Z h8 o0 "com/example/libnear/libnear/hamming/BitSampling" "sample" "I" (.int sm) := (P0_F.other W8 (Or.inl Q1_NE))
      obtain ⟨iv_11, ga_11, T11, M11, h11, q11_0, X11, e11, N11, K11, f11_0, f11_1, ld11⟩ := ih ((sm.toInt - (iv + (1 : Int32)).toInt).toNat) (hd ▸ own_decr hi0 hs16_3) (iv + (1 : Int32)) (updF ga (iv).toNatClampNeg v7) _ _ _ (Nat.le_trans Z0 K8.1) rfl (show 0 ≤ (iv + (1 : Int32)).toInt ∧ (iv + (1 : Int32)).toInt ≤ sm.toInt from own_next hi0 hs16_3) (show ∀ j, j < (iv + (1 : Int32)).toInt.toNat → (updF ga (iv).toNatClampNeg v7) j = flip q1 sm j from (by subst hv7; exact own_done hi0 hs16_3 hcap hdone)) Y8 e8 N8 f10 V8
      exact ⟨iv_11, ga_11, T11, M11, h11, (show ∀ j, j < sm.toInt.toNat → ga_11 j = flip q1 sm j from q11_0), X11, e11, N11, K8.trans K11 (fun x hx => Or.inl hx), f11_0, f11_1, fun t k => pre9 t (ld11 t k)⟩
    · have pre12 : Lead p e below G (T2.setTop (mkF m 42 #[.val (.ref o0), .val (.long q1), .second, .val (.ref bx), .val (.int iv)] [])) := fun t k => by
        refine pre2 t ?_
        show Steps p.tables e below (T2.setTop (mkF m 16 #[.val (.ref o0), .val (.long q1), .second, .val (.ref bx), .val (.int iv)] [(.int sm), (.int iv)])) _
        refine XS.icmpYes X2.here hx rfl (pc0 := 16) (pc' := 42) rfl (hb hby d3_16) rfl (flt hs16_3).2.1 (by decide) (by decide) ?_
        show Steps p.tables e below (T2.setTop (mkF m 42 #[.val (.ref o0), .val (.long q1), .second, .val (.ref bx), .val (.int iv)] [])) _
        exact k
      exact ⟨iv, ga, T2, _, _, (show ∀ j, j < sm.toInt.toNat → ga j = flip q1 sm j from own_fin hi0 hs16_3 hdone), X2, e2, N0, K0, P0_F, P1_V, pre12⟩
theorem d3_0 : decode prog_63_method_7_code 0 = .ok (.aload_n 0, 1) := by decide +kernel
theorem d3_1 : decode prog_63_method_7_code 1 = .ok (.getfield 15, 3) := by decide +kernel
theorem d3_4 : decode prog_63_method_7_code 4 = .ok (.newarray .long, 2) := by decide +kernel
theorem d3_6 : decode prog_63_method_7_code 6 = .ok (.astore_n 3, 1) := by decide +kernel
theorem d3_7 : decode prog_63_method_7_code 7 = .ok (.iconst 0, 1) := by decide +kernel
theorem d3_8 : decode prog_63_method_7_code 8 = .ok (.istore 4, 2) := by decide +kernel
theorem d3_42 : decode prog_63_method_7_code 42 = .ok (.aload_n 3, 1) := by decide +kernel
theorem d3_43 : decode prog_63_method_7_code 43 = .ok (.areturn, 1) := by decide +kernel
theorem ef_3 (m : MethodId) (o0 : Addr) (q1 : Int64) : entryFrame m #[(.ref o0), (.long q1)] 5 = mkF m 0 #[.val (.ref o0), .val (.long q1), .second, .unset, .unset] [] := by first | (simp [entryFrame, mkF, argsToLocals, Value.category]; done) | rfl
def Q3 (Z : State) (o0 : Addr) (q1 : Int64) (sm : Int32) (h0 : Heap) (n0 : Nat) (v : Option Value) (h : Heap) (L : List Loc) : Prop := ∃ rb : Addr, ∃ gr : Nat → Int64, v = some (.ref rb) ∧ Fr n0 L ∧ Keep h0 h [] ∧ h0.size ≤ rb ∧ JV Value.long Z h rb .long sm gr ∧ (∀ j, j < sm.toInt.toNat → gr j = flip q1 sm j)
set_option maxRecDepth 65536 in
set_option maxHeartbeats 40000000 in
theorem rm3 (l : Launch) (Z : State) (a0 : Array Value) (hw : ∀ d ∈ tables_1, d.before a0 Z = true) (ws : List Jvm.Cond) (o0 : Addr) (q1 : Int64) (sm : Int32) (h0 : Heap) (n0 : Nat) (Z0 : n0 ≤ h0.size) (P0_F : Fld Z h0 o0 "com/example/libnear/libnear/hamming/BitSampling" "sample" "I" (.int sm)) (hneg : (¬ sm < 0)) (hcap : (sm.toInt ≤ 64)) (hle : (sm.toNatClampNeg ≤ 64)) :
    MetFree l (⟨"com/example/libnear/libnear/hamming/BitSampling", "neighbours", "(J)[J"⟩ : MethodName) (head1 (Jvm.Cond.code (⟨"com/example/libnear/libnear/hamming/BitSampling", "neighbours", "(J)[J"⟩ : MethodName) prog_63_method_7_code 5 (some (.array .long)) :: ws) ({ frames := 0, cells := 1, slots := 64, locals := 0 } : Room)) (fun a U => a = #[(.ref o0), (.long q1)] ∧ Z.Warmed39 U.vm ∧ U.heap = h0) (fun _ _ _ _ _ => True) (fun _ U o U' => ∃ v L, o = .returned v ∧ Q3 Z o0 q1 sm h0 n0 v U'.heap L ∧ FrameEnd U o U' L ({ frames := 0, cells := 1, slots := 64, locals := 0 } : Room).cells ({ frames := 0, cells := 1, slots := 64, locals := 0 } : Room).slots) := by
  refine MetFree.of_bodySF (plainFor_of_name pn_com_example_libnear_libnear_hamming_BitSampling) hisR ?_
  intro p e s m args below meth c s₁ Bd hml0 hP hK
  obtain ⟨rfl, hZ, hh⟩ := hP
  have hx := Bd.exec
  have hby := Bd.bytes
  have hml : c.maxLocals = 5 := hml0
  have hown : s.vm.findClass "com/example/libnear/libnear/hamming/BitSampling" = some m.cls := findClass_of_methodNamed Bd.named
  have hnm := (name_of_methodNamed Bd.named Bd.method).1
  have X0 : Stand p l e ({ frames := 0, cells := 1, slots := 64, locals := 0 } : Room) s m #[(.ref o0), (.long q1)] below meth c s₁ [] 0 0 := Stand.of_body Bd
  have e0 : s₁.heap = h0 := by rw [← hh, Bd.state]; rfl
  have N0 := Fr.nil n0
  have K0 : Keep h0 h0 [] := Keep.refl _ _
  obtain ⟨G, hG⟩ : ∃ z, z = s₁.setTop (entryFrame m #[(.ref o0), (.long q1)] 5) := ⟨_, rfl⟩
  have pre0 : Lead p e below G (s₁.setTop (mkF m 0 #[.val (.ref o0), .val (.long q1), .second, .unset, .unset] [])) := fun t k => by rw [hG]; exact castTop (ef_3 m o0 q1) k
  have pre1 : Lead p e below G (s₁.setTop (mkF m 1 #[.val (.ref o0), .val (.long q1), .second, .unset, .unset] [(.ref o0)])) := fun t k => by
    refine pre0 t ?_
    show Steps p.tables e below (s₁.setTop (mkF m 0 #[.val (.ref o0), .val (.long q1), .second, .unset, .unset] [])) _
    refine XS.aloadN X0.here hx rfl (hb hby d3_0) rfl rfl ?_
    show Steps p.tables e below (s₁.setTop (mkF m 1 #[.val (.ref o0), .val (.long q1), .second, .unset, .unset] [(.ref o0)])) _
    exact k
  obtain ⟨T2, X2, e2, st2⟩ := getF X0 hx hZ hown (host := "") (Or.inl (hw _ (List.mem_of_getElem? (i := 13) rfl))) Via.refl e0 P0_F (g := (mkF m 1 #[.val (.ref o0), .val (.long q1), .second, .unset, .unset] [(.ref o0)])) rfl rfl (hb hby d3_1)
  have pre2 : Lead p e below G (T2.setTop (mkF m 4 #[.val (.ref o0), .val (.long q1), .second, .unset, .unset] [(.int sm)])) := fun t k => pre1 t (st2 _ k)
  obtain ⟨T3, h3, k3, X3, e3, E3, A3, st3⟩ := newP X2 hx hZ (hw _ (List.mem_of_getElem? (i := 22) rfl)) e2 (g := (mkF m 4 #[.val (.ref o0), .val (.long q1), .second, .unset, .unset] [(.int sm)])) rfl (hb hby d3_4) rfl hneg (cap := 64) hle (by decide) (by decide) (by decide)
  obtain ⟨b3, g3⟩ : ∃ z, z = h0.size := ⟨_, rfl⟩
  rw [← g3] at A3 st3
  have ne3_o0 : o0 ≠ b3 := Nat.ne_of_lt (Nat.lt_of_lt_of_le P0_F.lt (Nat.le_of_eq g3.symm))
  have sz3 : h0.size ≤ b3 := Nat.le_trans K0.1 (Nat.le_of_eq g3.symm)
  have ge3 : n0 ≤ b3 := Nat.le_trans Z0 sz3
  have K3 : Keep h0 h3 [] := K0.ext E3
  have V3 : JV Value.long Z h3 b3 .long sm (fun _ => (0 : Int64)) := JV.new A3 hneg _ rfl
  have pre3 : Lead p e below G (T3.setTop (mkF m 6 #[.val (.ref o0), .val (.long q1), .second, .unset, .unset] [(.ref b3)])) := fun t k => pre2 t (st3 _ k)
  have pre4 : Lead p e below G (T3.setTop (mkF m 10 #[.val (.ref o0), .val (.long q1), .second, .val (.ref b3), .val (.int (0 : Int32))] [])) := fun t k => by
    refine pre3 t ?_
    show Steps p.tables e below (T3.setTop (mkF m 6 #[.val (.ref o0), .val (.long q1), .second, .unset, .unset] [(.ref b3)])) _
    refine XS.astoreN X3.here hx rfl (hb hby d3_6) rfl rfl (l' := #[.val (.ref o0), .val (.long q1), .second, .val (.ref b3), .unset]) rfl ?_
    show Steps p.tables e below (T3.setTop (mkF m 7 #[.val (.ref o0), .val (.long q1), .second, .val (.ref b3), .unset] [])) _
    refine XS.iconst X3.here hx rfl (hb hby d3_7) ?_
    show Steps p.tables e below (T3.setTop (mkF m 8 #[.val (.ref o0), .val (.long q1), .second, .val (.ref b3), .unset] [(.int (0 : Int32))])) _
    refine XS.istore X3.here hx rfl (hb hby d3_8) rfl (l' := #[.val (.ref o0), .val (.long q1), .second, .val (.ref b3), .val (.int (0 : Int32))]) rfl ?_
    show Steps p.tables e below (T3.setTop (mkF m 10 #[.val (.ref o0), .val (.long q1), .second, .val (.ref b3), .val (.int (0 : Int32))] [])) _
    exact k
  have f5 : Fld Z h3 o0 "com/example/libnear/libnear/hamming/BitSampling" "sample" "I" (.int sm) := (P0_F.ext E3)
  obtain ⟨iv_6, ga_6, T6, M6, h6, q6_0, Y6, e6, N6, K6c, f6_0, f6_1, ld6⟩ := lp3_10 l Z a0 hw o0 q1 sm b3 n0 hx hZ hby hml hown ge3 ne3_o0 (show sm.toInt ≤ 64 from hcap) _ (0 : Int32) (fun _ => (0 : Int64)) _ _ _ (Nat.le_trans Z0 K3.1) rfl (show 0 ≤ (0 : Int32).toInt ∧ (0 : Int32).toInt ≤ sm.toInt from own_start hneg) (show ∀ j, j < (0 : Int32).toInt.toNat → (fun _ => (0 : Int64)) j = flip q1 sm j from fun j hj => absurd hj (Nat.not_lt_zero j)) X3 e3 N0 f5 V3
  have K6 : Keep h0 h6 [] := K3.trans K6c (allS (Or.inr sz3) all0)
  have pre6_42 : Lead p e below G (T6.setTop (mkF m 42 #[.val (.ref o0), .val (.long q1), .second, .val (.ref b3), .val (.int iv_6)] [])) := fun t k => pre4 t (ld6 t k)
  obtain ⟨fs, hr, hrun, hended, hW, hsame⟩ := Y6.leave (v := some (.ref b3)) (fun h => by rw [Bd.returns] at h; cases h)
  subst hG
  refine ⟨_, _, pre6_42 _ ?_, hrun, hended, _, _, rfl, ?_, ⟨_, rfl⟩, hW, hsame.mono (by decide) (by decide)⟩
  · show Steps p.tables e below (T6.setTop (mkF m 42 #[.val (.ref o0), .val (.long q1), .second, .val (.ref b3), .val (.int iv_6)] [])) _
    refine XS.aloadN Y6.here hx rfl (hb hby d3_42) rfl rfl ?_
    show Steps p.tables e below (T6.setTop (mkF m 43 #[.val (.ref o0), .val (.long q1), .second, .val (.ref b3), .val (.int iv_6)] [(.ref b3)])) _
    jvm_step Y6.here [Y6.here.top, hx, (hb hby d3_43), Y6.method', Bd.returns, Value.isRef, FieldType.isReference]
    first | (intro acts; rw [hr _ acts rfl rfl rfl]) | rw [hr _ _ rfl rfl rfl]
    exact Steps.refl _
  · show Q3 Z o0 q1 sm h0 n0 _ T6.heap _
    rw [e6]
    exact ⟨b3, ga_6, congrArg (fun z => some (Value.ref z)) (show b3 = b3 from rfl), N6, K6, sz3, f6_1, q6_0⟩
theorem pd__28_II_5b_I_29_V : parseMethodDescriptor "(II[I)V" = some ⟨[.int, .int, (.array .int)], none⟩ := by decide +kernel
theorem pd__28_J_29__5b_J : parseMethodDescriptor "(J)[J" = some ⟨[.long], some (.array .long)⟩ := by decide +kernel

theorem pn_com_example_libnear_libnear_hamming_BitSamplingNeighboursPinLaw : plainName "com/example/libnear/libnear/hamming/BitSamplingNeighboursPinLaw" = true := by first | (simp [plainName, overriddenIn]; done) | decide +kernel
theorem ef_0 (m : MethodId) (p0 : Int32) (q1 : Int64) (p2 : Int32) : entryFrame m #[(.int p0), (.long q1), (.int p2)] maxLocals = mkF m 0 #[.val (.int p0), .val (.long q1), .second, .val (.int p2), .unset, .unset, .unset, .unset, .unset, .unset, .unset] [] := by first | (simp [entryFrame, mkF, argsToLocals, Value.category, maxLocals]; done) | rfl
def Q0 (Z : State) (p0 : Int32) (q1 : Int64) (p2 : Int32)  (h0 : Heap) (n0 : Nat) (v : Option Value) (h : Heap) (L : List Loc) : Prop := v = some (.int (1 : Int32)) ∧ Fr n0 L
set_option maxRecDepth 65536 in
set_option maxHeartbeats 40000000 in
theorem rm0 (l : Launch) (Z : State) (a0 : Array Value) (hw : ∀ d ∈ tables_1, d.before a0 Z = true) (ws : List Jvm.Cond) (p0 : Int32) (q1 : Int64) (p2 : Int32)  (h0 : Heap) (n0 : Nat) (Z0 : n0 ≤ h0.size)  :
    MetFree l x (head1 (Jvm.Cond.code x code maxLocals ret :: ws) room_1) (fun a U => a = #[(.int p0), (.long q1), (.int p2)] ∧ Z.Warmed39 U.vm ∧ U.heap = h0) (fun _ _ _ _ _ => True) (fun _ U o U' => ∃ v L, o = .returned v ∧ Q0 Z p0 q1 p2 h0 n0 v U'.heap L ∧ FrameEnd U o U' L room_1.cells room_1.slots) := by
  refine MetFree.of_bodySF (plainFor_of_name pn_com_example_libnear_libnear_hamming_BitSamplingNeighboursPinLaw) hisR ?_
  intro p e s m args below meth c s₁ Bd hml0 hP hK
  obtain ⟨rfl, hZ, hh⟩ := hP
  have hx := Bd.exec
  have hby := Bd.bytes
  have hml : c.maxLocals = 11 := hml0
  have hown : s.vm.findClass "com/example/libnear/libnear/hamming/BitSamplingNeighboursPinLaw" = some m.cls := findClass_of_methodNamed Bd.named
  have hnm := (name_of_methodNamed Bd.named Bd.method).1
  have X0 : Stand p l e room_1 s m #[(.int p0), (.long q1), (.int p2)] below meth c s₁ [] 0 0 := Stand.of_body Bd
  have e0 : s₁.heap = h0 := by rw [← hh, Bd.state]; rfl
  have N0 := Fr.nil n0
  have K0 : Keep h0 h0 [] := Keep.refl _ _
  obtain ⟨G, hG⟩ : ∃ z, z = s₁.setTop (entryFrame m #[(.int p0), (.long q1), (.int p2)] maxLocals) := ⟨_, rfl⟩
  have pre0 : Lead p e below G (s₁.setTop (mkF m 0 #[.val (.int p0), .val (.long q1), .second, .val (.int p2), .unset, .unset, .unset, .unset, .unset, .unset, .unset] [])) := fun t k => by rw [hG]; exact castTop (ef_0 m p0 q1 p2) k
  have pre1 : Lead p e below G (s₁.setTop (mkF m 11 #[.val (.int p0), .val (.long q1), .second, .val (.int p2), .val (.int ((1 : Int32) + ((p0 &&& (2147483647 : Int32)) - ((p0 &&& (2147483647 : Int32)) / (36 : Int32)) * (36 : Int32)))), .unset, .unset, .unset, .unset, .unset, .unset] [])) := fun t k => by
    refine pre0 t ?_
    show Steps p.tables e below (s₁.setTop (mkF m 0 #[.val (.int p0), .val (.long q1), .second, .val (.int p2), .unset, .unset, .unset, .unset, .unset, .unset, .unset] [])) _
    refine XS.iconst X0.here hx rfl (hb hby at_0) ?_
    show Steps p.tables e below (s₁.setTop (mkF m 1 #[.val (.int p0), .val (.long q1), .second, .val (.int p2), .unset, .unset, .unset, .unset, .unset, .unset, .unset] [(.int (1 : Int32))])) _
    refine XS.iloadN X0.here hx rfl (hb hby at_1) rfl ?_
    show Steps p.tables e below (s₁.setTop (mkF m 2 #[.val (.int p0), .val (.long q1), .second, .val (.int p2), .unset, .unset, .unset, .unset, .unset, .unset, .unset] [(.int p0), (.int (1 : Int32))])) _
    refine X0.ldcInt hx hown (mvT hZ (hw _ (List.mem_of_getElem? (i := 0) rfl))) (g := (mkF m 2 #[.val (.int p0), .val (.long q1), .second, .val (.int p2), .unset, .unset, .unset, .unset, .unset, .unset, .unset] [(.int p0), (.int (1 : Int32))])) rfl (hb hby at_2) _ ?_
    show Steps p.tables e below (s₁.setTop (mkF m 4 #[.val (.int p0), .val (.long q1), .second, .val (.int p2), .unset, .unset, .unset, .unset, .unset, .unset, .unset] [(.int (2147483647 : Int32)), (.int p0), (.int (1 : Int32))])) _
    refine XS.iand X0.here hx rfl (hb hby at_4) rfl ?_
    show Steps p.tables e below (s₁.setTop (mkF m 5 #[.val (.int p0), .val (.long q1), .second, .val (.int p2), .unset, .unset, .unset, .unset, .unset, .unset, .unset] [(.int (p0 &&& (2147483647 : Int32))), (.int (1 : Int32))])) _
    refine XS.bipush X0.here hx rfl (hb hby at_5) ?_
    show Steps p.tables e below (s₁.setTop (mkF m 7 #[.val (.int p0), .val (.long q1), .second, .val (.int p2), .unset, .unset, .unset, .unset, .unset, .unset, .unset] [(.int (36 : Int32)), (.int (p0 &&& (2147483647 : Int32))), (.int (1 : Int32))])) _
    refine XS.irem X0.here hx rfl (hb hby at_7) rfl (by decide) ?_
    show Steps p.tables e below (s₁.setTop (mkF m 8 #[.val (.int p0), .val (.long q1), .second, .val (.int p2), .unset, .unset, .unset, .unset, .unset, .unset, .unset] [(.int ((p0 &&& (2147483647 : Int32)) - ((p0 &&& (2147483647 : Int32)) / (36 : Int32)) * (36 : Int32))), (.int (1 : Int32))])) _
    refine XS.iadd X0.here hx rfl (hb hby at_8) rfl ?_
    show Steps p.tables e below (s₁.setTop (mkF m 9 #[.val (.int p0), .val (.long q1), .second, .val (.int p2), .unset, .unset, .unset, .unset, .unset, .unset, .unset] [(.int ((1 : Int32) + ((p0 &&& (2147483647 : Int32)) - ((p0 &&& (2147483647 : Int32)) / (36 : Int32)) * (36 : Int32))))])) _
    refine XS.istore X0.here hx rfl (hb hby at_9) rfl (l' := #[.val (.int p0), .val (.long q1), .second, .val (.int p2), .val (.int ((1 : Int32) + ((p0 &&& (2147483647 : Int32)) - ((p0 &&& (2147483647 : Int32)) / (36 : Int32)) * (36 : Int32)))), .unset, .unset, .unset, .unset, .unset, .unset]) rfl ?_
    show Steps p.tables e below (s₁.setTop (mkF m 11 #[.val (.int p0), .val (.long q1), .second, .val (.int p2), .val (.int ((1 : Int32) + ((p0 &&& (2147483647 : Int32)) - ((p0 &&& (2147483647 : Int32)) / (36 : Int32)) * (36 : Int32)))), .unset, .unset, .unset, .unset, .unset, .unset] [])) _
    exact k
  obtain ⟨v2, hv2⟩ : ∃ z : Int32, z = ((1 : Int32) + ((p0 &&& (2147483647 : Int32)) - ((p0 &&& (2147483647 : Int32)) / (36 : Int32)) * (36 : Int32))) := ⟨_, rfl⟩
  have pre2 : Lead p e below G (s₁.setTop (mkF m 11 #[.val (.int p0), .val (.long q1), .second, .val (.int p2), .val (.int v2), .unset, .unset, .unset, .unset, .unset, .unset] [])) := by rw [hv2]; exact pre1
  have pre3 : Lead p e below G (s₁.setTop (mkF m 20 #[.val (.int p0), .val (.long q1), .second, .val (.int p2), .val (.int v2), .val (.int ((p2 &&& (2147483647 : Int32)) - ((p2 &&& (2147483647 : Int32)) / v2) * v2)), .unset, .unset, .unset, .unset, .unset] [])) := fun t k => by
    refine pre2 t ?_
    show Steps p.tables e below (s₁.setTop (mkF m 11 #[.val (.int p0), .val (.long q1), .second, .val (.int p2), .val (.int v2), .unset, .unset, .unset, .unset, .unset, .unset] [])) _
    refine XS.iloadN X0.here hx rfl (hb hby at_11) rfl ?_
    show Steps p.tables e below (s₁.setTop (mkF m 12 #[.val (.int p0), .val (.long q1), .second, .val (.int p2), .val (.int v2), .unset, .unset, .unset, .unset, .unset, .unset] [(.int p2)])) _
    refine X0.ldcInt hx hown (mvT hZ (hw _ (List.mem_of_getElem? (i := 0) rfl))) (g := (mkF m 12 #[.val (.int p0), .val (.long q1), .second, .val (.int p2), .val (.int v2), .unset, .unset, .unset, .unset, .unset, .unset] [(.int p2)])) rfl (hb hby at_12) _ ?_
    show Steps p.tables e below (s₁.setTop (mkF m 14 #[.val (.int p0), .val (.long q1), .second, .val (.int p2), .val (.int v2), .unset, .unset, .unset, .unset, .unset, .unset] [(.int (2147483647 : Int32)), (.int p2)])) _
    refine XS.iand X0.here hx rfl (hb hby at_14) rfl ?_
    show Steps p.tables e below (s₁.setTop (mkF m 15 #[.val (.int p0), .val (.long q1), .second, .val (.int p2), .val (.int v2), .unset, .unset, .unset, .unset, .unset, .unset] [(.int (p2 &&& (2147483647 : Int32)))])) _
    refine XS.iload X0.here hx rfl (hb hby at_15) rfl ?_
    show Steps p.tables e below (s₁.setTop (mkF m 17 #[.val (.int p0), .val (.long q1), .second, .val (.int p2), .val (.int v2), .unset, .unset, .unset, .unset, .unset, .unset] [(.int v2), (.int (p2 &&& (2147483647 : Int32)))])) _
    refine XS.irem X0.here hx rfl (hb hby at_17) rfl (by subst hv2; exact (own_s p0).2.2.2) ?_
    show Steps p.tables e below (s₁.setTop (mkF m 18 #[.val (.int p0), .val (.long q1), .second, .val (.int p2), .val (.int v2), .unset, .unset, .unset, .unset, .unset, .unset] [(.int ((p2 &&& (2147483647 : Int32)) - ((p2 &&& (2147483647 : Int32)) / v2) * v2))])) _
    refine XS.istore X0.here hx rfl (hb hby at_18) rfl (l' := #[.val (.int p0), .val (.long q1), .second, .val (.int p2), .val (.int v2), .val (.int ((p2 &&& (2147483647 : Int32)) - ((p2 &&& (2147483647 : Int32)) / v2) * v2)), .unset, .unset, .unset, .unset, .unset]) rfl ?_
    show Steps p.tables e below (s₁.setTop (mkF m 20 #[.val (.int p0), .val (.long q1), .second, .val (.int p2), .val (.int v2), .val (.int ((p2 &&& (2147483647 : Int32)) - ((p2 &&& (2147483647 : Int32)) / v2) * v2)), .unset, .unset, .unset, .unset, .unset] [])) _
    exact k
  obtain ⟨v4, hv4⟩ : ∃ z : Int32, z = ((p2 &&& (2147483647 : Int32)) - ((p2 &&& (2147483647 : Int32)) / v2) * v2) := ⟨_, rfl⟩
  have pre4 : Lead p e below G (s₁.setTop (mkF m 20 #[.val (.int p0), .val (.long q1), .second, .val (.int p2), .val (.int v2), .val (.int v4), .unset, .unset, .unset, .unset, .unset] [])) := by rw [hv4]; exact pre3
  obtain ⟨T5, h5, X5, e5, E5, A5, D5, -, st5⟩ := newO X0 hx hZ hown (hw _ (List.mem_of_getElem? (i := 1) rfl)) (hw _ (List.mem_of_getElem? (i := 2) rfl)) (hw _ (List.mem_of_getElem? (i := 3) rfl)) e0 (g := (mkF m 20 #[.val (.int p0), .val (.long q1), .second, .val (.int p2), .val (.int v2), .val (.int v4), .unset, .unset, .unset, .unset, .unset] [])) rfl (hb hby at_20) (by decide) (by decide)
  obtain ⟨b5, g5⟩ : ∃ z, z = h0.size := ⟨_, rfl⟩
  rw [← g5] at A5 D5 st5
  have sz5 : h0.size ≤ b5 := Nat.le_trans K0.1 (Nat.le_of_eq g5.symm)
  have ge5 : n0 ≤ b5 := Nat.le_trans Z0 sz5
  have K5 : Keep h0 h5 [] := K0.ext E5
  have F5_length : Fld Z h5 b5 "com/example/libnear/libnear/hamming/BitSampling" "length" "I" (.int (0 : Int32)) := D5 (Or.inr (hw _ (List.mem_of_getElem? (i := 12) rfl))) (ty := .int) (by decide)
  have F5_sample : Fld Z h5 b5 "com/example/libnear/libnear/hamming/BitSampling" "sample" "I" (.int (0 : Int32)) := D5 (Or.inr (hw _ (List.mem_of_getElem? (i := 14) rfl))) (ty := .int) (by decide)
  have F5_positions : Fld Z h5 b5 "com/example/libnear/libnear/hamming/BitSampling" "positions" "[I" .null := D5 (Or.inr (hw _ (List.mem_of_getElem? (i := 16) rfl))) (ty := (.array .int)) (by decide)
  have pre5 : Lead p e below G (T5.setTop (mkF m 23 #[.val (.int p0), .val (.long q1), .second, .val (.int p2), .val (.int v2), .val (.int v4), .unset, .unset, .unset, .unset, .unset] [(.ref b5)])) := fun t k => pre4 t (st5 _ k)
  have pre6 : Lead p e below G (T5.setTop (mkF m 29 #[.val (.int p0), .val (.long q1), .second, .val (.int p2), .val (.int v2), .val (.int v4), .unset, .unset, .unset, .unset, .unset] [(.int v2), (.int v2), (.int (1 : Int32)), (.ref b5), (.ref b5)])) := fun t k => by
    refine pre5 t ?_
    show Steps p.tables e below (T5.setTop (mkF m 23 #[.val (.int p0), .val (.long q1), .second, .val (.int p2), .val (.int v2), .val (.int v4), .unset, .unset, .unset, .unset, .unset] [(.ref b5)])) _
    refine XS.dup X5.here hx rfl (hb hby at_23) rfl rfl ?_
    show Steps p.tables e below (T5.setTop (mkF m 24 #[.val (.int p0), .val (.long q1), .second, .val (.int p2), .val (.int v2), .val (.int v4), .unset, .unset, .unset, .unset, .unset] [(.ref b5), (.ref b5)])) _
    refine XS.iconst X5.here hx rfl (hb hby at_24) ?_
    show Steps p.tables e below (T5.setTop (mkF m 25 #[.val (.int p0), .val (.long q1), .second, .val (.int p2), .val (.int v2), .val (.int v4), .unset, .unset, .unset, .unset, .unset] [(.int (1 : Int32)), (.ref b5), (.ref b5)])) _
    refine XS.iload X5.here hx rfl (hb hby at_25) rfl ?_
    show Steps p.tables e below (T5.setTop (mkF m 27 #[.val (.int p0), .val (.long q1), .second, .val (.int p2), .val (.int v2), .val (.int v4), .unset, .unset, .unset, .unset, .unset] [(.int v2), (.int (1 : Int32)), (.ref b5), (.ref b5)])) _
    refine XS.iload X5.here hx rfl (hb hby at_27) rfl ?_
    show Steps p.tables e below (T5.setTop (mkF m 29 #[.val (.int p0), .val (.long q1), .second, .val (.int p2), .val (.int v2), .val (.int v4), .unset, .unset, .unset, .unset, .unset] [(.int v2), (.int v2), (.int (1 : Int32)), (.ref b5), (.ref b5)])) _
    exact k
  obtain ⟨T7, h7, k7, X7, e7, E7, A7, st7⟩ := newP X5 hx hZ (hw _ (List.mem_of_getElem? (i := 4) rfl)) e5 (g := (mkF m 29 #[.val (.int p0), .val (.long q1), .second, .val (.int p2), .val (.int v2), .val (.int v4), .unset, .unset, .unset, .unset, .unset] [(.int v2), (.int v2), (.int (1 : Int32)), (.ref b5), (.ref b5)])) rfl (hb hby at_29) rfl (by subst hv4 hv2; exact (own_s p0).1) (cap := 64) (by subst hv4 hv2; exact (own_s p0).2.1) (by decide) (by decide) (by decide)
  obtain ⟨b7, g7⟩ : ∃ z, z = h5.size := ⟨_, rfl⟩
  rw [← g7] at A7 st7
  have ne7_b5 : b5 ≠ b7 := Nat.ne_of_lt (Nat.lt_of_lt_of_le A5.lt (Nat.le_of_eq g7.symm))
  have sz7 : h0.size ≤ b7 := Nat.le_trans K5.1 (Nat.le_of_eq g7.symm)
  have ge7 : n0 ≤ b7 := Nat.le_trans Z0 sz7
  have K7 : Keep h0 h7 [] := K5.ext E7
  have V7 : JV Value.int Z h7 b7 .int v2 (fun _ => (0 : Int32)) := JV.new A7 (by subst hv4 hv2; exact (own_s p0).1) _ rfl
  have pre7 : Lead p e below G (T7.setTop (mkF m 31 #[.val (.int p0), .val (.long q1), .second, .val (.int p2), .val (.int v2), .val (.int v4), .unset, .unset, .unset, .unset, .unset] [(.ref b7), (.int v2), (.int (1 : Int32)), (.ref b5), (.ref b5)])) := fun t k => pre6 t (st7 _ k)
  have f9 : Exa Z h7 b5 "com/example/libnear/libnear/hamming/BitSampling" := (A5.ext E7)
  have f10 : Fld Z h7 b5 "com/example/libnear/libnear/hamming/BitSampling" "length" "I" (.int (0 : Int32)) := (F5_length.ext E7)
  have f11 : Fld Z h7 b5 "com/example/libnear/libnear/hamming/BitSampling" "sample" "I" (.int (0 : Int32)) := (F5_sample.ext E7)
  have f12 : Fld Z h7 b5 "com/example/libnear/libnear/hamming/BitSampling" "positions" "[I" .null := (F5_positions.ext E7)
  obtain ⟨_, _, ⟨T8, L8, k8, n8⟩, -, X8, ⟨Lc8, hQ8, l8, y8, z8⟩, st8⟩ := X7.specialBack hx (y := (⟨"com/example/libnear/libnear/hamming/BitSampling", "<init>", "(II[I)V"⟩ : MethodName)) rfl hown (mvT hZ (hw _ (List.mem_of_getElem? (i := 5) rfl))) (mvT hZ (hw _ (List.mem_of_getElem? (i := 6) rfl))) (mvT hZ (hw _ (List.mem_of_getElem? (i := 7) rfl))) (by decide) (backOf (W := 1) (rm1 l Z a0 hw [] b5 (1 : Int32) v2 b7  h7 n0 (Nat.le_trans Z0 K7.1) f9 ge5 f10 f11 f12) hZ (hw _ (List.mem_of_getElem? (i := 7) rfl)) (hw _ (List.mem_of_getElem? (i := 3) rfl)) (by decide) (by decide)) (g := (mkF m 31 #[.val (.int p0), .val (.long q1), .second, .val (.int p2), .val (.int v2), .val (.int v4), .unset, .unset, .unset, .unset, .unset] [(.ref b7), (.int v2), (.int (1 : Int32)), (.ref b5), (.ref b5)])) rfl (by rw [hml]; rfl) (Steps.refl _) (a := b5) (argsL := [(.int (1 : Int32)), (.int v2), (.ref b7)]) (rest := [(.ref b5)]) (lenOf pd__28_II_5b_I_29_V rfl) rfl (by show 2 * 0 + _ ≤ _; exact Nat.le_of_eq rfl) (hb hby at_31) (fun _ _ => ⟨rfl, e7, (by decide : 2 + 0 ≤ _), (by decide : 67 + 0 ≤ _)⟩)
  dsimp only [Pt.U, Pt.locs, Pt.cells, Pt.slots] at X8 l8 y8 z8 st8 hQ8
  subst l8 y8 z8
  obtain ⟨rfl, N8q, K8c, c8_0, c8_1⟩ := hQ8
  have N8 := Fr.app N0 N8q
  have K8 : Keep h0 T8.heap [] := K7.trans K8c (allS (Or.inr sz5) all0)
  obtain ⟨M8, Y8, N8⟩ : ∃ M, Stand p l e room_1 s m #[(.int p0), (.long q1), (.int p2)] below meth c T8 M 2 67 ∧ Fr n0 M := ⟨_, X8, N8⟩
  have pre8 : Lead p e below G (T8.setTop (mkF m 34 #[.val (.int p0), .val (.long q1), .second, .val (.int p2), .val (.int v2), .val (.int v4), .unset, .unset, .unset, .unset, .unset] [(.ref b5)])) := fun t k => pre7 t (st8.trans k)
  have pre13 : Lead p e below G (T8.setTop (mkF m 39 #[.val (.int p0), .val (.long q1), .second, .val (.int p2), .val (.int v2), .val (.int v4), .val (.ref b5), .unset, .unset, .unset, .unset] [(.long q1), (.ref b5)])) := fun t k => by
    refine pre8 t ?_
    show Steps p.tables e below (T8.setTop (mkF m 34 #[.val (.int p0), .val (.long q1), .second, .val (.int p2), .val (.int v2), .val (.int v4), .unset, .unset, .unset, .unset, .unset] [(.ref b5)])) _
    refine XS.astore Y8.here hx rfl (hb hby at_34) rfl rfl (l' := #[.val (.int p0), .val (.long q1), .second, .val (.int p2), .val (.int v2), .val (.int v4), .val (.ref b5), .unset, .unset, .unset, .unset]) rfl ?_
    show Steps p.tables e below (T8.setTop (mkF m 36 #[.val (.int p0), .val (.long q1), .second, .val (.int p2), .val (.int v2), .val (.int v4), .val (.ref b5), .unset, .unset, .unset, .unset] [])) _
    refine XS.aload Y8.here hx rfl (hb hby at_36) rfl rfl ?_
    show Steps p.tables e below (T8.setTop (mkF m 38 #[.val (.int p0), .val (.long q1), .second, .val (.int p2), .val (.int v2), .val (.int v4), .val (.ref b5), .unset, .unset, .unset, .unset] [(.ref b5)])) _
    refine XS.lloadN Y8.here hx rfl (hb hby at_38) rfl ?_
    show Steps p.tables e below (T8.setTop (mkF m 39 #[.val (.int p0), .val (.long q1), .second, .val (.int p2), .val (.int v2), .val (.int v4), .val (.ref b5), .unset, .unset, .unset, .unset] [(.long q1), (.ref b5)])) _
    exact k
  obtain ⟨cq14, kq14, q14a, q14b, q14c⟩ := isOf hZ rfl c8_0
  obtain ⟨_, _, ⟨T14, L14, k14, n14⟩, -, X14, ⟨Lc14, hQ14, l14, y14, z14⟩, st14⟩ := Y8.virtualBack hx (y := (⟨"com/example/libnear/libnear/hamming/BitSampling", "neighbours", "(J)[J"⟩ : MethodName)) (z := (⟨"com/example/libnear/libnear/hamming/BitSampling", "neighbours", "(J)[J"⟩ : MethodName)) hown (mvT hZ (hw _ (List.mem_of_getElem? (i := 17) rfl))) (mvT hZ (hw _ (List.mem_of_getElem? (i := 18) rfl))) (notFace_of_selects (args := #[]) (mvT hZ (hw _ (List.mem_of_getElem? (i := 20) rfl)))) (mvT hZ (hw _ (List.mem_of_getElem? (i := 20) rfl))) (mvT hZ (hw _ (List.mem_of_getElem? (i := 19) rfl))) (by decide) (backOf (W := 0) (rm3 l Z a0 hw [] b5 q1 v2 T8.heap n0 (Nat.le_trans Z0 K8.1) c8_1 (show ¬ v2 < 0 from (by subst hv4 hv2; exact (own_s p0).1)) (show v2.toInt ≤ 64 from (by subst hv4 hv2; exact (own_s p0).2.2.1)) (show v2.toNatClampNeg ≤ 64 from (by subst hv4 hv2; exact (own_s p0).2.1))) hZ (hw _ (List.mem_of_getElem? (i := 21) rfl)) (hw _ (List.mem_of_getElem? (i := 3) rfl)) (by decide) (by decide)) q14a q14c (g := (mkF m 39 #[.val (.int p0), .val (.long q1), .second, .val (.int p2), .val (.int v2), .val (.int v4), .val (.ref b5), .unset, .unset, .unset, .unset] [(.long q1), (.ref b5)])) rfl (by rw [hml]; rfl) (Steps.refl _) (argsL := [(.long q1)]) (rest := []) (lenOf pd__28_J_29__5b_J rfl) rfl (by show 2 * 0 + _ ≤ _; exact Nat.le_of_eq rfl) (hb hby at_39) (fun _ _ => ⟨rfl, rfl, (by decide : 2 + 1 ≤ _), (by decide : 67 + 64 ≤ _)⟩)
  dsimp only [Pt.U, Pt.locs, Pt.cells, Pt.slots] at X14 l14 y14 z14 st14 hQ14
  subst l14 y14 z14
  obtain ⟨rb_14, gr_14, rfl, N14q, K14c, c14_0, c14_1, c14_2⟩ := hQ14
  have N14 := Fr.app N8 N14q
  have ne14_b5_rb_14 : b5 ≠ rb_14 := Nat.ne_of_lt (Nat.lt_of_lt_of_le c8_0.lt c14_0)
  have f15 : JV Value.int Z T8.heap b7 .int v2 (fun _ => (0 : Int32)) := (V7.keep K8c (ninS (Ne.symm ne7_b5) nin0))
  have ne14_b7_rb_14 : b7 ≠ rb_14 := Nat.ne_of_lt (Nat.lt_of_lt_of_le f15.lt c14_0)
  have szrb_14 : h0.size ≤ rb_14 := Nat.le_trans K8.1 c14_0
  have gerb_14 : n0 ≤ rb_14 := Nat.le_trans Z0 szrb_14
  have K14 : Keep h0 T14.heap [] := K8.trans K14c all0
  obtain ⟨M14, Y14, N14⟩ : ∃ M, Stand p l e room_1 s m #[(.int p0), (.long q1), (.int p2)] below meth c T14 M 3 131 ∧ Fr n0 M := ⟨_, X14, N14⟩
  have pre14 : Lead p e below G (T14.setTop (mkF m 42 #[.val (.int p0), .val (.long q1), .second, .val (.int p2), .val (.int v2), .val (.int v4), .val (.ref b5), .unset, .unset, .unset, .unset] [(.ref rb_14)])) := fun t k => pre13 t (st14.trans k)
  have pre16 : Lead p e below G (T14.setTop (mkF m 46 #[.val (.int p0), .val (.long q1), .second, .val (.int p2), .val (.int v2), .val (.int v4), .val (.ref b5), .val (.ref rb_14), .unset, .unset, .unset] [(.ref rb_14)])) := fun t k => by
    refine pre14 t ?_
    show Steps p.tables e below (T14.setTop (mkF m 42 #[.val (.int p0), .val (.long q1), .second, .val (.int p2), .val (.int v2), .val (.int v4), .val (.ref b5), .unset, .unset, .unset, .unset] [(.ref rb_14)])) _
    refine XS.astore Y14.here hx rfl (hb hby at_42) rfl rfl (l' := #[.val (.int p0), .val (.long q1), .second, .val (.int p2), .val (.int v2), .val (.int v4), .val (.ref b5), .val (.ref rb_14), .unset, .unset, .unset]) rfl ?_
    show Steps p.tables e below (T14.setTop (mkF m 44 #[.val (.int p0), .val (.long q1), .second, .val (.int p2), .val (.int v2), .val (.int v4), .val (.ref b5), .val (.ref rb_14), .unset, .unset, .unset] [])) _
    refine XS.aload Y14.here hx rfl (hb hby at_44) rfl rfl ?_
    show Steps p.tables e below (T14.setTop (mkF m 46 #[.val (.int p0), .val (.long q1), .second, .val (.int p2), .val (.int v2), .val (.int v4), .val (.ref b5), .val (.ref rb_14), .unset, .unset, .unset] [(.ref rb_14)])) _
    exact k
  obtain ⟨cl17, Ar17, len17⟩ := c14_1.len
  have st17 := Y14.arraylength hx Ar17.1 (State.isArrayOf_alike hZ.alike Ar17.2.1) (g := (mkF m 46 #[.val (.int p0), .val (.long q1), .second, .val (.int p2), .val (.int v2), .val (.int v4), .val (.ref b5), .val (.ref rb_14), .unset, .unset, .unset] [(.ref rb_14)])) rfl rfl (hb hby at_46)
  rw [len17] at st17
  have pre17 : Lead p e below G (T14.setTop (mkF m 47 #[.val (.int p0), .val (.long q1), .second, .val (.int p2), .val (.int v2), .val (.int v4), .val (.ref b5), .val (.ref rb_14), .unset, .unset, .unset] [(.int v2)])) := fun t k => pre16 t (st17 _ k)
  have pre18 : Lead p e below G (T14.setTop (mkF m 65 #[.val (.int p0), .val (.long q1), .second, .val (.int p2), .val (.int v2), .val (.int v4), .val (.ref b5), .val (.ref rb_14), .val (.long ((((1 : Int64) <<< ((v2 - (1 : Int32)) &&& 0x3f).toInt64).toUInt64 >>> (v4 &&& 0x3f).toInt64.toUInt64).toInt64)), .second, .unset] [])) := fun t k => by
    refine pre17 t ?_
    show Steps p.tables e below (T14.setTop (mkF m 47 #[.val (.int p0), .val (.long q1), .second, .val (.int p2), .val (.int v2), .val (.int v4), .val (.ref b5), .val (.ref rb_14), .unset, .unset, .unset] [(.int v2)])) _
    refine XS.iload Y14.here hx rfl (hb hby at_47) rfl ?_
    show Steps p.tables e below (T14.setTop (mkF m 49 #[.val (.int p0), .val (.long q1), .second, .val (.int p2), .val (.int v2), .val (.int v4), .val (.ref b5), .val (.ref rb_14), .unset, .unset, .unset] [(.int v2), (.int v2)])) _
    refine XS.icmpYes Y14.here hx rfl (pc0 := 49) (pc' := 54) rfl (hb hby at_49) rfl (teq rfl).1 (by decide) (by decide) ?_
    show Steps p.tables e below (T14.setTop (mkF m 54 #[.val (.int p0), .val (.long q1), .second, .val (.int p2), .val (.int v2), .val (.int v4), .val (.ref b5), .val (.ref rb_14), .unset, .unset, .unset] [])) _
    refine XS.lconst Y14.here hx rfl (hb hby at_54) ?_
    show Steps p.tables e below (T14.setTop (mkF m 55 #[.val (.int p0), .val (.long q1), .second, .val (.int p2), .val (.int v2), .val (.int v4), .val (.ref b5), .val (.ref rb_14), .unset, .unset, .unset] [(.long (1 : Int64))])) _
    refine XS.iload Y14.here hx rfl (hb hby at_55) rfl ?_
    show Steps p.tables e below (T14.setTop (mkF m 57 #[.val (.int p0), .val (.long q1), .second, .val (.int p2), .val (.int v2), .val (.int v4), .val (.ref b5), .val (.ref rb_14), .unset, .unset, .unset] [(.int v2), (.long (1 : Int64))])) _
    refine XS.iconst Y14.here hx rfl (hb hby at_57) ?_
    show Steps p.tables e below (T14.setTop (mkF m 58 #[.val (.int p0), .val (.long q1), .second, .val (.int p2), .val (.int v2), .val (.int v4), .val (.ref b5), .val (.ref rb_14), .unset, .unset, .unset] [(.int (1 : Int32)), (.int v2), (.long (1 : Int64))])) _
    refine XS.isub Y14.here hx rfl (hb hby at_58) rfl ?_
    show Steps p.tables e below (T14.setTop (mkF m 59 #[.val (.int p0), .val (.long q1), .second, .val (.int p2), .val (.int v2), .val (.int v4), .val (.ref b5), .val (.ref rb_14), .unset, .unset, .unset] [(.int (v2 - (1 : Int32))), (.long (1 : Int64))])) _
    refine XS.lshl Y14.here hx rfl (hb hby at_59) rfl ?_
    show Steps p.tables e below (T14.setTop (mkF m 60 #[.val (.int p0), .val (.long q1), .second, .val (.int p2), .val (.int v2), .val (.int v4), .val (.ref b5), .val (.ref rb_14), .unset, .unset, .unset] [(.long ((1 : Int64) <<< ((v2 - (1 : Int32)) &&& 0x3f).toInt64))])) _
    refine XS.iload Y14.here hx rfl (hb hby at_60) rfl ?_
    show Steps p.tables e below (T14.setTop (mkF m 62 #[.val (.int p0), .val (.long q1), .second, .val (.int p2), .val (.int v2), .val (.int v4), .val (.ref b5), .val (.ref rb_14), .unset, .unset, .unset] [(.int v4), (.long ((1 : Int64) <<< ((v2 - (1 : Int32)) &&& 0x3f).toInt64))])) _
    refine XS.lushr Y14.here hx rfl (hb hby at_62) rfl ?_
    show Steps p.tables e below (T14.setTop (mkF m 63 #[.val (.int p0), .val (.long q1), .second, .val (.int p2), .val (.int v2), .val (.int v4), .val (.ref b5), .val (.ref rb_14), .unset, .unset, .unset] [(.long ((((1 : Int64) <<< ((v2 - (1 : Int32)) &&& 0x3f).toInt64).toUInt64 >>> (v4 &&& 0x3f).toInt64.toUInt64).toInt64))])) _
    refine XS.lstore Y14.here hx rfl (hb hby at_63) rfl (l' := #[.val (.int p0), .val (.long q1), .second, .val (.int p2), .val (.int v2), .val (.int v4), .val (.ref b5), .val (.ref rb_14), .val (.long ((((1 : Int64) <<< ((v2 - (1 : Int32)) &&& 0x3f).toInt64).toUInt64 >>> (v4 &&& 0x3f).toInt64.toUInt64).toInt64)), .second, .unset]) rfl ?_
    show Steps p.tables e below (T14.setTop (mkF m 65 #[.val (.int p0), .val (.long q1), .second, .val (.int p2), .val (.int v2), .val (.int v4), .val (.ref b5), .val (.ref rb_14), .val (.long ((((1 : Int64) <<< ((v2 - (1 : Int32)) &&& 0x3f).toInt64).toUInt64 >>> (v4 &&& 0x3f).toInt64.toUInt64).toInt64)), .second, .unset] [])) _
    exact k
  obtain ⟨v19, hv19⟩ : ∃ z : Int64, z = ((((1 : Int64) <<< ((v2 - (1 : Int32)) &&& 0x3f).toInt64).toUInt64 >>> (v4 &&& 0x3f).toInt64.toUInt64).toInt64) := ⟨_, rfl⟩
  have pre19 : Lead p e below G (T14.setTop (mkF m 65 #[.val (.int p0), .val (.long q1), .second, .val (.int p2), .val (.int v2), .val (.int v4), .val (.ref b5), .val (.ref rb_14), .val (.long v19), .second, .unset] [])) := by rw [hv19]; exact pre18
  have pre20 : Lead p e below G (T14.setTop (mkF m 69 #[.val (.int p0), .val (.long q1), .second, .val (.int p2), .val (.int v2), .val (.int v4), .val (.ref b5), .val (.ref rb_14), .val (.long v19), .second, .unset] [(.int v4), (.ref rb_14)])) := fun t k => by
    refine pre19 t ?_
    show Steps p.tables e below (T14.setTop (mkF m 65 #[.val (.int p0), .val (.long q1), .second, .val (.int p2), .val (.int v2), .val (.int v4), .val (.ref b5), .val (.ref rb_14), .val (.long v19), .second, .unset] [])) _
    refine XS.aload Y14.here hx rfl (hb hby at_65) rfl rfl ?_
    show Steps p.tables e below (T14.setTop (mkF m 67 #[.val (.int p0), .val (.long q1), .second, .val (.int p2), .val (.int v2), .val (.int v4), .val (.ref b5), .val (.ref rb_14), .val (.long v19), .second, .unset] [(.ref rb_14)])) _
    refine XS.iload Y14.here hx rfl (hb hby at_67) rfl ?_
    show Steps p.tables e below (T14.setTop (mkF m 69 #[.val (.int p0), .val (.long q1), .second, .val (.int p2), .val (.int v2), .val (.int v4), .val (.ref b5), .val (.ref rb_14), .val (.long v19), .second, .unset] [(.int v4), (.ref rb_14)])) _
    exact k
  obtain ⟨cl21, Ar21, hin21, hat21⟩ := c14_1.in (j := v4) (by subst hv19 hv4 hv2; exact (own_ib p0 p2))
  have st21 := Y14.laload hx (j := v4) (v := (.long (gr_14 (v4).toNatClampNeg))) Ar21.1 (State.isArrayOf_alike hZ.alike Ar21.2.1) Ar21.2.2 hin21 hat21 (g := (mkF m 69 #[.val (.int p0), .val (.long q1), .second, .val (.int p2), .val (.int v2), .val (.int v4), .val (.ref b5), .val (.ref rb_14), .val (.long v19), .second, .unset] [(.int v4), (.ref rb_14)])) rfl rfl (hb hby at_69)
  have pre21 : Lead p e below G (T14.setTop (mkF m 70 #[.val (.int p0), .val (.long q1), .second, .val (.int p2), .val (.int v2), .val (.int v4), .val (.ref b5), .val (.ref rb_14), .val (.long v19), .second, .unset] [(.long (gr_14 (v4).toNatClampNeg))])) := fun t k => pre20 t (st21 _ k)
  have hf22 : ((gr_14 (v4).toNatClampNeg) ^^^ q1) = v19 := (by subst hv19 hv4 hv2; exact own_flip1 p0 p2 q1 c14_2)
  have pre23 : Lead p e below G (T14.setTop (mkF m 86 #[.val (.int p0), .val (.long q1), .second, .val (.int p2), .val (.int v2), .val (.int v4), .val (.ref b5), .val (.ref rb_14), .val (.long v19), .second, .unset] [(.int v4), (.ref rb_14), (.ref b5)])) := fun t k => by
    refine pre21 t ?_
    show Steps p.tables e below (T14.setTop (mkF m 70 #[.val (.int p0), .val (.long q1), .second, .val (.int p2), .val (.int v2), .val (.int v4), .val (.ref b5), .val (.ref rb_14), .val (.long v19), .second, .unset] [(.long (gr_14 (v4).toNatClampNeg))])) _
    refine XS.lloadN Y14.here hx rfl (hb hby at_70) rfl ?_
    show Steps p.tables e below (T14.setTop (mkF m 71 #[.val (.int p0), .val (.long q1), .second, .val (.int p2), .val (.int v2), .val (.int v4), .val (.ref b5), .val (.ref rb_14), .val (.long v19), .second, .unset] [(.long q1), (.long (gr_14 (v4).toNatClampNeg))])) _
    refine XS.lxor Y14.here hx rfl (hb hby at_71) rfl ?_
    show Steps p.tables e below (T14.setTop (mkF m 72 #[.val (.int p0), .val (.long q1), .second, .val (.int p2), .val (.int v2), .val (.int v4), .val (.ref b5), .val (.ref rb_14), .val (.long v19), .second, .unset] [(.long ((gr_14 (v4).toNatClampNeg) ^^^ q1))])) _
    refine XS.lload Y14.here hx rfl (hb hby at_72) rfl ?_
    show Steps p.tables e below (T14.setTop (mkF m 74 #[.val (.int p0), .val (.long q1), .second, .val (.int p2), .val (.int v2), .val (.int v4), .val (.ref b5), .val (.ref rb_14), .val (.long v19), .second, .unset] [(.long v19), (.long ((gr_14 (v4).toNatClampNeg) ^^^ q1))])) _
    refine XS.lcmp Y14.here hx rfl (hb hby at_74) rfl ?_
    show Steps p.tables e below (T14.setTop (mkF m 75 #[.val (.int p0), .val (.long q1), .second, .val (.int p2), .val (.int v2), .val (.int v4), .val (.ref b5), .val (.ref rb_14), .val (.long v19), .second, .unset] [(.int (lcmpW ((gr_14 (v4).toNatClampNeg) ^^^ q1) v19))])) _
    refine XS.ifYes Y14.here hx rfl (pc0 := 75) (pc' := 80) rfl (hb hby at_75) rfl ((if0 _ _).trans (teq (own_lc_eq.mpr hf22)).1) (by decide) (by decide) ?_
    show Steps p.tables e below (T14.setTop (mkF m 80 #[.val (.int p0), .val (.long q1), .second, .val (.int p2), .val (.int v2), .val (.int v4), .val (.ref b5), .val (.ref rb_14), .val (.long v19), .second, .unset] [])) _
    refine XS.aload Y14.here hx rfl (hb hby at_80) rfl rfl ?_
    show Steps p.tables e below (T14.setTop (mkF m 82 #[.val (.int p0), .val (.long q1), .second, .val (.int p2), .val (.int v2), .val (.int v4), .val (.ref b5), .val (.ref rb_14), .val (.long v19), .second, .unset] [(.ref b5)])) _
    refine XS.aload Y14.here hx rfl (hb hby at_82) rfl rfl ?_
    show Steps p.tables e below (T14.setTop (mkF m 84 #[.val (.int p0), .val (.long q1), .second, .val (.int p2), .val (.int v2), .val (.int v4), .val (.ref b5), .val (.ref rb_14), .val (.long v19), .second, .unset] [(.ref rb_14), (.ref b5)])) _
    refine XS.iload Y14.here hx rfl (hb hby at_84) rfl ?_
    show Steps p.tables e below (T14.setTop (mkF m 86 #[.val (.int p0), .val (.long q1), .second, .val (.int p2), .val (.int v2), .val (.int v4), .val (.ref b5), .val (.ref rb_14), .val (.long v19), .second, .unset] [(.int v4), (.ref rb_14), (.ref b5)])) _
    exact k
  obtain ⟨cl24, Ar24, hin24, hat24⟩ := c14_1.in (j := v4) (by subst hv19 hv4 hv2; exact (own_ib p0 p2))
  have st24 := Y14.laload hx (j := v4) (v := (.long (gr_14 (v4).toNatClampNeg))) Ar24.1 (State.isArrayOf_alike hZ.alike Ar24.2.1) Ar24.2.2 hin24 hat24 (g := (mkF m 86 #[.val (.int p0), .val (.long q1), .second, .val (.int p2), .val (.int v2), .val (.int v4), .val (.ref b5), .val (.ref rb_14), .val (.long v19), .second, .unset] [(.int v4), (.ref rb_14), (.ref b5)])) rfl rfl (hb hby at_86)
  have pre24 : Lead p e below G (T14.setTop (mkF m 87 #[.val (.int p0), .val (.long q1), .second, .val (.int p2), .val (.int v2), .val (.int v4), .val (.ref b5), .val (.ref rb_14), .val (.long v19), .second, .unset] [(.long (gr_14 (v4).toNatClampNeg)), (.ref b5)])) := fun t k => pre23 t (st24 _ k)
  have f26 : Fld Z T14.heap b5 "com/example/libnear/libnear/hamming/BitSampling" "sample" "I" (.int v2) := (c8_1.keep K14c nin0)
  have f27 : Exa Z T14.heap b5 "com/example/libnear/libnear/hamming/BitSampling" := (c8_0.keep K14c)
  obtain ⟨cq25, kq25, q25a, q25b, q25c⟩ := isOf hZ rfl f27
  obtain ⟨_, _, ⟨T25, L25, k25, n25⟩, -, X25, ⟨Lc25, hQ25, l25, y25, z25⟩, st25⟩ := Y14.virtualBack hx (y := (⟨"com/example/libnear/libnear/hamming/BitSampling", "neighbours", "(J)[J"⟩ : MethodName)) (z := (⟨"com/example/libnear/libnear/hamming/BitSampling", "neighbours", "(J)[J"⟩ : MethodName)) hown (mvT hZ (hw _ (List.mem_of_getElem? (i := 17) rfl))) (mvT hZ (hw _ (List.mem_of_getElem? (i := 18) rfl))) (notFace_of_selects (args := #[]) (mvT hZ (hw _ (List.mem_of_getElem? (i := 20) rfl)))) (mvT hZ (hw _ (List.mem_of_getElem? (i := 20) rfl))) (mvT hZ (hw _ (List.mem_of_getElem? (i := 19) rfl))) (by decide) (backOf (W := 0) (rm3 l Z a0 hw [] b5 (gr_14 (v4).toNatClampNeg) v2 T14.heap n0 (Nat.le_trans Z0 K14.1) f26 (show ¬ v2 < 0 from (by subst hv19 hv4 hv2; exact (own_s p0).1)) (show v2.toInt ≤ 64 from (by subst hv19 hv4 hv2; exact (own_s p0).2.2.1)) (show v2.toNatClampNeg ≤ 64 from (by subst hv19 hv4 hv2; exact (own_s p0).2.1))) hZ (hw _ (List.mem_of_getElem? (i := 21) rfl)) (hw _ (List.mem_of_getElem? (i := 3) rfl)) (by decide) (by decide)) q25a q25c (g := (mkF m 87 #[.val (.int p0), .val (.long q1), .second, .val (.int p2), .val (.int v2), .val (.int v4), .val (.ref b5), .val (.ref rb_14), .val (.long v19), .second, .unset] [(.long (gr_14 (v4).toNatClampNeg)), (.ref b5)])) rfl (by rw [hml]; rfl) (Steps.refl _) (argsL := [(.long (gr_14 (v4).toNatClampNeg))]) (rest := []) (lenOf pd__28_J_29__5b_J rfl) rfl (by show 2 * 0 + _ ≤ _; exact Nat.le_of_eq rfl) (hb hby at_87) (fun _ _ => ⟨rfl, rfl, (by decide : 3 + 1 ≤ _), (by decide : 131 + 64 ≤ _)⟩)
  dsimp only [Pt.U, Pt.locs, Pt.cells, Pt.slots] at X25 l25 y25 z25 st25 hQ25
  subst l25 y25 z25
  obtain ⟨rb_25, gr_25, rfl, N25q, K25c, c25_0, c25_1, c25_2⟩ := hQ25
  have N25 := Fr.app N14 N25q
  have ne25_b5_rb_25 : b5 ≠ rb_25 := Nat.ne_of_lt (Nat.lt_of_lt_of_le f27.lt c25_0)
  have f28 : JV Value.int Z T14.heap b7 .int v2 (fun _ => (0 : Int32)) := (f15.keep K14c nin0)
  have ne25_b7_rb_25 : b7 ≠ rb_25 := Nat.ne_of_lt (Nat.lt_of_lt_of_le f28.lt c25_0)
  have ne25_rb_14_rb_25 : rb_14 ≠ rb_25 := Nat.ne_of_lt (Nat.lt_of_lt_of_le c14_1.lt c25_0)
  have szrb_25 : h0.size ≤ rb_25 := Nat.le_trans K14.1 c25_0
  have gerb_25 : n0 ≤ rb_25 := Nat.le_trans Z0 szrb_25
  have K25 : Keep h0 T25.heap [] := K14.trans K25c all0
  obtain ⟨M25, Y25, N25⟩ : ∃ M, Stand p l e room_1 s m #[(.int p0), (.long q1), (.int p2)] below meth c T25 M 4 195 ∧ Fr n0 M := ⟨_, X25, N25⟩
  have pre25 : Lead p e below G (T25.setTop (mkF m 90 #[.val (.int p0), .val (.long q1), .second, .val (.int p2), .val (.int v2), .val (.int v4), .val (.ref b5), .val (.ref rb_14), .val (.long v19), .second, .unset] [(.ref rb_25)])) := fun t k => pre24 t (st25.trans k)
  have pre29 : Lead p e below G (T25.setTop (mkF m 94 #[.val (.int p0), .val (.long q1), .second, .val (.int p2), .val (.int v2), .val (.int v4), .val (.ref b5), .val (.ref rb_14), .val (.long v19), .second, .val (.ref rb_25)] [(.ref rb_25)])) := fun t k => by
    refine pre25 t ?_
    show Steps p.tables e below (T25.setTop (mkF m 90 #[.val (.int p0), .val (.long q1), .second, .val (.int p2), .val (.int v2), .val (.int v4), .val (.ref b5), .val (.ref rb_14), .val (.long v19), .second, .unset] [(.ref rb_25)])) _
    refine XS.astore Y25.here hx rfl (hb hby at_90) rfl rfl (l' := #[.val (.int p0), .val (.long q1), .second, .val (.int p2), .val (.int v2), .val (.int v4), .val (.ref b5), .val (.ref rb_14), .val (.long v19), .second, .val (.ref rb_25)]) rfl ?_
    show Steps p.tables e below (T25.setTop (mkF m 92 #[.val (.int p0), .val (.long q1), .second, .val (.int p2), .val (.int v2), .val (.int v4), .val (.ref b5), .val (.ref rb_14), .val (.long v19), .second, .val (.ref rb_25)] [])) _
    refine XS.aload Y25.here hx rfl (hb hby at_92) rfl rfl ?_
    show Steps p.tables e below (T25.setTop (mkF m 94 #[.val (.int p0), .val (.long q1), .second, .val (.int p2), .val (.int v2), .val (.int v4), .val (.ref b5), .val (.ref rb_14), .val (.long v19), .second, .val (.ref rb_25)] [(.ref rb_25)])) _
    exact k
  obtain ⟨cl30, Ar30, len30⟩ := c25_1.len
  have st30 := Y25.arraylength hx Ar30.1 (State.isArrayOf_alike hZ.alike Ar30.2.1) (g := (mkF m 94 #[.val (.int p0), .val (.long q1), .second, .val (.int p2), .val (.int v2), .val (.int v4), .val (.ref b5), .val (.ref rb_14), .val (.long v19), .second, .val (.ref rb_25)] [(.ref rb_25)])) rfl rfl (hb hby at_94)
  rw [len30] at st30
  have pre30 : Lead p e below G (T25.setTop (mkF m 95 #[.val (.int p0), .val (.long q1), .second, .val (.int p2), .val (.int v2), .val (.int v4), .val (.ref b5), .val (.ref rb_14), .val (.long v19), .second, .val (.ref rb_25)] [(.int v2)])) := fun t k => pre29 t (st30 _ k)
  have pre31 : Lead p e below G (T25.setTop (mkF m 106 #[.val (.int p0), .val (.long q1), .second, .val (.int p2), .val (.int v2), .val (.int v4), .val (.ref b5), .val (.ref rb_14), .val (.long v19), .second, .val (.ref rb_25)] [(.int v4), (.ref rb_25)])) := fun t k => by
    refine pre30 t ?_
    show Steps p.tables e below (T25.setTop (mkF m 95 #[.val (.int p0), .val (.long q1), .second, .val (.int p2), .val (.int v2), .val (.int v4), .val (.ref b5), .val (.ref rb_14), .val (.long v19), .second, .val (.ref rb_25)] [(.int v2)])) _
    refine XS.iload Y25.here hx rfl (hb hby at_95) rfl ?_
    show Steps p.tables e below (T25.setTop (mkF m 97 #[.val (.int p0), .val (.long q1), .second, .val (.int p2), .val (.int v2), .val (.int v4), .val (.ref b5), .val (.ref rb_14), .val (.long v19), .second, .val (.ref rb_25)] [(.int v2), (.int v2)])) _
    refine XS.icmpYes Y25.here hx rfl (pc0 := 97) (pc' := 102) rfl (hb hby at_97) rfl (teq rfl).1 (by decide) (by decide) ?_
    show Steps p.tables e below (T25.setTop (mkF m 102 #[.val (.int p0), .val (.long q1), .second, .val (.int p2), .val (.int v2), .val (.int v4), .val (.ref b5), .val (.ref rb_14), .val (.long v19), .second, .val (.ref rb_25)] [])) _
    refine XS.aload Y25.here hx rfl (hb hby at_102) rfl rfl ?_
    show Steps p.tables e below (T25.setTop (mkF m 104 #[.val (.int p0), .val (.long q1), .second, .val (.int p2), .val (.int v2), .val (.int v4), .val (.ref b5), .val (.ref rb_14), .val (.long v19), .second, .val (.ref rb_25)] [(.ref rb_25)])) _
    refine XS.iload Y25.here hx rfl (hb hby at_104) rfl ?_
    show Steps p.tables e below (T25.setTop (mkF m 106 #[.val (.int p0), .val (.long q1), .second, .val (.int p2), .val (.int v2), .val (.int v4), .val (.ref b5), .val (.ref rb_14), .val (.long v19), .second, .val (.ref rb_25)] [(.int v4), (.ref rb_25)])) _
    exact k
  obtain ⟨cl32, Ar32, hin32, hat32⟩ := c25_1.in (j := v4) (by subst hv19 hv4 hv2; exact (own_ib p0 p2))
  have st32 := Y25.laload hx (j := v4) (v := (.long (gr_25 (v4).toNatClampNeg))) Ar32.1 (State.isArrayOf_alike hZ.alike Ar32.2.1) Ar32.2.2 hin32 hat32 (g := (mkF m 106 #[.val (.int p0), .val (.long q1), .second, .val (.int p2), .val (.int v2), .val (.int v4), .val (.ref b5), .val (.ref rb_14), .val (.long v19), .second, .val (.ref rb_25)] [(.int v4), (.ref rb_25)])) rfl rfl (hb hby at_106)
  have pre32 : Lead p e below G (T25.setTop (mkF m 107 #[.val (.int p0), .val (.long q1), .second, .val (.int p2), .val (.int v2), .val (.int v4), .val (.ref b5), .val (.ref rb_14), .val (.long v19), .second, .val (.ref rb_25)] [(.long (gr_25 (v4).toNatClampNeg))])) := fun t k => pre31 t (st32 _ k)
  have hf33 : (gr_25 (v4).toNatClampNeg) = q1 := (by subst hv19 hv4 hv2; exact own_flip2 p0 p2 q1 c14_2 c25_2)
  obtain ⟨fs, hr, hrun, hended, hW, hsame⟩ := Y25.leave (v := some (.int (nar .boolean (1 : Int32)))) (fun h => by rw [Bd.returns] at h; cases h)
  subst hG
  refine ⟨_, _, pre32 _ ?_, hrun, hended, _, _, rfl, ?_, ⟨_, rfl⟩, hW, hsame.mono (by decide) (by decide)⟩
  · show Steps p.tables e below (T25.setTop (mkF m 107 #[.val (.int p0), .val (.long q1), .second, .val (.int p2), .val (.int v2), .val (.int v4), .val (.ref b5), .val (.ref rb_14), .val (.long v19), .second, .val (.ref rb_25)] [(.long (gr_25 (v4).toNatClampNeg))])) _
    refine XS.lloadN Y25.here hx rfl (hb hby at_107) rfl ?_
    show Steps p.tables e below (T25.setTop (mkF m 108 #[.val (.int p0), .val (.long q1), .second, .val (.int p2), .val (.int v2), .val (.int v4), .val (.ref b5), .val (.ref rb_14), .val (.long v19), .second, .val (.ref rb_25)] [(.long q1), (.long (gr_25 (v4).toNatClampNeg))])) _
    refine XS.lcmp Y25.here hx rfl (hb hby at_108) rfl ?_
    show Steps p.tables e below (T25.setTop (mkF m 109 #[.val (.int p0), .val (.long q1), .second, .val (.int p2), .val (.int v2), .val (.int v4), .val (.ref b5), .val (.ref rb_14), .val (.long v19), .second, .val (.ref rb_25)] [(.int (lcmpW (gr_25 (v4).toNatClampNeg) q1))])) _
    refine XS.ifNo Y25.here hx rfl (hb hby at_109) rfl ((if0 _ _).trans (teq (own_lc_eq.mpr hf33)).2) ?_
    show Steps p.tables e below (T25.setTop (mkF m 112 #[.val (.int p0), .val (.long q1), .second, .val (.int p2), .val (.int v2), .val (.int v4), .val (.ref b5), .val (.ref rb_14), .val (.long v19), .second, .val (.ref rb_25)] [])) _
    refine XS.iconst Y25.here hx rfl (hb hby at_112) ?_
    show Steps p.tables e below (T25.setTop (mkF m 113 #[.val (.int p0), .val (.long q1), .second, .val (.int p2), .val (.int v2), .val (.int v4), .val (.ref b5), .val (.ref rb_14), .val (.long v19), .second, .val (.ref rb_25)] [(.int (1 : Int32))])) _
    refine XS.goto Y25.here hx rfl (pc0 := 113) (pc' := 117) rfl (hb hby at_113) (by decide) (by decide) ?_
    show Steps p.tables e below (T25.setTop (mkF m 117 #[.val (.int p0), .val (.long q1), .second, .val (.int p2), .val (.int v2), .val (.int v4), .val (.ref b5), .val (.ref rb_14), .val (.long v19), .second, .val (.ref rb_25)] [(.int (1 : Int32))])) _
    exact retN Y25 hx (t := .boolean) Bd.returns (by simp) (hb hby at_117) hr
  · show Q0 Z p0 q1 p2 h0 n0 _ T25.heap _
    refine ⟨congrArg (fun z => some (Value.int z)) (?_ : (nar .boolean (1 : Int32)) = 1), N25⟩
    decide
set_option maxRecDepth 65536 in
set_option maxHeartbeats 40000000 in
theorem comes_1 {Post : Tables → Env → Array Value → State → Outcome → State → Prop} (hpost : ∀ tb e args s v u, (limb_1_1.after args s (.returned v) u = true ∧ limb_1_2.after args s (.returned v) u = true ∧ True) → FrameEnd s (.returned v) u (Jvm.fieldLocs frame_1_writes args s ++ Jvm.arrayLocs frame_1_arrays args s ++ Jvm.staticLocs frame_1_statics s) 16 320 → Post tb e args s (.returned v) u) :
    ArmFor flags0 classFile x code maxLocals ret World_1 tables_1 room_1 Calls_1 rest_1 Pre_1 Post := by
  intro l hfl _ _ p e ha hc hk s m args below hf hA hF happ hP
  obtain ⟨hcalls, hrest, hpre⟩ := hP
  obtain ⟨-, -, -, hnamed, -, -, -, hat⟩ := (Spec.applies_iff hf).mp happ
  obtain ⟨hg, hn⟩ := and_e (Cond.before_iff.mp (show (Jvm.Cond.and given_1 narrow_1).before args s = true from hpre))
  obtain ⟨g1, g2⟩ := and_e hg
  obtain ⟨g3, g4⟩ := and_e g2
  obtain ⟨g5, g6⟩ := and_e g4
  obtain ⟨w0, w1, w2, rfl⟩ : ∃ w0 w1 w2 : Value, args = #[w0, w1, w2] := by
    have hs : args.size = 3 := by simpa [Cond.value, given_1] using g1
    obtain ⟨L⟩ := args
    match L, hs with
    | [w0, w1, w2], _ => exact ⟨w0, w1, w2, rfl⟩
  have hw := fun d (hd : d ∈ tables_1) => atoms_spec (ws := Jvm.Cond.code x code maxLocals ret :: tables_1) hat d (List.mem_cons_of_mem _ hd)
  obtain ⟨i0, ei0⟩ := is_v g3
  obtain rfl : w0 = (.int i0) := Option.some.inj ei0
  obtain ⟨i1, ei1⟩ := isL_v g5
  obtain rfl : w1 = (.long i1) := Option.some.inj ei1
  obtain ⟨i2, ei2⟩ := is_v g6
  obtain rfl : w2 = (.int i2) := Option.some.inj ei2
  obtain ⟨n, o, h1, h2, h3, _, L, rfl, ⟨rfl, N⟩, hq⟩ := rm0 l s _ hw tables_1 i0 i1 i2 s.heap s.heap.size (Nat.le_refl _) p e ha hc hk s m _ below hf ((Spec.applies_iff_loose hf).mp happ).1 ⟨rfl, State.Warmed39.refl s, rfl⟩ trivial
  refine ⟨n, _, h1, h2, h3, hpost _ _ _ _ _ _ ⟨Cond.after_iff.mpr rfl, Cond.after_iff.mpr (eq_i res_at (Term.int_eval (1)) rfl), trivial⟩ ⟨hq.1, hq.2.1, (hq.2.2.sift fun y hy => Or.inr (N y hy)).mono (by decide) (by decide)⟩⟩
theorem main_1_1 : Claimed_1_1 := comes_1 fun _ _ _ _ _ _ h hF => ⟨h.1, hF⟩
theorem main_1_2 : Claimed_1_2 := comes_1 fun _ _ _ _ _ _ h hF => ⟨h.2.1, hF⟩
end Jvm.Pilot.@@N@@
namespace Jvm.Pilot.@@N@@
open Jvm Jvm.ClassFile Sem Op Lib Jvm.Free Jvm.Stand Jvm.Pilot.@@N@@.Jvm.D
/-! MADE BY PROGRAM (witnessworld.py) out of the Statement's table words and the real class files: 11 classes; the members and pool entries that the words name. The judged class is class 1, her method 1. -/
namespace start1
open Jvm.ClassFile
def u (s : String) : CpInfo := .utf8 (stringToUtf16 s)
/-- a pool by its gaps: so many unusable entries, then the entry; so many at the end -/
def gap : Nat → List CpInfo → List CpInfo
  | 0, r => r
  | n + 1, r => .unusable :: gap n r
def poolList (es : List (Nat × CpInfo)) (last : Nat) : List CpInfo := es.foldr (fun e r => gap e.1 (e.2 :: r)) (gap last [])
def pool (es : List (Nat × CpInfo)) (last : Nat) : Array CpInfo := ⟨poolList es last⟩
def fileOf (pool : Array CpInfo) (this : Nat) (attrs : Array Attribute := #[]) (ms : Array MethodInfo := #[]) (fl : Nat := 33) (sup : Nat := 0) (ifs : Array Nat := #[]) (fds : Array FieldInfo := #[]) : ClassFile where
  minorVersion := 0
  majorVersion := 65
  constantPool := pool
  accessFlags := fl
  thisClass := this
  superClass := sup
  interfaces := ifs
  fields := fds
  methods := ms
  attributes := attrs
def plain (name : String) (sup : Option ClassId) : Class where
  name := name
  kind := .ordinary
  loader := none
  accessFlags := 33
  super := sup
  interfaces := #[]
  cf := none
  fields := #[]
  methods := #[]
  instanceTypes := #[]
  staticTypes := #[]
  resolved := #[]
  callSites := []
  init := .initialized
  statics := none
  mirror := none

def pool0 : Array CpInfo := pool [(5, u "<init>"), (0, u "()V"), (1, .class_ 10), (1, u "java/lang/Object")] 113

def k0c0 : Code := { maxStack := 0, maxLocals := 1, code := object_method_1_code, exceptionTable := #[], attributes := #[] }
def k0m0 : Method := { name := "<init>", desc := "()V", sig := { parameters := [], returnType := none }, accessFlags := 1, code := some k0c0 }
/-- java/lang/Object -/
def k0 : Class := { plain "java/lang/Object" none with
  accessFlags := 33
  interfaces := #[]
  cf := some (fileOf pool0 8 #[] #[{ accessFlags := 1, nameIndex := 5, descriptorIndex := 6, attributes := #[] }] 33 0 #[] #[])
  fields := #[]
  methods := #[k0m0]
  instanceTypes := #[]
  staticTypes := #[]
  resolved := Array.replicate 124 none
  statics := none }

def pool1 : Array CpInfo := pool [(2, .class_ 4), (1, u "java/lang/Object"), (0, u "<init>"), (0, u "()V"), (0, .integer 2147483647), (0, .class_ 9), (0, u "com/example/libnear/libnear/hamming/BitSampling"), (0, .methodref 8 11), (0, .nameAndType 5 12), (0, u "(II[I)V"), (0, .methodref 8 14), (0, .nameAndType 15 16), (0, u "neighbours"), (0, u "(J)[J"), (0, .class_ 18), (0, u "com/example/libnear/libnear/hamming/BitSamplingNeighboursPinLaw"), (2, u "law"), (0, u "(IJI)Z")] 5

def k1m0 : Method := { name := "<init>", desc := "()V", sig := { parameters := [], returnType := none }, accessFlags := 1, code := none }
def k1c1 : Code := { maxStack := 5, maxLocals := 11, code := code, exceptionTable := #[], attributes := #[] }
def k1m1 : Method := { name := "law", desc := "(IJI)Z", sig := { parameters := [.int, .long, .int], returnType := some .boolean }, accessFlags := 9, code := some k1c1 }
/-- com/example/libnear/libnear/hamming/BitSamplingNeighboursPinLaw -/
def k1 : Class := { plain "com/example/libnear/libnear/hamming/BitSamplingNeighboursPinLaw" (some 0) with
  accessFlags := 49
  interfaces := #[]
  cf := some (fileOf pool1 17 #[] #[{ accessFlags := 1, nameIndex := 5, descriptorIndex := 6, attributes := #[] }, { accessFlags := 9, nameIndex := 21, descriptorIndex := 22, attributes := #[] }] 49 2 #[] #[])
  fields := #[]
  methods := #[k1m0, k1m1]
  instanceTypes := #[]
  staticTypes := #[]
  resolved := Array.replicate 28 none
  statics := none }

def pool2 : Array CpInfo := pool [(3, .methodref 4 5), (0, .class_ 6), (0, .nameAndType 7 8), (0, u "java/lang/Object"), (0, u "<init>"), (0, u "()V"), (0, .fieldref 10 11), (0, .class_ 12), (0, .nameAndType 13 14), (0, u "com/example/libnear/libnear/hamming/BitSampling"), (0, u "length"), (0, u "I"), (0, .fieldref 10 16), (0, .nameAndType 17 14), (0, u "sample"), (0, .fieldref 10 19), (0, .nameAndType 20 21), (0, u "positions"), (0, u "[I"), (12, u "(II[I)V"), (7, .class_ 43), (0, u "com/example/libnear/libnear/hamming/BitSampling$Dealer"), (73, u "MAX_SAMPLE"), (16, u "MAX_POSITIONS"), (13, u "neighbours"), (0, u "(J)[J")] 35

def k2c0 : Code := { maxStack := 2, maxLocals := 4, code := prog_63_method_1_code, exceptionTable := #[], attributes := #[] }
def k2m0 : Method := { name := "<init>", desc := "(II[I)V", sig := { parameters := [.int, .int, (.array .int)], returnType := none }, accessFlags := 0, code := some k2c0 }
def k2c1 : Code := { maxStack := 8, maxLocals := 5, code := prog_63_method_7_code, exceptionTable := #[], attributes := #[] }
def k2m1 : Method := { name := "neighbours", desc := "(J)[J", sig := { parameters := [.long], returnType := some (.array .long) }, accessFlags := 0, code := some k2c1 }
/-- com/example/libnear/libnear/hamming/BitSampling -/
def k2 : Class := { plain "com/example/libnear/libnear/hamming/BitSampling" (some 0) with
  accessFlags := 33
  interfaces := #[]
  cf := some (fileOf pool2 10 #[.nestMembers #[42]] #[{ accessFlags := 0, nameIndex := 7, descriptorIndex := 34, attributes := #[] }, { accessFlags := 0, nameIndex := 148, descriptorIndex := 149, attributes := #[] }] 33 4 #[] #[{ accessFlags := 25, nameIndex := 117, descriptorIndex := 14, attributes := #[] }, { accessFlags := 24, nameIndex := 134, descriptorIndex := 14, attributes := #[] }, { accessFlags := 18, nameIndex := 13, descriptorIndex := 14, attributes := #[] }, { accessFlags := 18, nameIndex := 17, descriptorIndex := 14, attributes := #[] }, { accessFlags := 18, nameIndex := 20, descriptorIndex := 21, attributes := #[] }])
  fields := #[{ name := "MAX_SAMPLE", type := .int, accessFlags := 25, slot := 0, constantValue := 0 }, { name := "MAX_POSITIONS", type := .int, accessFlags := 24, slot := 1, constantValue := 0 }, { name := "length", type := .int, accessFlags := 18, slot := 0, constantValue := 0 }, { name := "sample", type := .int, accessFlags := 18, slot := 1, constantValue := 0 }, { name := "positions", type := (.array .int), accessFlags := 18, slot := 2, constantValue := 0 }]
  methods := #[k2m0, k2m1]
  instanceTypes := #[.int, .int, (.array .int)]
  staticTypes := #[.int, .int]
  resolved := Array.replicate 185 none
  statics := none }

def pool3 : Array CpInfo := pool [(1, u "java/lang/Cloneable"), (0, .class_ 1), (0, u "java/lang/Object"), (0, .class_ 3)] 3

/-- java/lang/Cloneable -/
def k3 : Class := { plain "java/lang/Cloneable" (some 0) with
  accessFlags := 1537
  interfaces := #[]
  cf := some (fileOf pool3 2 #[] #[] 1537 4 #[] #[])
  fields := #[]
  methods := #[]
  instanceTypes := #[]
  staticTypes := #[]
  resolved := Array.replicate 8 none
  statics := none }

def pool4 : Array CpInfo := pool [(1, u "java/io/Serializable"), (0, .class_ 1), (0, u "java/lang/Object"), (0, .class_ 3)] 3

/-- java/io/Serializable -/
def k4 : Class := { plain "java/io/Serializable" (some 0) with
  accessFlags := 1537
  interfaces := #[]
  cf := some (fileOf pool4 2 #[] #[] 1537 4 #[] #[])
  fields := #[]
  methods := #[]
  instanceTypes := #[]
  staticTypes := #[]
  resolved := Array.replicate 8 none
  statics := none }

/-- the primitive byte -/
def k5 : Class := { plain "byte" none with kind := .primitive 'B', accessFlags := 0x411 }
/-- [B -/
def k6 : Class := { plain "[B" (some 0) with kind := .array 5 .byte, interfaces := #[3, 4], accessFlags := 1041 }

/-- the primitive int -/
def k7 : Class := { plain "int" none with kind := .primitive 'I', accessFlags := 0x411 }
/-- [I -/
def k8 : Class := { plain "[I" (some 0) with kind := .array 7 .int, interfaces := #[3, 4], accessFlags := 1041 }

/-- the primitive long -/
def k9 : Class := { plain "long" none with kind := .primitive 'J', accessFlags := 0x411 }
/-- [J -/
def k10 : Class := { plain "[J" (some 0) with kind := .array 9 .long, interfaces := #[3, 4], accessFlags := 1041 }

def heap : Heap := #[]
def classes : Array Class := #[k0, k1, k2, k3, k4, k5, k6, k7, k8, k9, k10]
def interned : List (Array UInt16 × Addr) := []
def slotsUsed : Nat := 0
def theMethod : MethodId := ⟨1, 1⟩
def args0 : Array Value := #[.int 5, .long 9, .int 9]
def aboutOver (below : List Frame) : State where
  vm := { classes := classes, interned := interned.toArray }
  heap := heap
  slotsUsed := slotsUsed
  threads := #[{ frames := .invoking theMethod args0 :: below }]
def below0 : List Frame := [.native { method := ⟨0, 0⟩, args := #[] }]
def about1 : State := aboutOver below0
def p0 : Program := .bare "" "" ""
def e0 : Env := launch0.env 0 0 0
theorem w_frames : about1.frames = Frame.invoking theMethod args0 :: below0 := rfl
set_option maxRecDepth 65536 in
theorem w_args : argsFit about1.vm theMethod args0 = true := by decide +kernel
set_option maxRecDepth 65536 in
theorem w_heap : heapFits about1 = true := by decide +kernel
set_option maxRecDepth 65536 in
theorem w_runnable : about1.curStatus? = some .runnable := by decide +kernel
set_option maxRecDepth 65536 in
theorem w_alone : about1.alone = true := by decide +kernel
set_option maxRecDepth 65536 in
theorem w_named : about1.methodNamed? x = some theMethod := by decide +kernel
set_option maxRecDepth 65536 in
theorem w_hears : about1.hears theMethod below0 = true := by decide +kernel
set_option maxRecDepth 65536 in
theorem w_ripe : about1.ripe theMethod args0 below0 = true := by decide +kernel
theorem w_running : about1.status = .running := rfl
set_option maxRecDepth 65536 in
theorem w_room : about1.hasRoom e0.platform room_1 = true :=
  launch0.hasRoom_least _ room_1 (by decide +kernel) (by decide +kernel) (by decide +kernel) (by decide +kernel) (by decide +kernel) (by decide +kernel)
theorem allAtoms_all (ts : List Jvm.Cond) (a : Array Jvm.Value) (st : Jvm.State) : (allAtoms ts).before a st = ts.all (fun c => c.before a st) := by
  induction ts with
  | nil => rfl
  | cons c t ih =>
    show (Jvm.Cond.and c (allAtoms t)).before a st = _
    rw [Jvm.Cond.before_and, ih, List.all_cons]
def words1 : List Jvm.Cond := Jvm.Cond.code x code maxLocals ret :: tables_1
/-- a 'code' word, met by the world's own term for the bytes: nothing is compared byte by byte -/
theorem code_word {y : MethodName} {bytes : ByteArray} {mx : Nat} {rt : Option FieldType} {a : Array Value} {s : State} {m : MethodId} {meth : Method} {c : Code} (h1 : s.methodNamed? y = some m) (h2 : s.vm.method? m = some meth) (h3 : meth.code = some c) (h4 : c.code = bytes)
    (h5 : (c.maxLocals == mx && c.exceptionTable.isEmpty && decide (c.maxStack ≤ mostOperands) && decide (meth.sig.returnType = rt) && !meth.locks && decide (parseMethodDescriptor y.desc = some meth.sig)) = true) : (Jvm.Cond.code y bytes mx rt).before a s = true := by
  simp only [Bool.and_eq_true, beq_iff_eq, Bool.not_eq_true', decide_eq_true_eq] at h5
  obtain ⟨⟨⟨⟨⟨g1, g2⟩, g3⟩, g4⟩, g5⟩, g6⟩ := h5
  simp [Cond.before, Cond.holds, Cond.value, h1, h2, h3, h4, g1, g2, g3, g4, g5, g6]
def isCode : Jvm.Cond → Bool
  | .code _ _ _ _ => true
  | _ => false
theorem all_split {L : List Jvm.Cond} {P : Jvm.Cond → Bool} (h1 : L.all (fun c => isCode c || P c) = true) (h2 : ∀ c ∈ L.filter isCode, P c = true) : L.all P = true := by
  refine List.all_eq_true.mpr fun c hc => ?_
  have h := List.all_eq_true.mp h1 c hc
  rcases Bool.eq_false_or_eq_true (isCode c) with hi | hi
  · exact h2 c (List.mem_filter.mpr ⟨hc, hi⟩)
  · simpa [hi] using h
set_option maxRecDepth 65536 in
theorem w_c0 : (Jvm.Cond.code x code maxLocals ret).before args0 about1 = true := code_word (m := ⟨1, 1⟩) (meth := k1m1) (c := k1c1) (by decide +kernel) rfl rfl rfl (by decide +kernel)
set_option maxRecDepth 65536 in
theorem w_c1 : (Jvm.Cond.code ({ cls := "com/example/libnear/libnear/hamming/BitSampling", name := "<init>", desc := "(II[I)V" } : Jvm.MethodName) prog_63_method_1_code (4 : Nat) (Option.none : Option Jvm.ClassFile.FieldType)).before args0 about1 = true := code_word (m := ⟨2, 0⟩) (meth := k2m0) (c := k2c0) (by decide +kernel) rfl rfl rfl (by decide +kernel)
set_option maxRecDepth 65536 in
theorem w_c2 : (Jvm.Cond.code ({ cls := "java/lang/Object", name := "<init>", desc := "()V" } : Jvm.MethodName) object_method_1_code (1 : Nat) (Option.none : Option Jvm.ClassFile.FieldType)).before args0 about1 = true := code_word (m := ⟨0, 0⟩) (meth := k0m0) (c := k0c0) (by decide +kernel) rfl rfl rfl (by decide +kernel)
set_option maxRecDepth 65536 in
theorem w_c3 : (Jvm.Cond.code ({ cls := "com/example/libnear/libnear/hamming/BitSampling", name := "neighbours", desc := "(J)[J" } : Jvm.MethodName) prog_63_method_7_code (5 : Nat) (Option.some (Jvm.ClassFile.FieldType.array Jvm.ClassFile.FieldType.long))).before args0 about1 = true := code_word (m := ⟨2, 1⟩) (meth := k2m1) (c := k2c1) (by decide +kernel) rfl rfl rfl (by decide +kernel)
def codes1 : List Jvm.Cond := [Jvm.Cond.code x code maxLocals ret, Jvm.Cond.code ({ cls := "com/example/libnear/libnear/hamming/BitSampling", name := "<init>", desc := "(II[I)V" } : Jvm.MethodName) prog_63_method_1_code (4 : Nat) (Option.none : Option Jvm.ClassFile.FieldType), Jvm.Cond.code ({ cls := "java/lang/Object", name := "<init>", desc := "()V" } : Jvm.MethodName) object_method_1_code (1 : Nat) (Option.none : Option Jvm.ClassFile.FieldType), Jvm.Cond.code ({ cls := "com/example/libnear/libnear/hamming/BitSampling", name := "neighbours", desc := "(J)[J" } : Jvm.MethodName) prog_63_method_7_code (5 : Nat) (Option.some (Jvm.ClassFile.FieldType.array Jvm.ClassFile.FieldType.long))]
set_option maxRecDepth 65536 in
theorem codes_eq : words1.filter isCode = codes1 := rfl
theorem w_codes : ∀ c ∈ words1.filter isCode, c.before args0 about1 = true := by
  rw [codes_eq]
  intro c hc
  simp only [codes1, List.mem_cons, List.not_mem_nil, or_false] at hc
  rcases hc with rfl | rfl | rfl | rfl
  · exact w_c0
  · exact w_c1
  · exact w_c2
  · exact w_c3
set_option maxRecDepth 65536 in
theorem w_t1 : words1.all (fun c => isCode c || c.before args0 about1) = true := by decide +kernel
theorem w_tables : (allAtoms (Jvm.Cond.code x code maxLocals ret :: tables_1)).before args0 about1 = true := by
  rw [allAtoms_all]
  show words1.all (fun c => c.before args0 about1) = true
  refine all_split ?_ w_codes
  rw [w_t1]
set_option maxRecDepth 65536 in
theorem w_case : (Jvm.Cond.and given_1 narrow_1).before args0 about1 = true := by decide +kernel
theorem w_applies : (headSpec (Jvm.Cond.code x code maxLocals ret :: tables_1) room_1).applies x e0.platform about1 = true :=
  (Spec.applies_iff w_frames).mpr ⟨w_running, w_runnable, w_alone, w_named, w_hears, w_ripe, w_room, w_tables⟩
theorem atStart : AtStart classFile x code maxLocals ret World_1 tables_1 room_1 Calls_1 rest_1 Pre_1 launch0 p0 e0 about1 theMethod args0 below0 :=
  ⟨lists_1, trivial, launch0.admits_env _ _ _, launch0.least_env, fairChoices_fair.cas, fairChoices_fair.clock, w_frames, w_args, w_heap, w_applies, trivial, trivial, w_case⟩
end start1
theorem witness_1 : WitnessClaimed_1 := ⟨start1.p0, start1.e0, start1.about1, start1.theMethod, start1.args0, start1.below0, start1.atStart⟩
end Jvm.Pilot.@@N@@

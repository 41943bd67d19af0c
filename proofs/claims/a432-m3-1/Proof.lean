import JvmDerived
import JvmDerived.Pilot.@@N@@Statement
import JvmDerived.Pilot.@@N@@Code
set_option linter.unusedVariables false
set_option linter.unusedSimpArgs false
@@BLOCK:NumsL.lean.txt@@
@@BLOCK:Masks.lean.txt@@
namespace Jvm.RoadKit
open Sem ClassFile Op Lib Jvm.Stand Jvm.Free Jvm.LawKit
section New
variable {p : Program} {l : Launch} {e : Env} {R : Room} {s : State} {m : MethodId} {args : Array Value} {below : List Frame} {meth : Method} {c : Code} {T : State} {locs : List Loc} {cells slots : Nat}
theorem retI (X : Stand p l e R s m args below meth c T locs cells slots) (hx : p.tables.exec = Jvm.exec) {pc : Nat} {Ls : Array Slot} {z : Int32} {rest : List Value} (hret : meth.sig.returnType = some .int) (hd : decode c.code pc = .ok (.ireturn, 1)) {fs : List Frame}
    (hl : ∀ (f : JFrame) (acts : List Action), f.method = m → f.locked = none → f.entered = [] → (doReturn e (T.setTop f) acts (some (.int z))).1 = T.setFrames fs) : Steps p.tables e below (T.setTop (mkF m pc Ls (.int z :: rest))) (T.setFrames fs) := by
  have hm' : T.vm.method? m = some meth := X.method'
  have hn : narrow .int (.int z) = .int z := rfl
  show Steps p.tables e below (T.setTop { method := m, pc := pc, locals := Ls, stack := _ :: rest, locked := none }) _
  jvm_step X.here [X.here.top, hx, hd, hm', hret, hn]
  first | (intro acts; rw [hl _ acts rfl rfl rfl]) | rw [hl _ _ rfl rfl rfl]
  exact Steps.refl _
theorem retJ (X : Stand p l e R s m args below meth c T locs cells slots) (hx : p.tables.exec = Jvm.exec) {pc : Nat} {Ls : Array Slot} {z : Int64} {rest : List Value} (hret : meth.sig.returnType = some .long) (hd : decode c.code pc = .ok (.lreturn, 1)) {fs : List Frame}
    (hl : ∀ (f : JFrame) (acts : List Action), f.method = m → f.locked = none → f.entered = [] → (doReturn e (T.setTop f) acts (some (.long z))).1 = T.setFrames fs) : Steps p.tables e below (T.setTop (mkF m pc Ls (.long z :: rest))) (T.setFrames fs) := by
  have hm' : T.vm.method? m = some meth := X.method'
  have hn : narrow .long (.long z) = .long z := rfl
  show Steps p.tables e below (T.setTop { method := m, pc := pc, locals := Ls, stack := _ :: rest, locked := none }) _
  jvm_step X.here [X.here.top, hx, hd, hm', hret, hn]
  first | (intro acts; rw [hl _ acts rfl rfl rfl]) | rw [hl _ _ rfl rfl rfl]
  exact Steps.refl _
end New
theorem own_ite {α : Type} {P : Prop} [Decidable P] {f : α → Prop} {a b : α} (ha : f a) (hb : f b) : f (if P then a else b) := by split <;> assumption
theorem own_lc_eq {x y : Int64} : lcmpW x y = 0 ↔ x = y := by rw [lcW]; exact lc_eq x y
theorem own_lc_lt {x y : Int64} : lcmpW x y < 0 ↔ x < y := by rw [lcW]; exact lc_lt x y
theorem own_lc_gt {x y : Int64} : 0 < lcmpW x y ↔ y < x := by rw [lcW]; exact lc_gt x y
end Jvm.RoadKit
namespace Jvm.RoadKit
open Sem ClassFile Op Lib Jvm.Stand Jvm.Free Jvm.LawKit
section Own
variable {Z : State} {h h' : Heap} {a b : Addr} {ty : FieldType} {n j : Int32} {sl : Nat} {v : Value} {ws : List Addr} {α : Type} {mk : α → Value} {g : Nat → α} {w : α}
/-- an array: its kind, its length and, by a function, what it holds -/
def JV (mk : α → Value) (Z : State) (h : Heap) (a : Addr) (ty : FieldType) (n : Int32) (g : Nat → α) : Prop := ∃ c : Cell, Arr Z h a c ty ∧ c.slots.size = n.toNatClampNeg ∧ ¬ n < 0 ∧ ∀ i, i < c.slots.size → c.slots[i]? = some (mk (g i))
def updF (g : Nat → α) (k : Nat) (w : α) : Nat → α := fun i => if i = k then w else g i
theorem JV.lt (F : JV mk Z h a ty n g) : a < h.size := by obtain ⟨c, A, -⟩ := F; exact A.lt
theorem JV.ext (F : JV mk Z h a ty n g) (E : Ext h h') : JV mk Z h' a ty n g := by obtain ⟨c, A, r⟩ := F; exact ⟨c, A.ext E, r⟩
theorem JV.other (F : JV mk Z h b ty n g) (W : Wr h h' a sl v) (q : b ≠ a) : JV mk Z h' b ty n g := by obtain ⟨c, A, r⟩ := F; exact ⟨c, A.other W q, r⟩
theorem JV.keep (F : JV mk Z h a ty n g) (K : Keep h h' ws) (q : a ∉ ws) : JV mk Z h' a ty n g := by obtain ⟨c, A, r⟩ := F; exact ⟨c, ⟨K.2.1 a c A.1 q, A.2⟩, r⟩
theorem JV.new {k : ClassId} (A : Arr Z h a (newA k ty n) ty) (q : ¬ n < 0) (w : α) (hd : defaultValue ty = mk w) : JV mk Z h a ty n (fun _ => w) := by
  obtain ⟨c, A', -, S, N, H, -⟩ := Arv.new A q
  exact ⟨c, A', S, N, fun i hi => by rw [H i hi, hd]; rfl⟩
theorem JV.in (F : JV mk Z h a ty n g) (q : ¬ j < 0 ∧ j < n) : ∃ c : Cell, Arr Z h a c ty ∧ ¬ (j < 0 ∨ c.slots.size ≤ j.toNatClampNeg) ∧ c.slots[j.toNatClampNeg]? = some (mk (g j.toNatClampNeg)) := by
  obtain ⟨c, A, S, N, H⟩ := F
  have hin := inb_of S q
  exact ⟨c, A, hin, H _ (Nat.lt_of_not_le fun y => hin (Or.inr y))⟩
theorem JV.len (F : JV mk Z h a ty n g) : ∃ c : Cell, Arr Z h a c ty ∧ c.slots.size.toInt32 = n := by
  obtain ⟨c, A, S, N, H⟩ := F
  exact ⟨c, A, len_of S N⟩
theorem JV.nn (F : JV mk Z h a ty n g) : ¬ n < 0 := by obtain ⟨c, A, S, N, H⟩ := F; exact N
theorem JV.set (F : JV mk Z h a ty n g) (W : Wr h h' a j.toNatClampNeg (mk w)) : JV mk Z h' a ty n (updF g j.toNatClampNeg w) := by
  obtain ⟨c, A, S, N, H⟩ := F
  refine ⟨_, A.same W, ?_, N, ?_⟩
  · rw [← S]; simp [Cell.setSlot]
  · intro i hi
    have hi' : i < c.slots.size := by simpa [Cell.setSlot] using hi
    obtain ⟨cell, h1, -, h3, rfl⟩ := W
    cases A.1.symm.trans h1
    by_cases e : i = j.toNatClampNeg
    · subst e; simp [Cell.setSlot, updF, hi']
    · rw [show (c.setSlot j.toNatClampNeg (mk w)).slots[i]? = c.slots[i]? from by simp [Cell.setSlot, Array.getElem?_setIfInBounds, Ne.symm e], H i hi']
      simp [updF, e]
end Own
end Jvm.RoadKit
namespace Jvm.Pilot.@@N@@
open Jvm Jvm.ClassFile Sem Op Lib Jvm.Free Jvm.Stand Jvm.LawKit Jvm.RoadKit Bundle Jvm.Pilot.@@N@@.Jvm.D
def Lead (p : Program) (e : Env) (below : List Frame) (A B : State) : Prop := ∀ t, Steps p.tables e below B t → Steps p.tables e below A t
theorem d1_0 : decode prog_25_method_1_code 0 = .ok (.aload_n 0, 1) := by decide +kernel
theorem d1_1 : decode prog_25_method_1_code 1 = .ok (.invokespecial 1, 3) := by decide +kernel
theorem d1_4 : decode prog_25_method_1_code 4 = .ok (.aload_n 0, 1) := by decide +kernel
theorem d1_5 : decode prog_25_method_1_code 5 = .ok (.bipush 8, 2) := by decide +kernel
theorem d1_7 : decode prog_25_method_1_code 7 = .ok (.newarray .int, 2) := by decide +kernel
theorem d1_9 : decode prog_25_method_1_code 9 = .ok (.putfield 7, 3) := by decide +kernel
theorem d1_12 : decode prog_25_method_1_code 12 = .ok (.return_, 1) := by decide +kernel
theorem pn_com_example_nonesuch_nonesuch_engine_IntList : plainName "com/example/nonesuch/nonesuch/engine/IntList" = true := by first | (simp [plainName, overriddenIn]; done) | decide +kernel
theorem ef_1 (m : MethodId) (o0 : Addr) : entryFrame m #[(.ref o0)] 1 = mkF m 0 #[.val (.ref o0)] [] := by first | (simp [entryFrame, mkF, argsToLocals, Value.category]; done) | rfl
def Q1 (Z : State) (o0 : Addr)  (h0 : Heap) (n0 : Nat) (v : Option Value) (h : Heap) (L : List Loc) : Prop := ∃ wb : Addr, v = none ∧ Fr n0 L ∧ Keep h0 h [o0] ∧ Exa Z h o0 "com/example/nonesuch/nonesuch/engine/IntList" ∧ Fld Z h o0 "com/example/nonesuch/nonesuch/engine/IntList" "values" "[I" (.ref wb) ∧ Fld Z h o0 "com/example/nonesuch/nonesuch/engine/IntList" "size" "I" (.int (0 : Int32)) ∧ h0.size ≤ wb ∧ JV Value.int Z h wb .int (8 : Int32) (fun _ => (0 : Int32))
set_option maxRecDepth 65536 in
set_option maxHeartbeats 40000000 in
theorem rm1 (l : Launch) (Z : State) (a0 : Array Value) (hw : ∀ d ∈ tables_1, d.before a0 Z = true) (ws : List Jvm.Cond) (o0 : Addr)  (h0 : Heap) (n0 : Nat) (Z0 : n0 ≤ h0.size) (P0_E : Exa Z h0 o0 "com/example/nonesuch/nonesuch/engine/IntList") (P1_G : n0 ≤ o0) (P2_F : Fld Z h0 o0 "com/example/nonesuch/nonesuch/engine/IntList" "values" "[I" .null) (P3_F : Fld Z h0 o0 "com/example/nonesuch/nonesuch/engine/IntList" "size" "I" (.int (0 : Int32))) :
    MetFree l (⟨"com/example/nonesuch/nonesuch/engine/IntList", "<init>", "()V"⟩ : MethodName) (head1 (Jvm.Cond.code (⟨"com/example/nonesuch/nonesuch/engine/IntList", "<init>", "()V"⟩ : MethodName) prog_25_method_1_code 1 none :: ws) ({ frames := 1, cells := 1, slots := 8, locals := 12 } : Room)) (fun a U => a = #[(.ref o0)] ∧ Z.Warmed39 U.vm ∧ U.heap = h0) (fun _ _ _ _ _ => True) (fun _ U o U' => ∃ v L, o = .returned v ∧ Q1 Z o0 h0 n0 v U'.heap L ∧ FrameEnd U o U' L ({ frames := 1, cells := 1, slots := 8, locals := 12 } : Room).cells ({ frames := 1, cells := 1, slots := 8, locals := 12 } : Room).slots) := by
  refine MetFree.of_bodySF (plainFor_of_name pn_com_example_nonesuch_nonesuch_engine_IntList) hisR ?_
  intro p e s m args below meth c s₁ Bd hml0 hP hK
  obtain ⟨rfl, hZ, hh⟩ := hP
  have hx := Bd.exec
  have hby := Bd.bytes
  have hml : c.maxLocals = 1 := hml0
  have hown : s.vm.findClass "com/example/nonesuch/nonesuch/engine/IntList" = some m.cls := findClass_of_methodNamed Bd.named
  have hnm := (name_of_methodNamed Bd.named Bd.method).1
  have X0 : Stand p l e ({ frames := 1, cells := 1, slots := 8, locals := 12 } : Room) s m #[(.ref o0)] below meth c s₁ [] 0 0 := Stand.of_body Bd
  have e0 : s₁.heap = h0 := by rw [← hh, Bd.state]; rfl
  have N0 := Fr.nil n0
  have K0 : Keep h0 h0 [o0] := Keep.refl _ _
  obtain ⟨G, hG⟩ : ∃ z, z = s₁.setTop (entryFrame m #[(.ref o0)] 1) := ⟨_, rfl⟩
  have pre0 : Lead p e below G (s₁.setTop (mkF m 0 #[.val (.ref o0)] [])) := fun t k => by rw [hG]; exact castTop (ef_1 m o0) k
  have pre1 : Lead p e below G (s₁.setTop (mkF m 1 #[.val (.ref o0)] [(.ref o0)])) := fun t k => by
    refine pre0 t ?_
    show Steps p.tables e below (s₁.setTop (mkF m 0 #[.val (.ref o0)] [])) _
    refine XS.aloadN X0.here hx rfl (hb hby d1_0) rfl rfl ?_
    show Steps p.tables e below (s₁.setTop (mkF m 1 #[.val (.ref o0)] [(.ref o0)])) _
    exact k
  obtain ⟨T2, X2, e2, st2⟩ := initO X0 hx hZ hown (hw _ (List.mem_of_getElem? (i := 6) rfl)) (hw _ (List.mem_of_getElem? (i := 7) rfl)) (hw _ (List.mem_of_getElem? (i := 8) rfl)) e0 (g := (mkF m 1 #[.val (.ref o0)] [(.ref o0)])) rfl (by rw [hml]; rfl) rfl (hb hby d1_1) (by decide) (W := 0) (by show 2 * 0 + _ ≤ _; exact Nat.le_of_eq rfl) (by decide)
  have pre2 : Lead p e below G (T2.setTop (mkF m 4 #[.val (.ref o0)] [])) := fun t k => pre1 t (st2 _ k)
  have pre3 : Lead p e below G (T2.setTop (mkF m 7 #[.val (.ref o0)] [(.int (8 : Int32)), (.ref o0)])) := fun t k => by
    refine pre2 t ?_
    show Steps p.tables e below (T2.setTop (mkF m 4 #[.val (.ref o0)] [])) _
    refine XS.aloadN X2.here hx rfl (hb hby d1_4) rfl rfl ?_
    show Steps p.tables e below (T2.setTop (mkF m 5 #[.val (.ref o0)] [(.ref o0)])) _
    refine XS.bipush X2.here hx rfl (hb hby d1_5) ?_
    show Steps p.tables e below (T2.setTop (mkF m 7 #[.val (.ref o0)] [(.int (8 : Int32)), (.ref o0)])) _
    exact k
  obtain ⟨T4, h4, k4, X4, e4, E4, A4, st4⟩ := newP X2 hx hZ (hw _ (List.mem_of_getElem? (i := 9) rfl)) e2 (g := (mkF m 7 #[.val (.ref o0)] [(.int (8 : Int32)), (.ref o0)])) rfl (hb hby d1_7) rfl (by decide) (cap := 8) (by decide) (by decide) (by decide) (by decide)
  obtain ⟨b4, g4⟩ : ∃ z, z = h0.size := ⟨_, rfl⟩
  rw [← g4] at A4 st4
  have ne4_o0 : o0 ≠ b4 := Nat.ne_of_lt (Nat.lt_of_lt_of_le P0_E.lt (Nat.le_of_eq g4.symm))
  have sz4 : h0.size ≤ b4 := Nat.le_trans K0.1 (Nat.le_of_eq g4.symm)
  have ge4 : n0 ≤ b4 := Nat.le_trans Z0 sz4
  have K4 : Keep h0 h4 [o0] := K0.ext E4
  have V4 : JV Value.int Z h4 b4 .int (8 : Int32) (fun _ => (0 : Int32)) := JV.new A4 (by decide) _ rfl
  have pre4 : Lead p e below G (T4.setTop (mkF m 9 #[.val (.ref o0)] [(.ref b4), (.ref o0)])) := fun t k => pre3 t (st4 _ k)
  have f6 : Fld Z h4 o0 "com/example/nonesuch/nonesuch/engine/IntList" "values" "[I" .null := (P2_F.ext E4)
  have f7 : Exa Z h4 o0 "com/example/nonesuch/nonesuch/engine/IntList" := (P0_E.ext E4)
  obtain ⟨T5, h5, X5, e5, W5, st5⟩ := putF X4 hx hZ hown (host := "") (Or.inl (hw _ (List.mem_of_getElem? (i := 10) rfl))) Via.refl e4 f6 f7 (Or.inl (hw _ (List.mem_of_getElem? (i := 11) rfl))) (hw _ (List.mem_of_getElem? (i := 1) rfl)) (ty := (.array .int)) (by decide) rfl rfl (g := (mkF m 9 #[.val (.ref o0)] [(.ref b4), (.ref o0)])) rfl rfl (hb hby d1_9)
  have N5 := Fr.snoc X5 N0 P1_G
  have K5 : Keep h0 h5 [o0] := K4.wr W5 (Or.inl (List.mem_of_getElem? (i := 0) rfl))
  have Fw5 : Fld Z h5 o0 "com/example/nonesuch/nonesuch/engine/IntList" "values" "[I" (.ref b4) := f6.same W5
  have pre5 : Lead p e below G (T5.setTop (mkF m 12 #[.val (.ref o0)] [])) := fun t k => pre4 t (st5 _ k)
  obtain ⟨fs, hr, hrun, hended, hW, hsame⟩ := X5.leave (v := none) (fun _ => rfl)
  subst hG
  refine ⟨_, _, pre5 _ ?_, hrun, hended, _, _, rfl, ?_, ⟨_, rfl⟩, hW, hsame.mono (by decide) (by decide)⟩
  · show Steps p.tables e below (T5.setTop (mkF m 12 #[.val (.ref o0)] [])) _
    exact X5.returnOut hx Bd.returns (hb hby d1_12) hr
  · show Q1 Z o0 h0 n0 _ T5.heap _
    rw [e5]
    have f8 : Exa Z h5 o0 "com/example/nonesuch/nonesuch/engine/IntList" := (f7.wr W5)
    have f9 : Fld Z h5 o0 "com/example/nonesuch/nonesuch/engine/IntList" "size" "I" (.int (0 : Int32)) := ((P3_F.ext E4).other W5 (Or.inr (slot_ne (Or.inl (hw _ (List.mem_of_getElem? (i := 18) rfl))) (Or.inl (hw _ (List.mem_of_getElem? (i := 11) rfl))) (by decide) (t := .int) (t' := (.array .int)) (by decide) (by decide))))
    have f10 : JV Value.int Z h5 b4 .int (8 : Int32) (fun _ => (0 : Int32)) := (V4.other W5 (Ne.symm ne4_o0))
    exact ⟨b4, rfl, N5, K5, f8, Fw5, f9, sz4, f10⟩
theorem d3_0 : decode prog_25_method_8_code 0 = .ok (.aload_n 0, 1) := by decide +kernel
theorem d3_1 : decode prog_25_method_8_code 1 = .ok (.getfield 13, 3) := by decide +kernel
theorem d3_4 : decode prog_25_method_8_code 4 = .ok (.aload_n 0, 1) := by decide +kernel
theorem d3_5 : decode prog_25_method_8_code 5 = .ok (.getfield 7, 3) := by decide +kernel
theorem d3_8 : decode prog_25_method_8_code 8 = .ok (.arraylength, 1) := by decide +kernel
theorem d3_9 : decode prog_25_method_8_code 9 = .ok (.if_icmp .ne 20, 3) := by decide +kernel
theorem d3_29 : decode prog_25_method_8_code 29 = .ok (.aload_n 0, 1) := by decide +kernel
theorem d3_30 : decode prog_25_method_8_code 30 = .ok (.getfield 7, 3) := by decide +kernel
theorem d3_33 : decode prog_25_method_8_code 33 = .ok (.aload_n 0, 1) := by decide +kernel
theorem d3_34 : decode prog_25_method_8_code 34 = .ok (.dup, 1) := by decide +kernel
theorem d3_35 : decode prog_25_method_8_code 35 = .ok (.getfield 13, 3) := by decide +kernel
theorem d3_38 : decode prog_25_method_8_code 38 = .ok (.dup_x1, 1) := by decide +kernel
theorem d3_39 : decode prog_25_method_8_code 39 = .ok (.iconst 1, 1) := by decide +kernel
theorem d3_40 : decode prog_25_method_8_code 40 = .ok (.iadd, 1) := by decide +kernel
theorem d3_41 : decode prog_25_method_8_code 41 = .ok (.putfield 13, 3) := by decide +kernel
theorem d3_44 : decode prog_25_method_8_code 44 = .ok (.iload_n 1, 1) := by decide +kernel
theorem d3_45 : decode prog_25_method_8_code 45 = .ok (.iastore, 1) := by decide +kernel
theorem d3_46 : decode prog_25_method_8_code 46 = .ok (.return_, 1) := by decide +kernel
theorem ef_3 (m : MethodId) (o0 : Addr) (p1 : Int32) : entryFrame m #[(.ref o0), (.int p1)] 2 = mkF m 0 #[.val (.ref o0), .val (.int p1)] [] := by first | (simp [entryFrame, mkF, argsToLocals, Value.category]; done) | rfl
def Q3 (Z : State) (o0 : Addr) (p1 : Int32) (wa : Addr) (nl : Int32) (ga : Nat → Int32) (sz : Int32) (h0 : Heap) (n0 : Nat) (v : Option Value) (h : Heap) (L : List Loc) : Prop := v = none ∧ Fr n0 L ∧ Keep h0 h [o0, wa] ∧ Exa Z h o0 "com/example/nonesuch/nonesuch/engine/IntList" ∧ Fld Z h o0 "com/example/nonesuch/nonesuch/engine/IntList" "values" "[I" (.ref wa) ∧ Fld Z h o0 "com/example/nonesuch/nonesuch/engine/IntList" "size" "I" (.int (sz + (1 : Int32))) ∧ JV Value.int Z h wa .int nl (updF ga (sz).toNatClampNeg p1)
set_option maxRecDepth 65536 in
set_option maxHeartbeats 40000000 in
theorem rm3 (l : Launch) (Z : State) (a0 : Array Value) (hw : ∀ d ∈ tables_1, d.before a0 Z = true) (ws : List Jvm.Cond) (o0 : Addr) (p1 : Int32) (wa : Addr) (nl : Int32) (ga : Nat → Int32) (sz : Int32) (h0 : Heap) (n0 : Nat) (Z0 : n0 ≤ h0.size) (P0_E : Exa Z h0 o0 "com/example/nonesuch/nonesuch/engine/IntList") (P1_F : Fld Z h0 o0 "com/example/nonesuch/nonesuch/engine/IntList" "values" "[I" (.ref wa)) (P2_F : Fld Z h0 o0 "com/example/nonesuch/nonesuch/engine/IntList" "size" "I" (.int sz)) (P3_V : JV Value.int Z h0 wa .int nl ga) (P4_G : n0 ≤ o0) (P5_G : n0 ≤ wa) (P6_NE : o0 ≠ wa) (hne : ¬ (sz = nl)) (hbnd : ¬ sz < 0 ∧ sz < nl) :
    MetFree l (⟨"com/example/nonesuch/nonesuch/engine/IntList", "add", "(I)V"⟩ : MethodName) (head1 (Jvm.Cond.code (⟨"com/example/nonesuch/nonesuch/engine/IntList", "add", "(I)V"⟩ : MethodName) prog_25_method_8_code 2 none :: ws) ({ frames := 0, cells := 0, slots := 0, locals := 0 } : Room)) (fun a U => a = #[(.ref o0), (.int p1)] ∧ Z.Warmed39 U.vm ∧ U.heap = h0) (fun _ _ _ _ _ => True) (fun _ U o U' => ∃ v L, o = .returned v ∧ Q3 Z o0 p1 wa nl ga sz h0 n0 v U'.heap L ∧ FrameEnd U o U' L ({ frames := 0, cells := 0, slots := 0, locals := 0 } : Room).cells ({ frames := 0, cells := 0, slots := 0, locals := 0 } : Room).slots) := by
  refine MetFree.of_bodySF (plainFor_of_name pn_com_example_nonesuch_nonesuch_engine_IntList) hisR ?_
  intro p e s m args below meth c s₁ Bd hml0 hP hK
  obtain ⟨rfl, hZ, hh⟩ := hP
  have hx := Bd.exec
  have hby := Bd.bytes
  have hml : c.maxLocals = 2 := hml0
  have hown : s.vm.findClass "com/example/nonesuch/nonesuch/engine/IntList" = some m.cls := findClass_of_methodNamed Bd.named
  have hnm := (name_of_methodNamed Bd.named Bd.method).1
  have X0 : Stand p l e ({ frames := 0, cells := 0, slots := 0, locals := 0 } : Room) s m #[(.ref o0), (.int p1)] below meth c s₁ [] 0 0 := Stand.of_body Bd
  have e0 : s₁.heap = h0 := by rw [← hh, Bd.state]; rfl
  have N0 := Fr.nil n0
  have K0 : Keep h0 h0 [o0, wa] := Keep.refl _ _
  obtain ⟨G, hG⟩ : ∃ z, z = s₁.setTop (entryFrame m #[(.ref o0), (.int p1)] 2) := ⟨_, rfl⟩
  have pre0 : Lead p e below G (s₁.setTop (mkF m 0 #[.val (.ref o0), .val (.int p1)] [])) := fun t k => by rw [hG]; exact castTop (ef_3 m o0 p1) k
  have pre1 : Lead p e below G (s₁.setTop (mkF m 1 #[.val (.ref o0), .val (.int p1)] [(.ref o0)])) := fun t k => by
    refine pre0 t ?_
    show Steps p.tables e below (s₁.setTop (mkF m 0 #[.val (.ref o0), .val (.int p1)] [])) _
    refine XS.aloadN X0.here hx rfl (hb hby d3_0) rfl rfl ?_
    show Steps p.tables e below (s₁.setTop (mkF m 1 #[.val (.ref o0), .val (.int p1)] [(.ref o0)])) _
    exact k
  obtain ⟨T2, X2, e2, st2⟩ := getF X0 hx hZ hown (host := "") (Or.inl (hw _ (List.mem_of_getElem? (i := 17) rfl))) Via.refl e0 P2_F (g := (mkF m 1 #[.val (.ref o0), .val (.int p1)] [(.ref o0)])) rfl rfl (hb hby d3_1)
  have pre2 : Lead p e below G (T2.setTop (mkF m 4 #[.val (.ref o0), .val (.int p1)] [(.int sz)])) := fun t k => pre1 t (st2 _ k)
  have pre3 : Lead p e below G (T2.setTop (mkF m 5 #[.val (.ref o0), .val (.int p1)] [(.ref o0), (.int sz)])) := fun t k => by
    refine pre2 t ?_
    show Steps p.tables e below (T2.setTop (mkF m 4 #[.val (.ref o0), .val (.int p1)] [(.int sz)])) _
    refine XS.aloadN X2.here hx rfl (hb hby d3_4) rfl rfl ?_
    show Steps p.tables e below (T2.setTop (mkF m 5 #[.val (.ref o0), .val (.int p1)] [(.ref o0), (.int sz)])) _
    exact k
  obtain ⟨T4, X4, e4, st4⟩ := getF X2 hx hZ hown (host := "") (Or.inl (hw _ (List.mem_of_getElem? (i := 10) rfl))) Via.refl e2 P1_F (g := (mkF m 5 #[.val (.ref o0), .val (.int p1)] [(.ref o0), (.int sz)])) rfl rfl (hb hby d3_5)
  have pre4 : Lead p e below G (T4.setTop (mkF m 8 #[.val (.ref o0), .val (.int p1)] [(.ref wa), (.int sz)])) := fun t k => pre3 t (st4 _ k)
  obtain ⟨cl5, Ar5, len5⟩ := P3_V.len
  have st5 := X4.arraylength hx (by rw [e4]; exact Ar5.1) (State.isArrayOf_alike hZ.alike Ar5.2.1) (g := (mkF m 8 #[.val (.ref o0), .val (.int p1)] [(.ref wa), (.int sz)])) rfl rfl (hb hby d3_8)
  rw [len5] at st5
  have pre5 : Lead p e below G (T4.setTop (mkF m 9 #[.val (.ref o0), .val (.int p1)] [(.int nl), (.int sz)])) := fun t k => pre4 t (st5 _ k)
  have hf6 : ¬ (sz = nl) := hne
  have pre7 : Lead p e below G (T4.setTop (mkF m 30 #[.val (.ref o0), .val (.int p1)] [(.ref o0)])) := fun t k => by
    refine pre5 t ?_
    show Steps p.tables e below (T4.setTop (mkF m 9 #[.val (.ref o0), .val (.int p1)] [(.int nl), (.int sz)])) _
    refine XS.icmpYes X4.here hx rfl (pc0 := 9) (pc' := 29) rfl (hb hby d3_9) rfl (feq hf6).2 (by decide) (by decide) ?_
    show Steps p.tables e below (T4.setTop (mkF m 29 #[.val (.ref o0), .val (.int p1)] [])) _
    refine XS.aloadN X4.here hx rfl (hb hby d3_29) rfl rfl ?_
    show Steps p.tables e below (T4.setTop (mkF m 30 #[.val (.ref o0), .val (.int p1)] [(.ref o0)])) _
    exact k
  obtain ⟨T8, X8, e8, st8⟩ := getF X4 hx hZ hown (host := "") (Or.inl (hw _ (List.mem_of_getElem? (i := 10) rfl))) Via.refl e4 P1_F (g := (mkF m 30 #[.val (.ref o0), .val (.int p1)] [(.ref o0)])) rfl rfl (hb hby d3_30)
  have pre8 : Lead p e below G (T8.setTop (mkF m 33 #[.val (.ref o0), .val (.int p1)] [(.ref wa)])) := fun t k => pre7 t (st8 _ k)
  have pre9 : Lead p e below G (T8.setTop (mkF m 35 #[.val (.ref o0), .val (.int p1)] [(.ref o0), (.ref o0), (.ref wa)])) := fun t k => by
    refine pre8 t ?_
    show Steps p.tables e below (T8.setTop (mkF m 33 #[.val (.ref o0), .val (.int p1)] [(.ref wa)])) _
    refine XS.aloadN X8.here hx rfl (hb hby d3_33) rfl rfl ?_
    show Steps p.tables e below (T8.setTop (mkF m 34 #[.val (.ref o0), .val (.int p1)] [(.ref o0), (.ref wa)])) _
    refine XS.dup X8.here hx rfl (hb hby d3_34) rfl rfl ?_
    show Steps p.tables e below (T8.setTop (mkF m 35 #[.val (.ref o0), .val (.int p1)] [(.ref o0), (.ref o0), (.ref wa)])) _
    exact k
  obtain ⟨T10, X10, e10, st10⟩ := getF X8 hx hZ hown (host := "") (Or.inl (hw _ (List.mem_of_getElem? (i := 17) rfl))) Via.refl e8 P2_F (g := (mkF m 35 #[.val (.ref o0), .val (.int p1)] [(.ref o0), (.ref o0), (.ref wa)])) rfl rfl (hb hby d3_35)
  have pre10 : Lead p e below G (T10.setTop (mkF m 38 #[.val (.ref o0), .val (.int p1)] [(.int sz), (.ref o0), (.ref wa)])) := fun t k => pre9 t (st10 _ k)
  have pre11 : Lead p e below G (T10.setTop (mkF m 41 #[.val (.ref o0), .val (.int p1)] [(.int (sz + (1 : Int32))), (.ref o0), (.int sz), (.ref wa)])) := fun t k => by
    refine pre10 t ?_
    show Steps p.tables e below (T10.setTop (mkF m 38 #[.val (.ref o0), .val (.int p1)] [(.int sz), (.ref o0), (.ref wa)])) _
    refine XS.dupX1 X10.here hx rfl (hb hby d3_38) rfl rfl rfl ?_
    show Steps p.tables e below (T10.setTop (mkF m 39 #[.val (.ref o0), .val (.int p1)] [(.int sz), (.ref o0), (.int sz), (.ref wa)])) _
    refine XS.iconst X10.here hx rfl (hb hby d3_39) ?_
    show Steps p.tables e below (T10.setTop (mkF m 40 #[.val (.ref o0), .val (.int p1)] [(.int (1 : Int32)), (.int sz), (.ref o0), (.int sz), (.ref wa)])) _
    refine XS.iadd X10.here hx rfl (hb hby d3_40) rfl ?_
    show Steps p.tables e below (T10.setTop (mkF m 41 #[.val (.ref o0), .val (.int p1)] [(.int (sz + (1 : Int32))), (.ref o0), (.int sz), (.ref wa)])) _
    exact k
  obtain ⟨T12, h12, X12, e12, W12, st12⟩ := putF X10 hx hZ hown (host := "") (Or.inl (hw _ (List.mem_of_getElem? (i := 17) rfl))) Via.refl e10 P2_F P0_E (Or.inl (hw _ (List.mem_of_getElem? (i := 18) rfl))) (hw _ (List.mem_of_getElem? (i := 1) rfl)) (ty := .int) (by decide) rfl rfl (g := (mkF m 41 #[.val (.ref o0), .val (.int p1)] [(.int (sz + (1 : Int32))), (.ref o0), (.int sz), (.ref wa)])) rfl rfl (hb hby d3_41)
  have N12 := Fr.snoc X12 N0 P4_G
  have K12 : Keep h0 h12 [o0, wa] := K0.wr W12 (Or.inl (List.mem_of_getElem? (i := 0) rfl))
  have Fw12 : Fld Z h12 o0 "com/example/nonesuch/nonesuch/engine/IntList" "size" "I" (.int (sz + (1 : Int32))) := P2_F.same W12
  have pre12 : Lead p e below G (T12.setTop (mkF m 44 #[.val (.ref o0), .val (.int p1)] [(.int sz), (.ref wa)])) := fun t k => pre11 t (st12 _ k)
  have pre13 : Lead p e below G (T12.setTop (mkF m 45 #[.val (.ref o0), .val (.int p1)] [(.int p1), (.int sz), (.ref wa)])) := fun t k => by
    refine pre12 t ?_
    show Steps p.tables e below (T12.setTop (mkF m 44 #[.val (.ref o0), .val (.int p1)] [(.int sz), (.ref wa)])) _
    refine XS.iloadN X12.here hx rfl (hb hby d3_44) rfl ?_
    show Steps p.tables e below (T12.setTop (mkF m 45 #[.val (.ref o0), .val (.int p1)] [(.int p1), (.int sz), (.ref wa)])) _
    exact k
  have f15 : JV Value.int Z h12 wa .int nl ga := (P3_V.other W12 (Ne.symm P6_NE))
  obtain ⟨cl14, Ar14, hin14, -⟩ := f15.in (j := sz) hbnd
  obtain ⟨T14, h14, X14, e14, W14, st14⟩ := stI X12 hx hZ e12 Ar14 (j := sz) hin14 (g := (mkF m 45 #[.val (.ref o0), .val (.int p1)] [(.int p1), (.int sz), (.ref wa)])) rfl rfl (hb hby d3_45)
  have N14 := Fr.snoc X14 N12 P5_G
  have K14 : Keep h0 h14 [o0, wa] := K12.wr W14 (Or.inl (List.mem_of_getElem? (i := 1) rfl))
  have V14 : JV Value.int Z h14 wa .int nl (updF ga (sz).toNatClampNeg p1) := f15.set W14
  have pre14 : Lead p e below G (T14.setTop (mkF m 46 #[.val (.ref o0), .val (.int p1)] [])) := fun t k => pre13 t (st14 _ k)
  obtain ⟨fs, hr, hrun, hended, hW, hsame⟩ := X14.leave (v := none) (fun _ => rfl)
  subst hG
  refine ⟨_, _, pre14 _ ?_, hrun, hended, _, _, rfl, ?_, ⟨_, rfl⟩, hW, hsame.mono (by decide) (by decide)⟩
  · show Steps p.tables e below (T14.setTop (mkF m 46 #[.val (.ref o0), .val (.int p1)] [])) _
    exact X14.returnOut hx Bd.returns (hb hby d3_46) hr
  · show Q3 Z o0 p1 wa nl ga sz h0 n0 _ T14.heap _
    rw [e14]
    have f16 : Exa Z h14 o0 "com/example/nonesuch/nonesuch/engine/IntList" := ((P0_E.wr W12).wr W14)
    have f17 : Fld Z h14 o0 "com/example/nonesuch/nonesuch/engine/IntList" "values" "[I" (.ref wa) := ((P1_F.other W12 (Or.inr (slot_ne (Or.inl (hw _ (List.mem_of_getElem? (i := 11) rfl))) (Or.inl (hw _ (List.mem_of_getElem? (i := 18) rfl))) (by decide) (t := (.array .int)) (t' := .int) (by decide) (by decide)))).other W14 (Or.inl P6_NE))
    have f18 : Fld Z h14 o0 "com/example/nonesuch/nonesuch/engine/IntList" "size" "I" (.int (sz + (1 : Int32))) := (Fw12.other W14 (Or.inl P6_NE))
    exact ⟨rfl, N14, K14, f16, f17, f18, V14⟩
theorem d4_0 : decode prog_25_method_9_code 0 = .ok (.aload_n 0, 1) := by decide +kernel
theorem d4_1 : decode prog_25_method_9_code 1 = .ok (.getfield 7, 3) := by decide +kernel
theorem d4_4 : decode prog_25_method_9_code 4 = .ok (.aload_n 0, 1) := by decide +kernel
theorem d4_5 : decode prog_25_method_9_code 5 = .ok (.dup, 1) := by decide +kernel
theorem d4_6 : decode prog_25_method_9_code 6 = .ok (.getfield 13, 3) := by decide +kernel
theorem d4_9 : decode prog_25_method_9_code 9 = .ok (.iconst 1, 1) := by decide +kernel
theorem d4_10 : decode prog_25_method_9_code 10 = .ok (.isub, 1) := by decide +kernel
theorem d4_11 : decode prog_25_method_9_code 11 = .ok (.dup_x1, 1) := by decide +kernel
theorem d4_12 : decode prog_25_method_9_code 12 = .ok (.putfield 13, 3) := by decide +kernel
theorem d4_15 : decode prog_25_method_9_code 15 = .ok (.iaload, 1) := by decide +kernel
theorem d4_16 : decode prog_25_method_9_code 16 = .ok (.ireturn, 1) := by decide +kernel
theorem ef_4 (m : MethodId) (o0 : Addr) : entryFrame m #[(.ref o0)] 1 = mkF m 0 #[.val (.ref o0)] [] := by first | (simp [entryFrame, mkF, argsToLocals, Value.category]; done) | rfl
def Q4 (Z : State) (o0 : Addr) (wa : Addr) (nl : Int32) (ga : Nat → Int32) (sz : Int32) (h0 : Heap) (n0 : Nat) (v : Option Value) (h : Heap) (L : List Loc) : Prop := v = some (.int (ga ((sz - (1 : Int32))).toNatClampNeg)) ∧ Fr n0 L ∧ Keep h0 h [o0] ∧ Exa Z h o0 "com/example/nonesuch/nonesuch/engine/IntList" ∧ Fld Z h o0 "com/example/nonesuch/nonesuch/engine/IntList" "values" "[I" (.ref wa) ∧ Fld Z h o0 "com/example/nonesuch/nonesuch/engine/IntList" "size" "I" (.int (sz - (1 : Int32)))
set_option maxRecDepth 65536 in
set_option maxHeartbeats 40000000 in
theorem rm4 (l : Launch) (Z : State) (a0 : Array Value) (hw : ∀ d ∈ tables_1, d.before a0 Z = true) (ws : List Jvm.Cond) (o0 : Addr) (wa : Addr) (nl : Int32) (ga : Nat → Int32) (sz : Int32) (h0 : Heap) (n0 : Nat) (Z0 : n0 ≤ h0.size) (P0_E : Exa Z h0 o0 "com/example/nonesuch/nonesuch/engine/IntList") (P1_F : Fld Z h0 o0 "com/example/nonesuch/nonesuch/engine/IntList" "values" "[I" (.ref wa)) (P2_F : Fld Z h0 o0 "com/example/nonesuch/nonesuch/engine/IntList" "size" "I" (.int sz)) (P3_V : JV Value.int Z h0 wa .int nl ga) (P4_G : n0 ≤ o0) (P5_NE : o0 ≠ wa) (hbnd : ¬ (sz - (1 : Int32)) < 0 ∧ (sz - (1 : Int32)) < nl) :
    MetFree l (⟨"com/example/nonesuch/nonesuch/engine/IntList", "removeLast", "()I"⟩ : MethodName) (head1 (Jvm.Cond.code (⟨"com/example/nonesuch/nonesuch/engine/IntList", "removeLast", "()I"⟩ : MethodName) prog_25_method_9_code 1 (some .int) :: ws) ({ frames := 0, cells := 0, slots := 0, locals := 0 } : Room)) (fun a U => a = #[(.ref o0)] ∧ Z.Warmed39 U.vm ∧ U.heap = h0) (fun _ _ _ _ _ => True) (fun _ U o U' => ∃ v L, o = .returned v ∧ Q4 Z o0 wa nl ga sz h0 n0 v U'.heap L ∧ FrameEnd U o U' L ({ frames := 0, cells := 0, slots := 0, locals := 0 } : Room).cells ({ frames := 0, cells := 0, slots := 0, locals := 0 } : Room).slots) := by
  refine MetFree.of_bodySF (plainFor_of_name pn_com_example_nonesuch_nonesuch_engine_IntList) hisR ?_
  intro p e s m args below meth c s₁ Bd hml0 hP hK
  obtain ⟨rfl, hZ, hh⟩ := hP
  have hx := Bd.exec
  have hby := Bd.bytes
  have hml : c.maxLocals = 1 := hml0
  have hown : s.vm.findClass "com/example/nonesuch/nonesuch/engine/IntList" = some m.cls := findClass_of_methodNamed Bd.named
  have hnm := (name_of_methodNamed Bd.named Bd.method).1
  have X0 : Stand p l e ({ frames := 0, cells := 0, slots := 0, locals := 0 } : Room) s m #[(.ref o0)] below meth c s₁ [] 0 0 := Stand.of_body Bd
  have e0 : s₁.heap = h0 := by rw [← hh, Bd.state]; rfl
  have N0 := Fr.nil n0
  have K0 : Keep h0 h0 [o0] := Keep.refl _ _
  obtain ⟨G, hG⟩ : ∃ z, z = s₁.setTop (entryFrame m #[(.ref o0)] 1) := ⟨_, rfl⟩
  have pre0 : Lead p e below G (s₁.setTop (mkF m 0 #[.val (.ref o0)] [])) := fun t k => by rw [hG]; exact castTop (ef_4 m o0) k
  have pre1 : Lead p e below G (s₁.setTop (mkF m 1 #[.val (.ref o0)] [(.ref o0)])) := fun t k => by
    refine pre0 t ?_
    show Steps p.tables e below (s₁.setTop (mkF m 0 #[.val (.ref o0)] [])) _
    refine XS.aloadN X0.here hx rfl (hb hby d4_0) rfl rfl ?_
    show Steps p.tables e below (s₁.setTop (mkF m 1 #[.val (.ref o0)] [(.ref o0)])) _
    exact k
  obtain ⟨T2, X2, e2, st2⟩ := getF X0 hx hZ hown (host := "") (Or.inl (hw _ (List.mem_of_getElem? (i := 10) rfl))) Via.refl e0 P1_F (g := (mkF m 1 #[.val (.ref o0)] [(.ref o0)])) rfl rfl (hb hby d4_1)
  have pre2 : Lead p e below G (T2.setTop (mkF m 4 #[.val (.ref o0)] [(.ref wa)])) := fun t k => pre1 t (st2 _ k)
  have pre3 : Lead p e below G (T2.setTop (mkF m 6 #[.val (.ref o0)] [(.ref o0), (.ref o0), (.ref wa)])) := fun t k => by
    refine pre2 t ?_
    show Steps p.tables e below (T2.setTop (mkF m 4 #[.val (.ref o0)] [(.ref wa)])) _
    refine XS.aloadN X2.here hx rfl (hb hby d4_4) rfl rfl ?_
    show Steps p.tables e below (T2.setTop (mkF m 5 #[.val (.ref o0)] [(.ref o0), (.ref wa)])) _
    refine XS.dup X2.here hx rfl (hb hby d4_5) rfl rfl ?_
    show Steps p.tables e below (T2.setTop (mkF m 6 #[.val (.ref o0)] [(.ref o0), (.ref o0), (.ref wa)])) _
    exact k
  obtain ⟨T4, X4, e4, st4⟩ := getF X2 hx hZ hown (host := "") (Or.inl (hw _ (List.mem_of_getElem? (i := 17) rfl))) Via.refl e2 P2_F (g := (mkF m 6 #[.val (.ref o0)] [(.ref o0), (.ref o0), (.ref wa)])) rfl rfl (hb hby d4_6)
  have pre4 : Lead p e below G (T4.setTop (mkF m 9 #[.val (.ref o0)] [(.int sz), (.ref o0), (.ref wa)])) := fun t k => pre3 t (st4 _ k)
  have pre5 : Lead p e below G (T4.setTop (mkF m 12 #[.val (.ref o0)] [(.int (sz - (1 : Int32))), (.ref o0), (.int (sz - (1 : Int32))), (.ref wa)])) := fun t k => by
    refine pre4 t ?_
    show Steps p.tables e below (T4.setTop (mkF m 9 #[.val (.ref o0)] [(.int sz), (.ref o0), (.ref wa)])) _
    refine XS.iconst X4.here hx rfl (hb hby d4_9) ?_
    show Steps p.tables e below (T4.setTop (mkF m 10 #[.val (.ref o0)] [(.int (1 : Int32)), (.int sz), (.ref o0), (.ref wa)])) _
    refine XS.isub X4.here hx rfl (hb hby d4_10) rfl ?_
    show Steps p.tables e below (T4.setTop (mkF m 11 #[.val (.ref o0)] [(.int (sz - (1 : Int32))), (.ref o0), (.ref wa)])) _
    refine XS.dupX1 X4.here hx rfl (hb hby d4_11) rfl rfl rfl ?_
    show Steps p.tables e below (T4.setTop (mkF m 12 #[.val (.ref o0)] [(.int (sz - (1 : Int32))), (.ref o0), (.int (sz - (1 : Int32))), (.ref wa)])) _
    exact k
  obtain ⟨T6, h6, X6, e6, W6, st6⟩ := putF X4 hx hZ hown (host := "") (Or.inl (hw _ (List.mem_of_getElem? (i := 17) rfl))) Via.refl e4 P2_F P0_E (Or.inl (hw _ (List.mem_of_getElem? (i := 18) rfl))) (hw _ (List.mem_of_getElem? (i := 1) rfl)) (ty := .int) (by decide) rfl rfl (g := (mkF m 12 #[.val (.ref o0)] [(.int (sz - (1 : Int32))), (.ref o0), (.int (sz - (1 : Int32))), (.ref wa)])) rfl rfl (hb hby d4_12)
  have N6 := Fr.snoc X6 N0 P4_G
  have K6 : Keep h0 h6 [o0] := K0.wr W6 (Or.inl (List.mem_of_getElem? (i := 0) rfl))
  have Fw6 : Fld Z h6 o0 "com/example/nonesuch/nonesuch/engine/IntList" "size" "I" (.int (sz - (1 : Int32))) := P2_F.same W6
  have pre6 : Lead p e below G (T6.setTop (mkF m 15 #[.val (.ref o0)] [(.int (sz - (1 : Int32))), (.ref wa)])) := fun t k => pre5 t (st6 _ k)
  have f8 : JV Value.int Z h6 wa .int nl ga := (P3_V.other W6 (Ne.symm P5_NE))
  obtain ⟨cl7, Ar7, hin7, hat7⟩ := f8.in (j := (sz - (1 : Int32))) hbnd
  have st7 := X6.iaload hx (j := (sz - (1 : Int32))) (v := (.int (ga ((sz - (1 : Int32))).toNatClampNeg))) (by rw [e6]; exact Ar7.1) (State.isArrayOf_alike hZ.alike Ar7.2.1) Ar7.2.2 hin7 hat7 (g := (mkF m 15 #[.val (.ref o0)] [(.int (sz - (1 : Int32))), (.ref wa)])) rfl rfl (hb hby d4_15)
  have pre7 : Lead p e below G (T6.setTop (mkF m 16 #[.val (.ref o0)] [(.int (ga ((sz - (1 : Int32))).toNatClampNeg))])) := fun t k => pre6 t (st7 _ k)
  obtain ⟨fs, hr, hrun, hended, hW, hsame⟩ := X6.leave (v := some (.int (ga ((sz - (1 : Int32))).toNatClampNeg))) (fun h => by rw [Bd.returns] at h; cases h)
  subst hG
  refine ⟨_, _, pre7 _ ?_, hrun, hended, _, _, rfl, ?_, ⟨_, rfl⟩, hW, hsame.mono (by decide) (by decide)⟩
  · show Steps p.tables e below (T6.setTop (mkF m 16 #[.val (.ref o0)] [(.int (ga ((sz - (1 : Int32))).toNatClampNeg))])) _
    exact retI X6 hx Bd.returns (hb hby d4_16) hr
  · show Q4 Z o0 wa nl ga sz h0 n0 _ T6.heap _
    rw [e6]
    have f9 : Exa Z h6 o0 "com/example/nonesuch/nonesuch/engine/IntList" := (P0_E.wr W6)
    have f10 : Fld Z h6 o0 "com/example/nonesuch/nonesuch/engine/IntList" "values" "[I" (.ref wa) := (P1_F.other W6 (Or.inr (slot_ne (Or.inl (hw _ (List.mem_of_getElem? (i := 11) rfl))) (Or.inl (hw _ (List.mem_of_getElem? (i := 18) rfl))) (by decide) (t := (.array .int)) (t' := .int) (by decide) (by decide))))
    exact ⟨congrArg (fun z => some (Value.int z)) (show (ga ((sz - (1 : Int32))).toNatClampNeg) = (ga ((sz - (1 : Int32))).toNatClampNeg) from rfl), N6, K6, f9, f10, Fw6⟩
theorem d5_0 : decode prog_25_method_2_code 0 = .ok (.aload_n 0, 1) := by decide +kernel
theorem d5_1 : decode prog_25_method_2_code 1 = .ok (.getfield 13, 3) := by decide +kernel
theorem d5_4 : decode prog_25_method_2_code 4 = .ok (.ireturn, 1) := by decide +kernel
theorem ef_5 (m : MethodId) (o0 : Addr) : entryFrame m #[(.ref o0)] 1 = mkF m 0 #[.val (.ref o0)] [] := by first | (simp [entryFrame, mkF, argsToLocals, Value.category]; done) | rfl
def Q5 (Z : State) (o0 : Addr) (sz : Int32) (h0 : Heap) (n0 : Nat) (v : Option Value) (h : Heap) (L : List Loc) : Prop := v = some (.int sz) ∧ Fr n0 L ∧ h = h0
set_option maxRecDepth 65536 in
set_option maxHeartbeats 40000000 in
theorem rm5 (l : Launch) (Z : State) (a0 : Array Value) (hw : ∀ d ∈ tables_1, d.before a0 Z = true) (ws : List Jvm.Cond) (o0 : Addr) (sz : Int32) (h0 : Heap) (n0 : Nat) (Z0 : n0 ≤ h0.size) (P0_F : Fld Z h0 o0 "com/example/nonesuch/nonesuch/engine/IntList" "size" "I" (.int sz)) :
    MetFree l (⟨"com/example/nonesuch/nonesuch/engine/IntList", "size", "()I"⟩ : MethodName) (head1 (Jvm.Cond.code (⟨"com/example/nonesuch/nonesuch/engine/IntList", "size", "()I"⟩ : MethodName) prog_25_method_2_code 1 (some .int) :: ws) ({ frames := 0, cells := 0, slots := 0, locals := 0 } : Room)) (fun a U => a = #[(.ref o0)] ∧ Z.Warmed39 U.vm ∧ U.heap = h0) (fun _ _ _ _ _ => True) (fun _ U o U' => ∃ v L, o = .returned v ∧ Q5 Z o0 sz h0 n0 v U'.heap L ∧ FrameEnd U o U' L ({ frames := 0, cells := 0, slots := 0, locals := 0 } : Room).cells ({ frames := 0, cells := 0, slots := 0, locals := 0 } : Room).slots) := by
  refine MetFree.of_bodySF (plainFor_of_name pn_com_example_nonesuch_nonesuch_engine_IntList) hisR ?_
  intro p e s m args below meth c s₁ Bd hml0 hP hK
  obtain ⟨rfl, hZ, hh⟩ := hP
  have hx := Bd.exec
  have hby := Bd.bytes
  have hml : c.maxLocals = 1 := hml0
  have hown : s.vm.findClass "com/example/nonesuch/nonesuch/engine/IntList" = some m.cls := findClass_of_methodNamed Bd.named
  have hnm := (name_of_methodNamed Bd.named Bd.method).1
  have X0 : Stand p l e ({ frames := 0, cells := 0, slots := 0, locals := 0 } : Room) s m #[(.ref o0)] below meth c s₁ [] 0 0 := Stand.of_body Bd
  have e0 : s₁.heap = h0 := by rw [← hh, Bd.state]; rfl
  have N0 := Fr.nil n0
  have K0 : Keep h0 h0 [] := Keep.refl _ _
  obtain ⟨G, hG⟩ : ∃ z, z = s₁.setTop (entryFrame m #[(.ref o0)] 1) := ⟨_, rfl⟩
  have pre0 : Lead p e below G (s₁.setTop (mkF m 0 #[.val (.ref o0)] [])) := fun t k => by rw [hG]; exact castTop (ef_5 m o0) k
  have pre1 : Lead p e below G (s₁.setTop (mkF m 1 #[.val (.ref o0)] [(.ref o0)])) := fun t k => by
    refine pre0 t ?_
    show Steps p.tables e below (s₁.setTop (mkF m 0 #[.val (.ref o0)] [])) _
    refine XS.aloadN X0.here hx rfl (hb hby d5_0) rfl rfl ?_
    show Steps p.tables e below (s₁.setTop (mkF m 1 #[.val (.ref o0)] [(.ref o0)])) _
    exact k
  obtain ⟨T2, X2, e2, st2⟩ := getF X0 hx hZ hown (host := "") (Or.inl (hw _ (List.mem_of_getElem? (i := 17) rfl))) Via.refl e0 P0_F (g := (mkF m 1 #[.val (.ref o0)] [(.ref o0)])) rfl rfl (hb hby d5_1)
  have pre2 : Lead p e below G (T2.setTop (mkF m 4 #[.val (.ref o0)] [(.int sz)])) := fun t k => pre1 t (st2 _ k)
  obtain ⟨fs, hr, hrun, hended, hW, hsame⟩ := X2.leave (v := some (.int sz)) (fun h => by rw [Bd.returns] at h; cases h)
  subst hG
  refine ⟨_, _, pre2 _ ?_, hrun, hended, _, _, rfl, ?_, ⟨_, rfl⟩, hW, hsame.mono (by decide) (by decide)⟩
  · show Steps p.tables e below (T2.setTop (mkF m 4 #[.val (.ref o0)] [(.int sz)])) _
    exact retI X2 hx Bd.returns (hb hby d5_4) hr
  · show Q5 Z o0 sz h0 n0 _ T2.heap _
    rw [e2]
    exact ⟨congrArg (fun z => some (Value.int z)) (show sz = sz from rfl), N0, rfl⟩
theorem d6_0 : decode prog_25_method_6_code 0 = .ok (.aload_n 0, 1) := by decide +kernel
theorem d6_1 : decode prog_25_method_6_code 1 = .ok (.getfield 7, 3) := by decide +kernel
theorem d6_4 : decode prog_25_method_6_code 4 = .ok (.aload_n 0, 1) := by decide +kernel
theorem d6_5 : decode prog_25_method_6_code 5 = .ok (.getfield 13, 3) := by decide +kernel
theorem d6_8 : decode prog_25_method_6_code 8 = .ok (.iconst 1, 1) := by decide +kernel
theorem d6_9 : decode prog_25_method_6_code 9 = .ok (.isub, 1) := by decide +kernel
theorem d6_10 : decode prog_25_method_6_code 10 = .ok (.iaload, 1) := by decide +kernel
theorem d6_11 : decode prog_25_method_6_code 11 = .ok (.ireturn, 1) := by decide +kernel
theorem ef_6 (m : MethodId) (o0 : Addr) : entryFrame m #[(.ref o0)] 1 = mkF m 0 #[.val (.ref o0)] [] := by first | (simp [entryFrame, mkF, argsToLocals, Value.category]; done) | rfl
def Q6 (Z : State) (o0 : Addr) (wa : Addr) (nl : Int32) (ga : Nat → Int32) (sz : Int32) (h0 : Heap) (n0 : Nat) (v : Option Value) (h : Heap) (L : List Loc) : Prop := v = some (.int (ga ((sz - (1 : Int32))).toNatClampNeg)) ∧ Fr n0 L ∧ h = h0
set_option maxRecDepth 65536 in
set_option maxHeartbeats 40000000 in
theorem rm6 (l : Launch) (Z : State) (a0 : Array Value) (hw : ∀ d ∈ tables_1, d.before a0 Z = true) (ws : List Jvm.Cond) (o0 : Addr) (wa : Addr) (nl : Int32) (ga : Nat → Int32) (sz : Int32) (h0 : Heap) (n0 : Nat) (Z0 : n0 ≤ h0.size) (P0_E : Exa Z h0 o0 "com/example/nonesuch/nonesuch/engine/IntList") (P1_F : Fld Z h0 o0 "com/example/nonesuch/nonesuch/engine/IntList" "values" "[I" (.ref wa)) (P2_F : Fld Z h0 o0 "com/example/nonesuch/nonesuch/engine/IntList" "size" "I" (.int sz)) (P3_V : JV Value.int Z h0 wa .int nl ga) (hbnd : ¬ (sz - (1 : Int32)) < 0 ∧ (sz - (1 : Int32)) < nl) :
    MetFree l (⟨"com/example/nonesuch/nonesuch/engine/IntList", "last", "()I"⟩ : MethodName) (head1 (Jvm.Cond.code (⟨"com/example/nonesuch/nonesuch/engine/IntList", "last", "()I"⟩ : MethodName) prog_25_method_6_code 1 (some .int) :: ws) ({ frames := 0, cells := 0, slots := 0, locals := 0 } : Room)) (fun a U => a = #[(.ref o0)] ∧ Z.Warmed39 U.vm ∧ U.heap = h0) (fun _ _ _ _ _ => True) (fun _ U o U' => ∃ v L, o = .returned v ∧ Q6 Z o0 wa nl ga sz h0 n0 v U'.heap L ∧ FrameEnd U o U' L ({ frames := 0, cells := 0, slots := 0, locals := 0 } : Room).cells ({ frames := 0, cells := 0, slots := 0, locals := 0 } : Room).slots) := by
  refine MetFree.of_bodySF (plainFor_of_name pn_com_example_nonesuch_nonesuch_engine_IntList) hisR ?_
  intro p e s m args below meth c s₁ Bd hml0 hP hK
  obtain ⟨rfl, hZ, hh⟩ := hP
  have hx := Bd.exec
  have hby := Bd.bytes
  have hml : c.maxLocals = 1 := hml0
  have hown : s.vm.findClass "com/example/nonesuch/nonesuch/engine/IntList" = some m.cls := findClass_of_methodNamed Bd.named
  have hnm := (name_of_methodNamed Bd.named Bd.method).1
  have X0 : Stand p l e ({ frames := 0, cells := 0, slots := 0, locals := 0 } : Room) s m #[(.ref o0)] below meth c s₁ [] 0 0 := Stand.of_body Bd
  have e0 : s₁.heap = h0 := by rw [← hh, Bd.state]; rfl
  have N0 := Fr.nil n0
  have K0 : Keep h0 h0 [] := Keep.refl _ _
  obtain ⟨G, hG⟩ : ∃ z, z = s₁.setTop (entryFrame m #[(.ref o0)] 1) := ⟨_, rfl⟩
  have pre0 : Lead p e below G (s₁.setTop (mkF m 0 #[.val (.ref o0)] [])) := fun t k => by rw [hG]; exact castTop (ef_6 m o0) k
  have pre1 : Lead p e below G (s₁.setTop (mkF m 1 #[.val (.ref o0)] [(.ref o0)])) := fun t k => by
    refine pre0 t ?_
    show Steps p.tables e below (s₁.setTop (mkF m 0 #[.val (.ref o0)] [])) _
    refine XS.aloadN X0.here hx rfl (hb hby d6_0) rfl rfl ?_
    show Steps p.tables e below (s₁.setTop (mkF m 1 #[.val (.ref o0)] [(.ref o0)])) _
    exact k
  obtain ⟨T2, X2, e2, st2⟩ := getF X0 hx hZ hown (host := "") (Or.inl (hw _ (List.mem_of_getElem? (i := 10) rfl))) Via.refl e0 P1_F (g := (mkF m 1 #[.val (.ref o0)] [(.ref o0)])) rfl rfl (hb hby d6_1)
  have pre2 : Lead p e below G (T2.setTop (mkF m 4 #[.val (.ref o0)] [(.ref wa)])) := fun t k => pre1 t (st2 _ k)
  have pre3 : Lead p e below G (T2.setTop (mkF m 5 #[.val (.ref o0)] [(.ref o0), (.ref wa)])) := fun t k => by
    refine pre2 t ?_
    show Steps p.tables e below (T2.setTop (mkF m 4 #[.val (.ref o0)] [(.ref wa)])) _
    refine XS.aloadN X2.here hx rfl (hb hby d6_4) rfl rfl ?_
    show Steps p.tables e below (T2.setTop (mkF m 5 #[.val (.ref o0)] [(.ref o0), (.ref wa)])) _
    exact k
  obtain ⟨T4, X4, e4, st4⟩ := getF X2 hx hZ hown (host := "") (Or.inl (hw _ (List.mem_of_getElem? (i := 17) rfl))) Via.refl e2 P2_F (g := (mkF m 5 #[.val (.ref o0)] [(.ref o0), (.ref wa)])) rfl rfl (hb hby d6_5)
  have pre4 : Lead p e below G (T4.setTop (mkF m 8 #[.val (.ref o0)] [(.int sz), (.ref wa)])) := fun t k => pre3 t (st4 _ k)
  have pre5 : Lead p e below G (T4.setTop (mkF m 10 #[.val (.ref o0)] [(.int (sz - (1 : Int32))), (.ref wa)])) := fun t k => by
    refine pre4 t ?_
    show Steps p.tables e below (T4.setTop (mkF m 8 #[.val (.ref o0)] [(.int sz), (.ref wa)])) _
    refine XS.iconst X4.here hx rfl (hb hby d6_8) ?_
    show Steps p.tables e below (T4.setTop (mkF m 9 #[.val (.ref o0)] [(.int (1 : Int32)), (.int sz), (.ref wa)])) _
    refine XS.isub X4.here hx rfl (hb hby d6_9) rfl ?_
    show Steps p.tables e below (T4.setTop (mkF m 10 #[.val (.ref o0)] [(.int (sz - (1 : Int32))), (.ref wa)])) _
    exact k
  obtain ⟨cl6, Ar6, hin6, hat6⟩ := P3_V.in (j := (sz - (1 : Int32))) hbnd
  have st6 := X4.iaload hx (j := (sz - (1 : Int32))) (v := (.int (ga ((sz - (1 : Int32))).toNatClampNeg))) (by rw [e4]; exact Ar6.1) (State.isArrayOf_alike hZ.alike Ar6.2.1) Ar6.2.2 hin6 hat6 (g := (mkF m 10 #[.val (.ref o0)] [(.int (sz - (1 : Int32))), (.ref wa)])) rfl rfl (hb hby d6_10)
  have pre6 : Lead p e below G (T4.setTop (mkF m 11 #[.val (.ref o0)] [(.int (ga ((sz - (1 : Int32))).toNatClampNeg))])) := fun t k => pre5 t (st6 _ k)
  obtain ⟨fs, hr, hrun, hended, hW, hsame⟩ := X4.leave (v := some (.int (ga ((sz - (1 : Int32))).toNatClampNeg))) (fun h => by rw [Bd.returns] at h; cases h)
  subst hG
  refine ⟨_, _, pre6 _ ?_, hrun, hended, _, _, rfl, ?_, ⟨_, rfl⟩, hW, hsame.mono (by decide) (by decide)⟩
  · show Steps p.tables e below (T4.setTop (mkF m 11 #[.val (.ref o0)] [(.int (ga ((sz - (1 : Int32))).toNatClampNeg))])) _
    exact retI X4 hx Bd.returns (hb hby d6_11) hr
  · show Q6 Z o0 wa nl ga sz h0 n0 _ T4.heap _
    rw [e4]
    exact ⟨congrArg (fun z => some (Value.int z)) (show (ga ((sz - (1 : Int32))).toNatClampNeg) = (ga ((sz - (1 : Int32))).toNatClampNeg) from rfl), N0, rfl⟩
theorem d7_0 : decode prog_25_method_4_code 0 = .ok (.aload_n 0, 1) := by decide +kernel
theorem d7_1 : decode prog_25_method_4_code 1 = .ok (.getfield 7, 3) := by decide +kernel
theorem d7_4 : decode prog_25_method_4_code 4 = .ok (.iload_n 1, 1) := by decide +kernel
theorem d7_5 : decode prog_25_method_4_code 5 = .ok (.iaload, 1) := by decide +kernel
theorem d7_6 : decode prog_25_method_4_code 6 = .ok (.ireturn, 1) := by decide +kernel
theorem ef_7 (m : MethodId) (o0 : Addr) (p1 : Int32) : entryFrame m #[(.ref o0), (.int p1)] 2 = mkF m 0 #[.val (.ref o0), .val (.int p1)] [] := by first | (simp [entryFrame, mkF, argsToLocals, Value.category]; done) | rfl
def Q7 (Z : State) (o0 : Addr) (p1 : Int32) (wa : Addr) (nl : Int32) (ga : Nat → Int32) (h0 : Heap) (n0 : Nat) (v : Option Value) (h : Heap) (L : List Loc) : Prop := v = some (.int (ga (p1).toNatClampNeg)) ∧ Fr n0 L ∧ h = h0
set_option maxRecDepth 65536 in
set_option maxHeartbeats 40000000 in
theorem rm7 (l : Launch) (Z : State) (a0 : Array Value) (hw : ∀ d ∈ tables_1, d.before a0 Z = true) (ws : List Jvm.Cond) (o0 : Addr) (p1 : Int32) (wa : Addr) (nl : Int32) (ga : Nat → Int32) (h0 : Heap) (n0 : Nat) (Z0 : n0 ≤ h0.size) (P0_F : Fld Z h0 o0 "com/example/nonesuch/nonesuch/engine/IntList" "values" "[I" (.ref wa)) (P1_V : JV Value.int Z h0 wa .int nl ga) (hbnd : ¬ p1 < 0 ∧ p1 < nl) :
    MetFree l (⟨"com/example/nonesuch/nonesuch/engine/IntList", "get", "(I)I"⟩ : MethodName) (head1 (Jvm.Cond.code (⟨"com/example/nonesuch/nonesuch/engine/IntList", "get", "(I)I"⟩ : MethodName) prog_25_method_4_code 2 (some .int) :: ws) ({ frames := 0, cells := 0, slots := 0, locals := 0 } : Room)) (fun a U => a = #[(.ref o0), (.int p1)] ∧ Z.Warmed39 U.vm ∧ U.heap = h0) (fun _ _ _ _ _ => True) (fun _ U o U' => ∃ v L, o = .returned v ∧ Q7 Z o0 p1 wa nl ga h0 n0 v U'.heap L ∧ FrameEnd U o U' L ({ frames := 0, cells := 0, slots := 0, locals := 0 } : Room).cells ({ frames := 0, cells := 0, slots := 0, locals := 0 } : Room).slots) := by
  refine MetFree.of_bodySF (plainFor_of_name pn_com_example_nonesuch_nonesuch_engine_IntList) hisR ?_
  intro p e s m args below meth c s₁ Bd hml0 hP hK
  obtain ⟨rfl, hZ, hh⟩ := hP
  have hx := Bd.exec
  have hby := Bd.bytes
  have hml : c.maxLocals = 2 := hml0
  have hown : s.vm.findClass "com/example/nonesuch/nonesuch/engine/IntList" = some m.cls := findClass_of_methodNamed Bd.named
  have hnm := (name_of_methodNamed Bd.named Bd.method).1
  have X0 : Stand p l e ({ frames := 0, cells := 0, slots := 0, locals := 0 } : Room) s m #[(.ref o0), (.int p1)] below meth c s₁ [] 0 0 := Stand.of_body Bd
  have e0 : s₁.heap = h0 := by rw [← hh, Bd.state]; rfl
  have N0 := Fr.nil n0
  have K0 : Keep h0 h0 [] := Keep.refl _ _
  obtain ⟨G, hG⟩ : ∃ z, z = s₁.setTop (entryFrame m #[(.ref o0), (.int p1)] 2) := ⟨_, rfl⟩
  have pre0 : Lead p e below G (s₁.setTop (mkF m 0 #[.val (.ref o0), .val (.int p1)] [])) := fun t k => by rw [hG]; exact castTop (ef_7 m o0 p1) k
  have pre1 : Lead p e below G (s₁.setTop (mkF m 1 #[.val (.ref o0), .val (.int p1)] [(.ref o0)])) := fun t k => by
    refine pre0 t ?_
    show Steps p.tables e below (s₁.setTop (mkF m 0 #[.val (.ref o0), .val (.int p1)] [])) _
    refine XS.aloadN X0.here hx rfl (hb hby d7_0) rfl rfl ?_
    show Steps p.tables e below (s₁.setTop (mkF m 1 #[.val (.ref o0), .val (.int p1)] [(.ref o0)])) _
    exact k
  obtain ⟨T2, X2, e2, st2⟩ := getF X0 hx hZ hown (host := "") (Or.inl (hw _ (List.mem_of_getElem? (i := 10) rfl))) Via.refl e0 P0_F (g := (mkF m 1 #[.val (.ref o0), .val (.int p1)] [(.ref o0)])) rfl rfl (hb hby d7_1)
  have pre2 : Lead p e below G (T2.setTop (mkF m 4 #[.val (.ref o0), .val (.int p1)] [(.ref wa)])) := fun t k => pre1 t (st2 _ k)
  have pre3 : Lead p e below G (T2.setTop (mkF m 5 #[.val (.ref o0), .val (.int p1)] [(.int p1), (.ref wa)])) := fun t k => by
    refine pre2 t ?_
    show Steps p.tables e below (T2.setTop (mkF m 4 #[.val (.ref o0), .val (.int p1)] [(.ref wa)])) _
    refine XS.iloadN X2.here hx rfl (hb hby d7_4) rfl ?_
    show Steps p.tables e below (T2.setTop (mkF m 5 #[.val (.ref o0), .val (.int p1)] [(.int p1), (.ref wa)])) _
    exact k
  obtain ⟨cl4, Ar4, hin4, hat4⟩ := P1_V.in (j := p1) hbnd
  have st4 := X2.iaload hx (j := p1) (v := (.int (ga (p1).toNatClampNeg))) (by rw [e2]; exact Ar4.1) (State.isArrayOf_alike hZ.alike Ar4.2.1) Ar4.2.2 hin4 hat4 (g := (mkF m 5 #[.val (.ref o0), .val (.int p1)] [(.int p1), (.ref wa)])) rfl rfl (hb hby d7_5)
  have pre4 : Lead p e below G (T2.setTop (mkF m 6 #[.val (.ref o0), .val (.int p1)] [(.int (ga (p1).toNatClampNeg))])) := fun t k => pre3 t (st4 _ k)
  obtain ⟨fs, hr, hrun, hended, hW, hsame⟩ := X2.leave (v := some (.int (ga (p1).toNatClampNeg))) (fun h => by rw [Bd.returns] at h; cases h)
  subst hG
  refine ⟨_, _, pre4 _ ?_, hrun, hended, _, _, rfl, ?_, ⟨_, rfl⟩, hW, hsame.mono (by decide) (by decide)⟩
  · show Steps p.tables e below (T2.setTop (mkF m 6 #[.val (.ref o0), .val (.int p1)] [(.int (ga (p1).toNatClampNeg))])) _
    exact retI X2 hx Bd.returns (hb hby d7_6) hr
  · show Q7 Z o0 p1 wa nl ga h0 n0 _ T2.heap _
    rw [e2]
    exact ⟨congrArg (fun z => some (Value.int z)) (show (ga (p1).toNatClampNeg) = (ga (p1).toNatClampNeg) from rfl), N0, rfl⟩
theorem pd__28__29_V : parseMethodDescriptor "()V" = some ⟨[], none⟩ := by decide +kernel
theorem pd__28_I_29_V : parseMethodDescriptor "(I)V" = some ⟨[.int], none⟩ := by decide +kernel
theorem pd__28__29_I : parseMethodDescriptor "()I" = some ⟨[], some .int⟩ := by decide +kernel
theorem pd__28_I_29_I : parseMethodDescriptor "(I)I" = some ⟨[.int], some .int⟩ := by decide +kernel
theorem own_max (x : Int32) : (x &&& (2147483647 : Int32)).toInt = x.toInt % 2 ^ 31 := Jvm.Kit.i32_mask x _ (k := 31) (by decide) (by decide)
theorem own_rem (a k : Int32) (ha : 0 ≤ a.toInt) (hk : 0 < k.toInt) : (a - a / k * k).toInt = a.toInt % k.toInt := by
  have b1 := Int32.le_toInt a; have b2 := Int32.toInt_lt a
  have d : (a / k).toInt = a.toInt / k.toInt := by rw [Jvm.Kit.i32_div (by omega), Int.tdiv_eq_ediv_of_nonneg ha]
  have q0 : 0 ≤ a.toInt / k.toInt := Int.ediv_nonneg ha (by omega)
  have q1 : a.toInt / k.toInt * k.toInt ≤ a.toInt := Int.ediv_mul_le _ (by omega)
  have q2 : 0 ≤ a.toInt / k.toInt * k.toInt := Int.mul_nonneg q0 (by omega)
  have m : (a / k * k).toInt = a.toInt / k.toInt * k.toInt := by rw [Jvm.Kit.i32_mul, d] <;> rw [d] <;> omega
  rw [Jvm.Kit.i32_sub (by omega) (by omega), m, Int.emod_def, Int.mul_comm]
theorem own_nar0 : nar .boolean (0 : Int32) = 0 := by decide
theorem own_nar1 : nar .boolean (1 : Int32) = 1 := by decide
theorem own_nat {a : Int32} {k : Nat} (h : a.toInt ≤ k) : a.toNatClampNeg ≤ k := by
  show a.toInt.toNat ≤ k
  omega

theorem pn_com_example_nonesuch_nonesuch_engine_IntListRemoveLastPinLaw : plainName "com/example/nonesuch/nonesuch/engine/IntListRemoveLastPinLaw" = true := by first | (simp [plainName, overriddenIn]; done) | decide +kernel
theorem ef_0 (m : MethodId) (p0 : Int32) (p1 : Int32) (p2 : Int32) (p3 : Int32) : entryFrame m #[(.int p0), (.int p1), (.int p2), (.int p3)] maxLocals = mkF m 0 #[.val (.int p0), .val (.int p1), .val (.int p2), .val (.int p3), .unset, .unset, .unset, .unset, .unset, .unset, .unset, .unset] [] := by first | (simp [entryFrame, mkF, argsToLocals, Value.category, maxLocals]; done) | rfl
def Q0 (Z : State) (p0 : Int32) (p1 : Int32) (p2 : Int32) (p3 : Int32)  (h0 : Heap) (n0 : Nat) (v : Option Value) (h : Heap) (L : List Loc) : Prop := v = some (.int (1 : Int32)) ∧ Fr n0 L
set_option maxRecDepth 65536 in
set_option maxHeartbeats 40000000 in
theorem rm0 (l : Launch) (Z : State) (a0 : Array Value) (hw : ∀ d ∈ tables_1, d.before a0 Z = true) (ws : List Jvm.Cond) (p0 : Int32) (p1 : Int32) (p2 : Int32) (p3 : Int32)  (h0 : Heap) (n0 : Nat) (Z0 : n0 ≤ h0.size)  :
    MetFree l x (head1 (Jvm.Cond.code x code maxLocals ret :: ws) room_1) (fun a U => a = #[(.int p0), (.int p1), (.int p2), (.int p3)] ∧ Z.Warmed39 U.vm ∧ U.heap = h0) (fun _ _ _ _ _ => True) (fun _ U o U' => ∃ v L, o = .returned v ∧ Q0 Z p0 p1 p2 p3 h0 n0 v U'.heap L ∧ FrameEnd U o U' L room_1.cells room_1.slots) := by
  refine MetFree.of_bodySF (plainFor_of_name pn_com_example_nonesuch_nonesuch_engine_IntListRemoveLastPinLaw) hisR ?_
  intro p e s m args below meth c s₁ Bd hml0 hP hK
  obtain ⟨rfl, hZ, hh⟩ := hP
  have hx := Bd.exec
  have hby := Bd.bytes
  have hml : c.maxLocals = 12 := hml0
  have hown : s.vm.findClass "com/example/nonesuch/nonesuch/engine/IntListRemoveLastPinLaw" = some m.cls := findClass_of_methodNamed Bd.named
  have hnm := (name_of_methodNamed Bd.named Bd.method).1
  have X0 : Stand p l e room_1 s m #[(.int p0), (.int p1), (.int p2), (.int p3)] below meth c s₁ [] 0 0 := Stand.of_body Bd
  have e0 : s₁.heap = h0 := by rw [← hh, Bd.state]; rfl
  have N0 := Fr.nil n0
  have K0 : Keep h0 h0 [] := Keep.refl _ _
  obtain ⟨G, hG⟩ : ∃ z, z = s₁.setTop (entryFrame m #[(.int p0), (.int p1), (.int p2), (.int p3)] maxLocals) := ⟨_, rfl⟩
  have pre0 : Lead p e below G (s₁.setTop (mkF m 0 #[.val (.int p0), .val (.int p1), .val (.int p2), .val (.int p3), .unset, .unset, .unset, .unset, .unset, .unset, .unset, .unset] [])) := fun t k => by rw [hG]; exact castTop (ef_0 m p0 p1 p2 p3) k
  obtain ⟨T1, h1, X1, e1, E1, A1, D1, -, st1⟩ := newO X0 hx hZ hown (hw _ (List.mem_of_getElem? (i := 0) rfl)) (hw _ (List.mem_of_getElem? (i := 1) rfl)) (hw _ (List.mem_of_getElem? (i := 2) rfl)) e0 (g := (mkF m 0 #[.val (.int p0), .val (.int p1), .val (.int p2), .val (.int p3), .unset, .unset, .unset, .unset, .unset, .unset, .unset, .unset] [])) rfl (hb hby at_0) (by decide) (by decide)
  obtain ⟨b1, g1⟩ : ∃ z, z = h0.size := ⟨_, rfl⟩
  rw [← g1] at A1 D1 st1
  have sz1 : h0.size ≤ b1 := Nat.le_trans K0.1 (Nat.le_of_eq g1.symm)
  have ge1 : n0 ≤ b1 := Nat.le_trans Z0 sz1
  have K1 : Keep h0 h1 [] := K0.ext E1
  have F1_values : Fld Z h1 b1 "com/example/nonesuch/nonesuch/engine/IntList" "values" "[I" .null := D1 (Or.inl (hw _ (List.mem_of_getElem? (i := 11) rfl))) (ty := (.array .int)) (by decide)
  have F1_size : Fld Z h1 b1 "com/example/nonesuch/nonesuch/engine/IntList" "size" "I" (.int (0 : Int32)) := D1 (Or.inl (hw _ (List.mem_of_getElem? (i := 18) rfl))) (ty := .int) (by decide)
  have pre1 : Lead p e below G (T1.setTop (mkF m 3 #[.val (.int p0), .val (.int p1), .val (.int p2), .val (.int p3), .unset, .unset, .unset, .unset, .unset, .unset, .unset, .unset] [(.ref b1)])) := fun t k => pre0 t (st1 _ k)
  have pre2 : Lead p e below G (T1.setTop (mkF m 4 #[.val (.int p0), .val (.int p1), .val (.int p2), .val (.int p3), .unset, .unset, .unset, .unset, .unset, .unset, .unset, .unset] [(.ref b1), (.ref b1)])) := fun t k => by
    refine pre1 t ?_
    show Steps p.tables e below (T1.setTop (mkF m 3 #[.val (.int p0), .val (.int p1), .val (.int p2), .val (.int p3), .unset, .unset, .unset, .unset, .unset, .unset, .unset, .unset] [(.ref b1)])) _
    refine XS.dup X1.here hx rfl (hb hby at_3) rfl rfl ?_
    show Steps p.tables e below (T1.setTop (mkF m 4 #[.val (.int p0), .val (.int p1), .val (.int p2), .val (.int p3), .unset, .unset, .unset, .unset, .unset, .unset, .unset, .unset] [(.ref b1), (.ref b1)])) _
    exact k
  obtain ⟨_, _, ⟨T3, L3, k3, n3⟩, -, X3, ⟨Lc3, hQ3, l3, y3, z3⟩, st3⟩ := X1.specialBack hx (y := (⟨"com/example/nonesuch/nonesuch/engine/IntList", "<init>", "()V"⟩ : MethodName)) rfl hown (mvT hZ (hw _ (List.mem_of_getElem? (i := 3) rfl))) (mvT hZ (hw _ (List.mem_of_getElem? (i := 4) rfl))) (mvT hZ (hw _ (List.mem_of_getElem? (i := 5) rfl))) (by decide) (backOf (W := 1) (rm1 l Z a0 hw [] b1  h1 n0 (Nat.le_trans Z0 K1.1) A1 ge1 F1_values F1_size) hZ (hw _ (List.mem_of_getElem? (i := 5) rfl)) (hw _ (List.mem_of_getElem? (i := 2) rfl)) (by decide) (by decide)) (g := (mkF m 4 #[.val (.int p0), .val (.int p1), .val (.int p2), .val (.int p3), .unset, .unset, .unset, .unset, .unset, .unset, .unset, .unset] [(.ref b1), (.ref b1)])) rfl (by rw [hml]; rfl) (Steps.refl _) (a := b1) (argsL := []) (rest := [(.ref b1)]) (lenOf pd__28__29_V rfl) rfl (by show 2 * 0 + _ ≤ _; exact Nat.le_of_eq rfl) (hb hby at_4) (fun _ _ => ⟨rfl, e1, (by decide : 1 + 1 ≤ _), (by decide : 2 + 8 ≤ _)⟩)
  dsimp only [Pt.U, Pt.locs, Pt.cells, Pt.slots] at X3 l3 y3 z3 st3 hQ3
  subst l3 y3 z3
  obtain ⟨wb_3, rfl, N3q, K3c, c3_0, c3_1, c3_2, c3_3, c3_4⟩ := hQ3
  have N3 := Fr.app N0 N3q
  have ne3_b1_wb_3 : b1 ≠ wb_3 := Nat.ne_of_lt (Nat.lt_of_lt_of_le A1.lt c3_3)
  have szwb_3 : h0.size ≤ wb_3 := Nat.le_trans K1.1 c3_3
  have gewb_3 : n0 ≤ wb_3 := Nat.le_trans Z0 szwb_3
  have K3 : Keep h0 T3.heap [] := K1.trans K3c (allS (Or.inr sz1) all0)
  have pre3 : Lead p e below G (T3.setTop (mkF m 7 #[.val (.int p0), .val (.int p1), .val (.int p2), .val (.int p3), .unset, .unset, .unset, .unset, .unset, .unset, .unset, .unset] [(.ref b1)])) := fun t k => pre2 t (st3.trans k)
  have pre6 : Lead p e below G (T3.setTop (mkF m 20 #[.val (.int p0), .val (.int p1), .val (.int p2), .val (.int p3), .val (.ref b1), .unset, .unset, .unset, .unset, .unset, .unset, .unset] [(.int (if (p3 &&& (1 : Int32)) = (0 : Int32) then (0 : Int32) else (1 : Int32)))])) := fun t k => by
    refine pre3 t ?_
    show Steps p.tables e below (T3.setTop (mkF m 7 #[.val (.int p0), .val (.int p1), .val (.int p2), .val (.int p3), .unset, .unset, .unset, .unset, .unset, .unset, .unset, .unset] [(.ref b1)])) _
    refine XS.astore X3.here hx rfl (hb hby at_7) rfl rfl (l' := #[.val (.int p0), .val (.int p1), .val (.int p2), .val (.int p3), .val (.ref b1), .unset, .unset, .unset, .unset, .unset, .unset, .unset]) rfl ?_
    show Steps p.tables e below (T3.setTop (mkF m 9 #[.val (.int p0), .val (.int p1), .val (.int p2), .val (.int p3), .val (.ref b1), .unset, .unset, .unset, .unset, .unset, .unset, .unset] [])) _
    refine XS.iloadN X3.here hx rfl (hb hby at_9) rfl ?_
    show Steps p.tables e below (T3.setTop (mkF m 10 #[.val (.int p0), .val (.int p1), .val (.int p2), .val (.int p3), .val (.ref b1), .unset, .unset, .unset, .unset, .unset, .unset, .unset] [(.int p3)])) _
    refine XS.iconst X3.here hx rfl (hb hby at_10) ?_
    show Steps p.tables e below (T3.setTop (mkF m 11 #[.val (.int p0), .val (.int p1), .val (.int p2), .val (.int p3), .val (.ref b1), .unset, .unset, .unset, .unset, .unset, .unset, .unset] [(.int (1 : Int32)), (.int p3)])) _
    refine XS.iand X3.here hx rfl (hb hby at_11) rfl ?_
    show Steps p.tables e below (T3.setTop (mkF m 12 #[.val (.int p0), .val (.int p1), .val (.int p2), .val (.int p3), .val (.ref b1), .unset, .unset, .unset, .unset, .unset, .unset, .unset] [(.int (p3 &&& (1 : Int32)))])) _
    have j5 : ∀ t, Steps p.tables e below (T3.setTop (mkF m 20 #[.val (.int p0), .val (.int p1), .val (.int p2), .val (.int p3), .val (.ref b1), .unset, .unset, .unset, .unset, .unset, .unset, .unset] [(.int (if (p3 &&& (1 : Int32)) = (0 : Int32) then (0 : Int32) else (1 : Int32)))])) t → Steps p.tables e below (T3.setTop (mkF m 12 #[.val (.int p0), .val (.int p1), .val (.int p2), .val (.int p3), .val (.ref b1), .unset, .unset, .unset, .unset, .unset, .unset, .unset] [(.int (p3 &&& (1 : Int32)))])) t := fun t k => by
      by_cases hc12_4 : (p3 &&& (1 : Int32)) = (0 : Int32)
      · simp only [if_pos hc12_4] at k
        refine XS.ifYes X3.here hx rfl (pc0 := 12) (pc' := 19) rfl (hb hby at_12) rfl ((if0 _ _).trans (teq hc12_4).1) (by decide) (by decide) ?_
        show Steps p.tables e below (T3.setTop (mkF m 19 #[.val (.int p0), .val (.int p1), .val (.int p2), .val (.int p3), .val (.ref b1), .unset, .unset, .unset, .unset, .unset, .unset, .unset] [])) _
        refine XS.iconst X3.here hx rfl (hb hby at_19) ?_
        show Steps p.tables e below (T3.setTop (mkF m 20 #[.val (.int p0), .val (.int p1), .val (.int p2), .val (.int p3), .val (.ref b1), .unset, .unset, .unset, .unset, .unset, .unset, .unset] [(.int (0 : Int32))])) _
        exact k
      · simp only [if_neg hc12_4] at k
        refine XS.ifNo X3.here hx rfl (hb hby at_12) rfl ((if0 _ _).trans (feq hc12_4).1) ?_
        show Steps p.tables e below (T3.setTop (mkF m 15 #[.val (.int p0), .val (.int p1), .val (.int p2), .val (.int p3), .val (.ref b1), .unset, .unset, .unset, .unset, .unset, .unset, .unset] [])) _
        refine XS.iconst X3.here hx rfl (hb hby at_15) ?_
        show Steps p.tables e below (T3.setTop (mkF m 16 #[.val (.int p0), .val (.int p1), .val (.int p2), .val (.int p3), .val (.ref b1), .unset, .unset, .unset, .unset, .unset, .unset, .unset] [(.int (1 : Int32))])) _
        refine XS.goto X3.here hx rfl (pc0 := 16) (pc' := 20) rfl (hb hby at_16) (by decide) (by decide) ?_
        show Steps p.tables e below (T3.setTop (mkF m 20 #[.val (.int p0), .val (.int p1), .val (.int p2), .val (.int p3), .val (.ref b1), .unset, .unset, .unset, .unset, .unset, .unset, .unset] [(.int (1 : Int32))])) _
        exact k
    refine j5 _ ?_
    show Steps p.tables e below (T3.setTop (mkF m 20 #[.val (.int p0), .val (.int p1), .val (.int p2), .val (.int p3), .val (.ref b1), .unset, .unset, .unset, .unset, .unset, .unset, .unset] [(.int (if (p3 &&& (1 : Int32)) = (0 : Int32) then (0 : Int32) else (1 : Int32)))])) _
    exact k
  obtain ⟨v7, hv7⟩ : ∃ z : Int32, z = (if (p3 &&& (1 : Int32)) = (0 : Int32) then (0 : Int32) else (1 : Int32)) := ⟨_, rfl⟩
  have pre7 : Lead p e below G (T3.setTop (mkF m 20 #[.val (.int p0), .val (.int p1), .val (.int p2), .val (.int p3), .val (.ref b1), .unset, .unset, .unset, .unset, .unset, .unset, .unset] [(.int v7)])) := by rw [hv7]; exact pre6
  have pre10 : Lead p e below G (T3.setTop (mkF m 33 #[.val (.int p0), .val (.int p1), .val (.int p2), .val (.int p3), .val (.ref b1), .val (.int v7), .unset, .unset, .unset, .unset, .unset, .unset] [(.int (if (p3 &&& (2 : Int32)) = (0 : Int32) then (0 : Int32) else (1 : Int32)))])) := fun t k => by
    refine pre7 t ?_
    show Steps p.tables e below (T3.setTop (mkF m 20 #[.val (.int p0), .val (.int p1), .val (.int p2), .val (.int p3), .val (.ref b1), .unset, .unset, .unset, .unset, .unset, .unset, .unset] [(.int v7)])) _
    refine XS.istore X3.here hx rfl (hb hby at_20) rfl (l' := #[.val (.int p0), .val (.int p1), .val (.int p2), .val (.int p3), .val (.ref b1), .val (.int v7), .unset, .unset, .unset, .unset, .unset, .unset]) rfl ?_
    show Steps p.tables e below (T3.setTop (mkF m 22 #[.val (.int p0), .val (.int p1), .val (.int p2), .val (.int p3), .val (.ref b1), .val (.int v7), .unset, .unset, .unset, .unset, .unset, .unset] [])) _
    refine XS.iloadN X3.here hx rfl (hb hby at_22) rfl ?_
    show Steps p.tables e below (T3.setTop (mkF m 23 #[.val (.int p0), .val (.int p1), .val (.int p2), .val (.int p3), .val (.ref b1), .val (.int v7), .unset, .unset, .unset, .unset, .unset, .unset] [(.int p3)])) _
    refine XS.iconst X3.here hx rfl (hb hby at_23) ?_
    show Steps p.tables e below (T3.setTop (mkF m 24 #[.val (.int p0), .val (.int p1), .val (.int p2), .val (.int p3), .val (.ref b1), .val (.int v7), .unset, .unset, .unset, .unset, .unset, .unset] [(.int (2 : Int32)), (.int p3)])) _
    refine XS.iand X3.here hx rfl (hb hby at_24) rfl ?_
    show Steps p.tables e below (T3.setTop (mkF m 25 #[.val (.int p0), .val (.int p1), .val (.int p2), .val (.int p3), .val (.ref b1), .val (.int v7), .unset, .unset, .unset, .unset, .unset, .unset] [(.int (p3 &&& (2 : Int32)))])) _
    have j9 : ∀ t, Steps p.tables e below (T3.setTop (mkF m 33 #[.val (.int p0), .val (.int p1), .val (.int p2), .val (.int p3), .val (.ref b1), .val (.int v7), .unset, .unset, .unset, .unset, .unset, .unset] [(.int (if (p3 &&& (2 : Int32)) = (0 : Int32) then (0 : Int32) else (1 : Int32)))])) t → Steps p.tables e below (T3.setTop (mkF m 25 #[.val (.int p0), .val (.int p1), .val (.int p2), .val (.int p3), .val (.ref b1), .val (.int v7), .unset, .unset, .unset, .unset, .unset, .unset] [(.int (p3 &&& (2 : Int32)))])) t := fun t k => by
      by_cases hc25_8 : (p3 &&& (2 : Int32)) = (0 : Int32)
      · simp only [if_pos hc25_8] at k
        refine XS.ifYes X3.here hx rfl (pc0 := 25) (pc' := 32) rfl (hb hby at_25) rfl ((if0 _ _).trans (teq hc25_8).1) (by decide) (by decide) ?_
        show Steps p.tables e below (T3.setTop (mkF m 32 #[.val (.int p0), .val (.int p1), .val (.int p2), .val (.int p3), .val (.ref b1), .val (.int v7), .unset, .unset, .unset, .unset, .unset, .unset] [])) _
        refine XS.iconst X3.here hx rfl (hb hby at_32) ?_
        show Steps p.tables e below (T3.setTop (mkF m 33 #[.val (.int p0), .val (.int p1), .val (.int p2), .val (.int p3), .val (.ref b1), .val (.int v7), .unset, .unset, .unset, .unset, .unset, .unset] [(.int (0 : Int32))])) _
        exact k
      · simp only [if_neg hc25_8] at k
        refine XS.ifNo X3.here hx rfl (hb hby at_25) rfl ((if0 _ _).trans (feq hc25_8).1) ?_
        show Steps p.tables e below (T3.setTop (mkF m 28 #[.val (.int p0), .val (.int p1), .val (.int p2), .val (.int p3), .val (.ref b1), .val (.int v7), .unset, .unset, .unset, .unset, .unset, .unset] [])) _
        refine XS.iconst X3.here hx rfl (hb hby at_28) ?_
        show Steps p.tables e below (T3.setTop (mkF m 29 #[.val (.int p0), .val (.int p1), .val (.int p2), .val (.int p3), .val (.ref b1), .val (.int v7), .unset, .unset, .unset, .unset, .unset, .unset] [(.int (1 : Int32))])) _
        refine XS.goto X3.here hx rfl (pc0 := 29) (pc' := 33) rfl (hb hby at_29) (by decide) (by decide) ?_
        show Steps p.tables e below (T3.setTop (mkF m 33 #[.val (.int p0), .val (.int p1), .val (.int p2), .val (.int p3), .val (.ref b1), .val (.int v7), .unset, .unset, .unset, .unset, .unset, .unset] [(.int (1 : Int32))])) _
        exact k
    refine j9 _ ?_
    show Steps p.tables e below (T3.setTop (mkF m 33 #[.val (.int p0), .val (.int p1), .val (.int p2), .val (.int p3), .val (.ref b1), .val (.int v7), .unset, .unset, .unset, .unset, .unset, .unset] [(.int (if (p3 &&& (2 : Int32)) = (0 : Int32) then (0 : Int32) else (1 : Int32)))])) _
    exact k
  obtain ⟨v11, hv11⟩ : ∃ z : Int32, z = (if (p3 &&& (2 : Int32)) = (0 : Int32) then (0 : Int32) else (1 : Int32)) := ⟨_, rfl⟩
  have pre11 : Lead p e below G (T3.setTop (mkF m 33 #[.val (.int p0), .val (.int p1), .val (.int p2), .val (.int p3), .val (.ref b1), .val (.int v7), .unset, .unset, .unset, .unset, .unset, .unset] [(.int v11)])) := by rw [hv11]; exact pre10
  have pre12 : Lead p e below G (T3.setTop (mkF m 38 #[.val (.int p0), .val (.int p1), .val (.int p2), .val (.int p3), .val (.ref b1), .val (.int v7), .val (.int v11), .unset, .unset, .unset, .unset, .unset] [(.int p0), (.ref b1)])) := fun t k => by
    refine pre11 t ?_
    show Steps p.tables e below (T3.setTop (mkF m 33 #[.val (.int p0), .val (.int p1), .val (.int p2), .val (.int p3), .val (.ref b1), .val (.int v7), .unset, .unset, .unset, .unset, .unset, .unset] [(.int v11)])) _
    refine XS.istore X3.here hx rfl (hb hby at_33) rfl (l' := #[.val (.int p0), .val (.int p1), .val (.int p2), .val (.int p3), .val (.ref b1), .val (.int v7), .val (.int v11), .unset, .unset, .unset, .unset, .unset]) rfl ?_
    show Steps p.tables e below (T3.setTop (mkF m 35 #[.val (.int p0), .val (.int p1), .val (.int p2), .val (.int p3), .val (.ref b1), .val (.int v7), .val (.int v11), .unset, .unset, .unset, .unset, .unset] [])) _
    refine XS.aload X3.here hx rfl (hb hby at_35) rfl rfl ?_
    show Steps p.tables e below (T3.setTop (mkF m 37 #[.val (.int p0), .val (.int p1), .val (.int p2), .val (.int p3), .val (.ref b1), .val (.int v7), .val (.int v11), .unset, .unset, .unset, .unset, .unset] [(.ref b1)])) _
    refine XS.iloadN X3.here hx rfl (hb hby at_37) rfl ?_
    show Steps p.tables e below (T3.setTop (mkF m 38 #[.val (.int p0), .val (.int p1), .val (.int p2), .val (.int p3), .val (.ref b1), .val (.int v7), .val (.int v11), .unset, .unset, .unset, .unset, .unset] [(.int p0), (.ref b1)])) _
    exact k
  obtain ⟨cq13, kq13, q13a, q13b, q13c⟩ := isOf hZ rfl c3_0
  obtain ⟨_, _, ⟨T13, L13, k13, n13⟩, -, X13, ⟨Lc13, hQ13, l13, y13, z13⟩, st13⟩ := X3.virtualBack hx (y := (⟨"com/example/nonesuch/nonesuch/engine/IntList", "add", "(I)V"⟩ : MethodName)) (z := (⟨"com/example/nonesuch/nonesuch/engine/IntList", "add", "(I)V"⟩ : MethodName)) hown (mvT hZ (hw _ (List.mem_of_getElem? (i := 12) rfl))) (mvT hZ (hw _ (List.mem_of_getElem? (i := 13) rfl))) (notFace_of_selects (args := #[]) (mvT hZ (hw _ (List.mem_of_getElem? (i := 15) rfl)))) (mvT hZ (hw _ (List.mem_of_getElem? (i := 15) rfl))) (mvT hZ (hw _ (List.mem_of_getElem? (i := 14) rfl))) (by decide) (backOf (W := 0) (rm3 l Z a0 hw [] b1 p0 wb_3 (8 : Int32) (fun _ => (0 : Int32)) (0 : Int32) T3.heap n0 (Nat.le_trans Z0 K3.1) c3_0 c3_1 c3_2 c3_4 ge1 gewb_3 ne3_b1_wb_3 (show ¬ ((0 : Int32) = (8 : Int32)) from (by decide)) (show ¬ (0 : Int32) < 0 ∧ (0 : Int32) < (8 : Int32) from ⟨by decide, by decide⟩)) hZ (hw _ (List.mem_of_getElem? (i := 16) rfl)) (hw _ (List.mem_of_getElem? (i := 2) rfl)) (by decide) (by decide)) q13a q13c (g := (mkF m 38 #[.val (.int p0), .val (.int p1), .val (.int p2), .val (.int p3), .val (.ref b1), .val (.int v7), .val (.int v11), .unset, .unset, .unset, .unset, .unset] [(.int p0), (.ref b1)])) rfl (by rw [hml]; rfl) (Steps.refl _) (argsL := [(.int p0)]) (rest := []) (lenOf pd__28_I_29_V rfl) rfl (by show 2 * 0 + _ ≤ _; exact Nat.le_of_eq rfl) (hb hby at_38) (fun _ _ => ⟨rfl, rfl, (by decide : 2 + 0 ≤ _), (by decide : 10 + 0 ≤ _)⟩)
  dsimp only [Pt.U, Pt.locs, Pt.cells, Pt.slots] at X13 l13 y13 z13 st13 hQ13
  subst l13 y13 z13
  obtain ⟨rfl, N13q, K13c, c13_0, c13_1, c13_2, c13_3⟩ := hQ13
  have N13 := Fr.app N3 N13q
  have K13 : Keep h0 T13.heap [] := K3.trans K13c (allS (Or.inr sz1) (allS (Or.inr szwb_3) all0))
  have pre13 : Lead p e below G (T13.setTop (mkF m 41 #[.val (.int p0), .val (.int p1), .val (.int p2), .val (.int p3), .val (.ref b1), .val (.int v7), .val (.int v11), .unset, .unset, .unset, .unset, .unset] [])) := fun t k => pre12 t (st13.trans k)
  have pre15 : Lead p e below G (T13.setTop (mkF m 52 #[.val (.int p0), .val (.int p1), .val (.int p2), .val (.int p3), .val (.ref b1), .val (.int v7), .val (.int v11), .val (.int (1 : Int32)), .val (.int p0), .val (.int (0 : Int32)), .unset, .unset] [(.int v7)])) := fun t k => by
    refine pre13 t ?_
    show Steps p.tables e below (T13.setTop (mkF m 41 #[.val (.int p0), .val (.int p1), .val (.int p2), .val (.int p3), .val (.ref b1), .val (.int v7), .val (.int v11), .unset, .unset, .unset, .unset, .unset] [])) _
    refine XS.iconst X13.here hx rfl (hb hby at_41) ?_
    show Steps p.tables e below (T13.setTop (mkF m 42 #[.val (.int p0), .val (.int p1), .val (.int p2), .val (.int p3), .val (.ref b1), .val (.int v7), .val (.int v11), .unset, .unset, .unset, .unset, .unset] [(.int (1 : Int32))])) _
    refine XS.istore X13.here hx rfl (hb hby at_42) rfl (l' := #[.val (.int p0), .val (.int p1), .val (.int p2), .val (.int p3), .val (.ref b1), .val (.int v7), .val (.int v11), .val (.int (1 : Int32)), .unset, .unset, .unset, .unset]) rfl ?_
    show Steps p.tables e below (T13.setTop (mkF m 44 #[.val (.int p0), .val (.int p1), .val (.int p2), .val (.int p3), .val (.ref b1), .val (.int v7), .val (.int v11), .val (.int (1 : Int32)), .unset, .unset, .unset, .unset] [])) _
    refine XS.iloadN X13.here hx rfl (hb hby at_44) rfl ?_
    show Steps p.tables e below (T13.setTop (mkF m 45 #[.val (.int p0), .val (.int p1), .val (.int p2), .val (.int p3), .val (.ref b1), .val (.int v7), .val (.int v11), .val (.int (1 : Int32)), .unset, .unset, .unset, .unset] [(.int p0)])) _
    refine XS.istore X13.here hx rfl (hb hby at_45) rfl (l' := #[.val (.int p0), .val (.int p1), .val (.int p2), .val (.int p3), .val (.ref b1), .val (.int v7), .val (.int v11), .val (.int (1 : Int32)), .val (.int p0), .unset, .unset, .unset]) rfl ?_
    show Steps p.tables e below (T13.setTop (mkF m 47 #[.val (.int p0), .val (.int p1), .val (.int p2), .val (.int p3), .val (.ref b1), .val (.int v7), .val (.int v11), .val (.int (1 : Int32)), .val (.int p0), .unset, .unset, .unset] [])) _
    refine XS.iconst X13.here hx rfl (hb hby at_47) ?_
    show Steps p.tables e below (T13.setTop (mkF m 48 #[.val (.int p0), .val (.int p1), .val (.int p2), .val (.int p3), .val (.ref b1), .val (.int v7), .val (.int v11), .val (.int (1 : Int32)), .val (.int p0), .unset, .unset, .unset] [(.int (0 : Int32))])) _
    refine XS.istore X13.here hx rfl (hb hby at_48) rfl (l' := #[.val (.int p0), .val (.int p1), .val (.int p2), .val (.int p3), .val (.ref b1), .val (.int v7), .val (.int v11), .val (.int (1 : Int32)), .val (.int p0), .val (.int (0 : Int32)), .unset, .unset]) rfl ?_
    show Steps p.tables e below (T13.setTop (mkF m 50 #[.val (.int p0), .val (.int p1), .val (.int p2), .val (.int p3), .val (.ref b1), .val (.int v7), .val (.int v11), .val (.int (1 : Int32)), .val (.int p0), .val (.int (0 : Int32)), .unset, .unset] [])) _
    refine XS.iload X13.here hx rfl (hb hby at_50) rfl ?_
    show Steps p.tables e below (T13.setTop (mkF m 52 #[.val (.int p0), .val (.int p1), .val (.int p2), .val (.int p3), .val (.ref b1), .val (.int v7), .val (.int v11), .val (.int (1 : Int32)), .val (.int p0), .val (.int (0 : Int32)), .unset, .unset] [(.int v7)])) _
    exact k
  by_cases hs52_16 : v7 = (0 : Int32)
  · have pre18 : Lead p e below G (T13.setTop (mkF m 76 #[.val (.int p0), .val (.int p1), .val (.int p2), .val (.int p3), .val (.ref b1), .val (.int v7), .val (.int v11), .val (.int (1 : Int32)), .val (.int p0), .val (.int (0 : Int32)), .unset, .unset] [(.int v11)])) := fun t k => by
      refine pre15 t ?_
      show Steps p.tables e below (T13.setTop (mkF m 52 #[.val (.int p0), .val (.int p1), .val (.int p2), .val (.int p3), .val (.ref b1), .val (.int v7), .val (.int v11), .val (.int (1 : Int32)), .val (.int p0), .val (.int (0 : Int32)), .unset, .unset] [(.int v7)])) _
      refine XS.ifYes X13.here hx rfl (pc0 := 52) (pc' := 74) rfl (hb hby at_52) rfl ((if0 _ _).trans (teq hs52_16).1) (by decide) (by decide) ?_
      show Steps p.tables e below (T13.setTop (mkF m 74 #[.val (.int p0), .val (.int p1), .val (.int p2), .val (.int p3), .val (.ref b1), .val (.int v7), .val (.int v11), .val (.int (1 : Int32)), .val (.int p0), .val (.int (0 : Int32)), .unset, .unset] [])) _
      refine XS.iload X13.here hx rfl (hb hby at_74) rfl ?_
      show Steps p.tables e below (T13.setTop (mkF m 76 #[.val (.int p0), .val (.int p1), .val (.int p2), .val (.int p3), .val (.ref b1), .val (.int v7), .val (.int v11), .val (.int (1 : Int32)), .val (.int p0), .val (.int (0 : Int32)), .unset, .unset] [(.int v11)])) _
      exact k
    by_cases hs76_19 : v11 = (0 : Int32)
    · have pre20 : Lead p e below G (T13.setTop (mkF m 100 #[.val (.int p0), .val (.int p1), .val (.int p2), .val (.int p3), .val (.ref b1), .val (.int v7), .val (.int v11), .val (.int (1 : Int32)), .val (.int p0), .val (.int (0 : Int32)), .unset, .unset] [(.ref b1)])) := fun t k => by
        refine pre18 t ?_
        show Steps p.tables e below (T13.setTop (mkF m 76 #[.val (.int p0), .val (.int p1), .val (.int p2), .val (.int p3), .val (.ref b1), .val (.int v7), .val (.int v11), .val (.int (1 : Int32)), .val (.int p0), .val (.int (0 : Int32)), .unset, .unset] [(.int v11)])) _
        refine XS.ifYes X13.here hx rfl (pc0 := 76) (pc' := 98) rfl (hb hby at_76) rfl ((if0 _ _).trans (teq hs76_19).1) (by decide) (by decide) ?_
        show Steps p.tables e below (T13.setTop (mkF m 98 #[.val (.int p0), .val (.int p1), .val (.int p2), .val (.int p3), .val (.ref b1), .val (.int v7), .val (.int v11), .val (.int (1 : Int32)), .val (.int p0), .val (.int (0 : Int32)), .unset, .unset] [])) _
        refine XS.aload X13.here hx rfl (hb hby at_98) rfl rfl ?_
        show Steps p.tables e below (T13.setTop (mkF m 100 #[.val (.int p0), .val (.int p1), .val (.int p2), .val (.int p3), .val (.ref b1), .val (.int v7), .val (.int v11), .val (.int (1 : Int32)), .val (.int p0), .val (.int (0 : Int32)), .unset, .unset] [(.ref b1)])) _
        exact k
      obtain ⟨cq21, kq21, q21a, q21b, q21c⟩ := isOf hZ rfl c13_0
      obtain ⟨_, _, ⟨T21, L21, k21, n21⟩, -, X21, ⟨Lc21, hQ21, l21, y21, z21⟩, st21⟩ := X13.virtualBack hx (y := (⟨"com/example/nonesuch/nonesuch/engine/IntList", "removeLast", "()I"⟩ : MethodName)) (z := (⟨"com/example/nonesuch/nonesuch/engine/IntList", "removeLast", "()I"⟩ : MethodName)) hown (mvT hZ (hw _ (List.mem_of_getElem? (i := 19) rfl))) (mvT hZ (hw _ (List.mem_of_getElem? (i := 20) rfl))) (notFace_of_selects (args := #[]) (mvT hZ (hw _ (List.mem_of_getElem? (i := 22) rfl)))) (mvT hZ (hw _ (List.mem_of_getElem? (i := 22) rfl))) (mvT hZ (hw _ (List.mem_of_getElem? (i := 21) rfl))) (by decide) (backOf (W := 0) (rm4 l Z a0 hw [] b1 wb_3 (8 : Int32) (updF (fun _ => (0 : Int32)) 0 p0) (1 : Int32) T13.heap n0 (Nat.le_trans Z0 K13.1) c13_0 c13_1 c13_2 c13_3 ge1 ne3_b1_wb_3 (show ¬ ((1 : Int32) - (1 : Int32)) < 0 ∧ ((1 : Int32) - (1 : Int32)) < (8 : Int32) from ⟨by decide, by decide⟩)) hZ (hw _ (List.mem_of_getElem? (i := 23) rfl)) (hw _ (List.mem_of_getElem? (i := 2) rfl)) (by decide) (by decide)) q21a q21c (g := (mkF m 100 #[.val (.int p0), .val (.int p1), .val (.int p2), .val (.int p3), .val (.ref b1), .val (.int v7), .val (.int v11), .val (.int (1 : Int32)), .val (.int p0), .val (.int (0 : Int32)), .unset, .unset] [(.ref b1)])) rfl (by rw [hml]; rfl) (Steps.refl _) (argsL := []) (rest := []) (lenOf pd__28__29_I rfl) rfl (by show 2 * 0 + _ ≤ _; exact Nat.le_of_eq rfl) (hb hby at_100) (fun _ _ => ⟨rfl, rfl, (by decide : 2 + 0 ≤ _), (by decide : 10 + 0 ≤ _)⟩)
      dsimp only [Pt.U, Pt.locs, Pt.cells, Pt.slots] at X21 l21 y21 z21 st21 hQ21
      subst l21 y21 z21
      obtain ⟨rfl, N21q, K21c, c21_0, c21_1, c21_2⟩ := hQ21
      have N21 := Fr.app N13 N21q
      have K21 : Keep h0 T21.heap [] := K13.trans K21c (allS (Or.inr sz1) all0)
      have pre21 : Lead p e below G (T21.setTop (mkF m 103 #[.val (.int p0), .val (.int p1), .val (.int p2), .val (.int p3), .val (.ref b1), .val (.int v7), .val (.int v11), .val (.int (1 : Int32)), .val (.int p0), .val (.int (0 : Int32)), .unset, .unset] [(.int p0)])) := fun t k => pre20 t (st21.trans k)
      have pre22 : Lead p e below G (T21.setTop (mkF m 116 #[.val (.int p0), .val (.int p1), .val (.int p2), .val (.int p3), .val (.ref b1), .val (.int v7), .val (.int v11), .val (.int (1 : Int32)), .val (.int p0), .val (.int (0 : Int32)), .val (.int p0), .unset] [(.ref b1)])) := fun t k => by
        refine pre21 t ?_
        show Steps p.tables e below (T21.setTop (mkF m 103 #[.val (.int p0), .val (.int p1), .val (.int p2), .val (.int p3), .val (.ref b1), .val (.int v7), .val (.int v11), .val (.int (1 : Int32)), .val (.int p0), .val (.int (0 : Int32)), .unset, .unset] [(.int p0)])) _
        refine XS.istore X21.here hx rfl (hb hby at_103) rfl (l' := #[.val (.int p0), .val (.int p1), .val (.int p2), .val (.int p3), .val (.ref b1), .val (.int v7), .val (.int v11), .val (.int (1 : Int32)), .val (.int p0), .val (.int (0 : Int32)), .val (.int p0), .unset]) rfl ?_
        show Steps p.tables e below (T21.setTop (mkF m 105 #[.val (.int p0), .val (.int p1), .val (.int p2), .val (.int p3), .val (.ref b1), .val (.int v7), .val (.int v11), .val (.int (1 : Int32)), .val (.int p0), .val (.int (0 : Int32)), .val (.int p0), .unset] [])) _
        refine XS.iload X21.here hx rfl (hb hby at_105) rfl ?_
        show Steps p.tables e below (T21.setTop (mkF m 107 #[.val (.int p0), .val (.int p1), .val (.int p2), .val (.int p3), .val (.ref b1), .val (.int v7), .val (.int v11), .val (.int (1 : Int32)), .val (.int p0), .val (.int (0 : Int32)), .val (.int p0), .unset] [(.int p0)])) _
        refine XS.iload X21.here hx rfl (hb hby at_107) rfl ?_
        show Steps p.tables e below (T21.setTop (mkF m 109 #[.val (.int p0), .val (.int p1), .val (.int p2), .val (.int p3), .val (.ref b1), .val (.int v7), .val (.int v11), .val (.int (1 : Int32)), .val (.int p0), .val (.int (0 : Int32)), .val (.int p0), .unset] [(.int p0), (.int p0)])) _
        refine XS.icmpYes X21.here hx rfl (pc0 := 109) (pc' := 114) rfl (hb hby at_109) rfl (teq rfl).1 (by decide) (by decide) ?_
        show Steps p.tables e below (T21.setTop (mkF m 114 #[.val (.int p0), .val (.int p1), .val (.int p2), .val (.int p3), .val (.ref b1), .val (.int v7), .val (.int v11), .val (.int (1 : Int32)), .val (.int p0), .val (.int (0 : Int32)), .val (.int p0), .unset] [])) _
        refine XS.aload X21.here hx rfl (hb hby at_114) rfl rfl ?_
        show Steps p.tables e below (T21.setTop (mkF m 116 #[.val (.int p0), .val (.int p1), .val (.int p2), .val (.int p3), .val (.ref b1), .val (.int v7), .val (.int v11), .val (.int (1 : Int32)), .val (.int p0), .val (.int (0 : Int32)), .val (.int p0), .unset] [(.ref b1)])) _
        exact k
      obtain ⟨cq23, kq23, q23a, q23b, q23c⟩ := isOf hZ rfl c21_0
      obtain ⟨_, _, ⟨T23, L23, k23, n23⟩, -, X23, ⟨Lc23, hQ23, l23, y23, z23⟩, st23⟩ := X21.virtualBack hx (y := (⟨"com/example/nonesuch/nonesuch/engine/IntList", "size", "()I"⟩ : MethodName)) (z := (⟨"com/example/nonesuch/nonesuch/engine/IntList", "size", "()I"⟩ : MethodName)) hown (mvT hZ (hw _ (List.mem_of_getElem? (i := 24) rfl))) (mvT hZ (hw _ (List.mem_of_getElem? (i := 25) rfl))) (notFace_of_selects (args := #[]) (mvT hZ (hw _ (List.mem_of_getElem? (i := 27) rfl)))) (mvT hZ (hw _ (List.mem_of_getElem? (i := 27) rfl))) (mvT hZ (hw _ (List.mem_of_getElem? (i := 26) rfl))) (by decide) (backOf (W := 0) (rm5 l Z a0 hw [] b1 (0 : Int32) T21.heap n0 (Nat.le_trans Z0 K21.1) c21_2) hZ (hw _ (List.mem_of_getElem? (i := 28) rfl)) (hw _ (List.mem_of_getElem? (i := 2) rfl)) (by decide) (by decide)) q23a q23c (g := (mkF m 116 #[.val (.int p0), .val (.int p1), .val (.int p2), .val (.int p3), .val (.ref b1), .val (.int v7), .val (.int v11), .val (.int (1 : Int32)), .val (.int p0), .val (.int (0 : Int32)), .val (.int p0), .unset] [(.ref b1)])) rfl (by rw [hml]; rfl) (Steps.refl _) (argsL := []) (rest := []) (lenOf pd__28__29_I rfl) rfl (by show 2 * 0 + _ ≤ _; exact Nat.le_of_eq rfl) (hb hby at_116) (fun _ _ => ⟨rfl, rfl, (by decide : 2 + 0 ≤ _), (by decide : 10 + 0 ≤ _)⟩)
      dsimp only [Pt.U, Pt.locs, Pt.cells, Pt.slots] at X23 l23 y23 z23 st23 hQ23
      subst l23 y23 z23
      obtain ⟨rfl, N23q, e23⟩ := hQ23
      have N23 := Fr.app N21 N23q
      have pre23 : Lead p e below G (T23.setTop (mkF m 119 #[.val (.int p0), .val (.int p1), .val (.int p2), .val (.int p3), .val (.ref b1), .val (.int v7), .val (.int v11), .val (.int (1 : Int32)), .val (.int p0), .val (.int (0 : Int32)), .val (.int p0), .unset] [(.int (0 : Int32))])) := fun t k => pre22 t (st23.trans k)
      have hf24 : (0 : Int32) = (0 : Int32) := (by decide)
      have hf25 : (1 : Int32) < (2 : Int32) := (by decide)
      obtain ⟨fs, hr, hrun, hended, hW, hsame⟩ := X23.leave (v := some (.int (nar .boolean (1 : Int32)))) (fun h => by rw [Bd.returns] at h; cases h)
      subst hG
      refine ⟨_, _, pre23 _ ?_, hrun, hended, _, _, rfl, ?_, ⟨_, rfl⟩, hW, hsame.mono (by decide) (by decide)⟩
      · show Steps p.tables e below (T23.setTop (mkF m 119 #[.val (.int p0), .val (.int p1), .val (.int p2), .val (.int p3), .val (.ref b1), .val (.int v7), .val (.int v11), .val (.int (1 : Int32)), .val (.int p0), .val (.int (0 : Int32)), .val (.int p0), .unset] [(.int (0 : Int32))])) _
        refine XS.iload X23.here hx rfl (hb hby at_119) rfl ?_
        show Steps p.tables e below (T23.setTop (mkF m 121 #[.val (.int p0), .val (.int p1), .val (.int p2), .val (.int p3), .val (.ref b1), .val (.int v7), .val (.int v11), .val (.int (1 : Int32)), .val (.int p0), .val (.int (0 : Int32)), .val (.int p0), .unset] [(.int (1 : Int32)), (.int (0 : Int32))])) _
        refine XS.iconst X23.here hx rfl (hb hby at_121) ?_
        show Steps p.tables e below (T23.setTop (mkF m 122 #[.val (.int p0), .val (.int p1), .val (.int p2), .val (.int p3), .val (.ref b1), .val (.int v7), .val (.int v11), .val (.int (1 : Int32)), .val (.int p0), .val (.int (0 : Int32)), .val (.int p0), .unset] [(.int (1 : Int32)), (.int (1 : Int32)), (.int (0 : Int32))])) _
        refine XS.isub X23.here hx rfl (hb hby at_122) rfl ?_
        show Steps p.tables e below (T23.setTop (mkF m 123 #[.val (.int p0), .val (.int p1), .val (.int p2), .val (.int p3), .val (.ref b1), .val (.int v7), .val (.int v11), .val (.int (1 : Int32)), .val (.int p0), .val (.int (0 : Int32)), .val (.int p0), .unset] [(.int (0 : Int32)), (.int (0 : Int32))])) _
        refine XS.icmpYes X23.here hx rfl (pc0 := 123) (pc' := 128) rfl (hb hby at_123) rfl (teq hf24).1 (by decide) (by decide) ?_
        show Steps p.tables e below (T23.setTop (mkF m 128 #[.val (.int p0), .val (.int p1), .val (.int p2), .val (.int p3), .val (.ref b1), .val (.int v7), .val (.int v11), .val (.int (1 : Int32)), .val (.int p0), .val (.int (0 : Int32)), .val (.int p0), .unset] [])) _
        refine XS.iload X23.here hx rfl (hb hby at_128) rfl ?_
        show Steps p.tables e below (T23.setTop (mkF m 130 #[.val (.int p0), .val (.int p1), .val (.int p2), .val (.int p3), .val (.ref b1), .val (.int v7), .val (.int v11), .val (.int (1 : Int32)), .val (.int p0), .val (.int (0 : Int32)), .val (.int p0), .unset] [(.int (1 : Int32))])) _
        refine XS.iconst X23.here hx rfl (hb hby at_130) ?_
        show Steps p.tables e below (T23.setTop (mkF m 131 #[.val (.int p0), .val (.int p1), .val (.int p2), .val (.int p3), .val (.ref b1), .val (.int v7), .val (.int v11), .val (.int (1 : Int32)), .val (.int p0), .val (.int (0 : Int32)), .val (.int p0), .unset] [(.int (2 : Int32)), (.int (1 : Int32))])) _
        refine XS.icmpYes X23.here hx rfl (pc0 := 131) (pc' := 194) rfl (hb hby at_131) rfl (tlt hf25).1 (by decide) (by decide) ?_
        show Steps p.tables e below (T23.setTop (mkF m 194 #[.val (.int p0), .val (.int p1), .val (.int p2), .val (.int p3), .val (.ref b1), .val (.int v7), .val (.int v11), .val (.int (1 : Int32)), .val (.int p0), .val (.int (0 : Int32)), .val (.int p0), .unset] [])) _
        refine XS.iconst X23.here hx rfl (hb hby at_194) ?_
        show Steps p.tables e below (T23.setTop (mkF m 195 #[.val (.int p0), .val (.int p1), .val (.int p2), .val (.int p3), .val (.ref b1), .val (.int v7), .val (.int v11), .val (.int (1 : Int32)), .val (.int p0), .val (.int (0 : Int32)), .val (.int p0), .unset] [(.int (1 : Int32))])) _
        exact retN X23 hx (t := .boolean) Bd.returns (by simp) (hb hby at_195) hr
      · show Q0 Z p0 p1 p2 p3 h0 n0 _ T23.heap _
        refine ⟨congrArg (fun z => some (Value.int z)) (?_ : (nar .boolean (1 : Int32)) = 1), N23⟩
        rfl
    · have pre26 : Lead p e below G (T13.setTop (mkF m 82 #[.val (.int p0), .val (.int p1), .val (.int p2), .val (.int p3), .val (.ref b1), .val (.int v7), .val (.int v11), .val (.int (1 : Int32)), .val (.int p0), .val (.int (0 : Int32)), .unset, .unset] [(.int p2), (.ref b1)])) := fun t k => by
        refine pre18 t ?_
        show Steps p.tables e below (T13.setTop (mkF m 76 #[.val (.int p0), .val (.int p1), .val (.int p2), .val (.int p3), .val (.ref b1), .val (.int v7), .val (.int v11), .val (.int (1 : Int32)), .val (.int p0), .val (.int (0 : Int32)), .unset, .unset] [(.int v11)])) _
        refine XS.ifNo X13.here hx rfl (hb hby at_76) rfl ((if0 _ _).trans (feq hs76_19).1) ?_
        show Steps p.tables e below (T13.setTop (mkF m 79 #[.val (.int p0), .val (.int p1), .val (.int p2), .val (.int p3), .val (.ref b1), .val (.int v7), .val (.int v11), .val (.int (1 : Int32)), .val (.int p0), .val (.int (0 : Int32)), .unset, .unset] [])) _
        refine XS.aload X13.here hx rfl (hb hby at_79) rfl rfl ?_
        show Steps p.tables e below (T13.setTop (mkF m 81 #[.val (.int p0), .val (.int p1), .val (.int p2), .val (.int p3), .val (.ref b1), .val (.int v7), .val (.int v11), .val (.int (1 : Int32)), .val (.int p0), .val (.int (0 : Int32)), .unset, .unset] [(.ref b1)])) _
        refine XS.iloadN X13.here hx rfl (hb hby at_81) rfl ?_
        show Steps p.tables e below (T13.setTop (mkF m 82 #[.val (.int p0), .val (.int p1), .val (.int p2), .val (.int p3), .val (.ref b1), .val (.int v7), .val (.int v11), .val (.int (1 : Int32)), .val (.int p0), .val (.int (0 : Int32)), .unset, .unset] [(.int p2), (.ref b1)])) _
        exact k
      obtain ⟨cq27, kq27, q27a, q27b, q27c⟩ := isOf hZ rfl c13_0
      obtain ⟨_, _, ⟨T27, L27, k27, n27⟩, -, X27, ⟨Lc27, hQ27, l27, y27, z27⟩, st27⟩ := X13.virtualBack hx (y := (⟨"com/example/nonesuch/nonesuch/engine/IntList", "add", "(I)V"⟩ : MethodName)) (z := (⟨"com/example/nonesuch/nonesuch/engine/IntList", "add", "(I)V"⟩ : MethodName)) hown (mvT hZ (hw _ (List.mem_of_getElem? (i := 12) rfl))) (mvT hZ (hw _ (List.mem_of_getElem? (i := 13) rfl))) (notFace_of_selects (args := #[]) (mvT hZ (hw _ (List.mem_of_getElem? (i := 15) rfl)))) (mvT hZ (hw _ (List.mem_of_getElem? (i := 15) rfl))) (mvT hZ (hw _ (List.mem_of_getElem? (i := 14) rfl))) (by decide) (backOf (W := 0) (rm3 l Z a0 hw [] b1 p2 wb_3 (8 : Int32) (updF (fun _ => (0 : Int32)) 0 p0) (1 : Int32) T13.heap n0 (Nat.le_trans Z0 K13.1) c13_0 c13_1 c13_2 c13_3 ge1 gewb_3 ne3_b1_wb_3 (show ¬ ((1 : Int32) = (8 : Int32)) from (by decide)) (show ¬ (1 : Int32) < 0 ∧ (1 : Int32) < (8 : Int32) from ⟨by decide, by decide⟩)) hZ (hw _ (List.mem_of_getElem? (i := 16) rfl)) (hw _ (List.mem_of_getElem? (i := 2) rfl)) (by decide) (by decide)) q27a q27c (g := (mkF m 82 #[.val (.int p0), .val (.int p1), .val (.int p2), .val (.int p3), .val (.ref b1), .val (.int v7), .val (.int v11), .val (.int (1 : Int32)), .val (.int p0), .val (.int (0 : Int32)), .unset, .unset] [(.int p2), (.ref b1)])) rfl (by rw [hml]; rfl) (Steps.refl _) (argsL := [(.int p2)]) (rest := []) (lenOf pd__28_I_29_V rfl) rfl (by show 2 * 0 + _ ≤ _; exact Nat.le_of_eq rfl) (hb hby at_82) (fun _ _ => ⟨rfl, rfl, (by decide : 2 + 0 ≤ _), (by decide : 10 + 0 ≤ _)⟩)
      dsimp only [Pt.U, Pt.locs, Pt.cells, Pt.slots] at X27 l27 y27 z27 st27 hQ27
      subst l27 y27 z27
      obtain ⟨rfl, N27q, K27c, c27_0, c27_1, c27_2, c27_3⟩ := hQ27
      have N27 := Fr.app N13 N27q
      have K27 : Keep h0 T27.heap [] := K13.trans K27c (allS (Or.inr sz1) (allS (Or.inr szwb_3) all0))
      have pre27 : Lead p e below G (T27.setTop (mkF m 85 #[.val (.int p0), .val (.int p1), .val (.int p2), .val (.int p3), .val (.ref b1), .val (.int v7), .val (.int v11), .val (.int (1 : Int32)), .val (.int p0), .val (.int (0 : Int32)), .unset, .unset] [])) := fun t k => pre26 t (st27.trans k)
      have pre28 : Lead p e below G (T27.setTop (mkF m 100 #[.val (.int p0), .val (.int p1), .val (.int p2), .val (.int p3), .val (.ref b1), .val (.int v7), .val (.int v11), .val (.int (2 : Int32)), .val (.int p2), .val (.int p0), .unset, .unset] [(.ref b1)])) := fun t k => by
        refine pre27 t ?_
        show Steps p.tables e below (T27.setTop (mkF m 85 #[.val (.int p0), .val (.int p1), .val (.int p2), .val (.int p3), .val (.ref b1), .val (.int v7), .val (.int v11), .val (.int (1 : Int32)), .val (.int p0), .val (.int (0 : Int32)), .unset, .unset] [])) _
        refine XS.iload X27.here hx rfl (hb hby at_85) rfl ?_
        show Steps p.tables e below (T27.setTop (mkF m 87 #[.val (.int p0), .val (.int p1), .val (.int p2), .val (.int p3), .val (.ref b1), .val (.int v7), .val (.int v11), .val (.int (1 : Int32)), .val (.int p0), .val (.int (0 : Int32)), .unset, .unset] [(.int p0)])) _
        refine XS.istore X27.here hx rfl (hb hby at_87) rfl (l' := #[.val (.int p0), .val (.int p1), .val (.int p2), .val (.int p3), .val (.ref b1), .val (.int v7), .val (.int v11), .val (.int (1 : Int32)), .val (.int p0), .val (.int p0), .unset, .unset]) rfl ?_
        show Steps p.tables e below (T27.setTop (mkF m 89 #[.val (.int p0), .val (.int p1), .val (.int p2), .val (.int p3), .val (.ref b1), .val (.int v7), .val (.int v11), .val (.int (1 : Int32)), .val (.int p0), .val (.int p0), .unset, .unset] [])) _
        refine XS.iloadN X27.here hx rfl (hb hby at_89) rfl ?_
        show Steps p.tables e below (T27.setTop (mkF m 90 #[.val (.int p0), .val (.int p1), .val (.int p2), .val (.int p3), .val (.ref b1), .val (.int v7), .val (.int v11), .val (.int (1 : Int32)), .val (.int p0), .val (.int p0), .unset, .unset] [(.int p2)])) _
        refine XS.istore X27.here hx rfl (hb hby at_90) rfl (l' := #[.val (.int p0), .val (.int p1), .val (.int p2), .val (.int p3), .val (.ref b1), .val (.int v7), .val (.int v11), .val (.int (1 : Int32)), .val (.int p2), .val (.int p0), .unset, .unset]) rfl ?_
        show Steps p.tables e below (T27.setTop (mkF m 92 #[.val (.int p0), .val (.int p1), .val (.int p2), .val (.int p3), .val (.ref b1), .val (.int v7), .val (.int v11), .val (.int (1 : Int32)), .val (.int p2), .val (.int p0), .unset, .unset] [])) _
        refine XS.iload X27.here hx rfl (hb hby at_92) rfl ?_
        show Steps p.tables e below (T27.setTop (mkF m 94 #[.val (.int p0), .val (.int p1), .val (.int p2), .val (.int p3), .val (.ref b1), .val (.int v7), .val (.int v11), .val (.int (1 : Int32)), .val (.int p2), .val (.int p0), .unset, .unset] [(.int (1 : Int32))])) _
        refine XS.iconst X27.here hx rfl (hb hby at_94) ?_
        show Steps p.tables e below (T27.setTop (mkF m 95 #[.val (.int p0), .val (.int p1), .val (.int p2), .val (.int p3), .val (.ref b1), .val (.int v7), .val (.int v11), .val (.int (1 : Int32)), .val (.int p2), .val (.int p0), .unset, .unset] [(.int (1 : Int32)), (.int (1 : Int32))])) _
        refine XS.iadd X27.here hx rfl (hb hby at_95) rfl ?_
        show Steps p.tables e below (T27.setTop (mkF m 96 #[.val (.int p0), .val (.int p1), .val (.int p2), .val (.int p3), .val (.ref b1), .val (.int v7), .val (.int v11), .val (.int (1 : Int32)), .val (.int p2), .val (.int p0), .unset, .unset] [(.int (2 : Int32))])) _
        refine XS.istore X27.here hx rfl (hb hby at_96) rfl (l' := #[.val (.int p0), .val (.int p1), .val (.int p2), .val (.int p3), .val (.ref b1), .val (.int v7), .val (.int v11), .val (.int (2 : Int32)), .val (.int p2), .val (.int p0), .unset, .unset]) rfl ?_
        show Steps p.tables e below (T27.setTop (mkF m 98 #[.val (.int p0), .val (.int p1), .val (.int p2), .val (.int p3), .val (.ref b1), .val (.int v7), .val (.int v11), .val (.int (2 : Int32)), .val (.int p2), .val (.int p0), .unset, .unset] [])) _
        refine XS.aload X27.here hx rfl (hb hby at_98) rfl rfl ?_
        show Steps p.tables e below (T27.setTop (mkF m 100 #[.val (.int p0), .val (.int p1), .val (.int p2), .val (.int p3), .val (.ref b1), .val (.int v7), .val (.int v11), .val (.int (2 : Int32)), .val (.int p2), .val (.int p0), .unset, .unset] [(.ref b1)])) _
        exact k
      obtain ⟨cq29, kq29, q29a, q29b, q29c⟩ := isOf hZ rfl c27_0
      obtain ⟨_, _, ⟨T29, L29, k29, n29⟩, -, X29, ⟨Lc29, hQ29, l29, y29, z29⟩, st29⟩ := X27.virtualBack hx (y := (⟨"com/example/nonesuch/nonesuch/engine/IntList", "removeLast", "()I"⟩ : MethodName)) (z := (⟨"com/example/nonesuch/nonesuch/engine/IntList", "removeLast", "()I"⟩ : MethodName)) hown (mvT hZ (hw _ (List.mem_of_getElem? (i := 19) rfl))) (mvT hZ (hw _ (List.mem_of_getElem? (i := 20) rfl))) (notFace_of_selects (args := #[]) (mvT hZ (hw _ (List.mem_of_getElem? (i := 22) rfl)))) (mvT hZ (hw _ (List.mem_of_getElem? (i := 22) rfl))) (mvT hZ (hw _ (List.mem_of_getElem? (i := 21) rfl))) (by decide) (backOf (W := 0) (rm4 l Z a0 hw [] b1 wb_3 (8 : Int32) (updF (updF (fun _ => (0 : Int32)) 0 p0) 1 p2) (2 : Int32) T27.heap n0 (Nat.le_trans Z0 K27.1) c27_0 c27_1 c27_2 c27_3 ge1 ne3_b1_wb_3 (show ¬ ((2 : Int32) - (1 : Int32)) < 0 ∧ ((2 : Int32) - (1 : Int32)) < (8 : Int32) from ⟨by decide, by decide⟩)) hZ (hw _ (List.mem_of_getElem? (i := 23) rfl)) (hw _ (List.mem_of_getElem? (i := 2) rfl)) (by decide) (by decide)) q29a q29c (g := (mkF m 100 #[.val (.int p0), .val (.int p1), .val (.int p2), .val (.int p3), .val (.ref b1), .val (.int v7), .val (.int v11), .val (.int (2 : Int32)), .val (.int p2), .val (.int p0), .unset, .unset] [(.ref b1)])) rfl (by rw [hml]; rfl) (Steps.refl _) (argsL := []) (rest := []) (lenOf pd__28__29_I rfl) rfl (by show 2 * 0 + _ ≤ _; exact Nat.le_of_eq rfl) (hb hby at_100) (fun _ _ => ⟨rfl, rfl, (by decide : 2 + 0 ≤ _), (by decide : 10 + 0 ≤ _)⟩)
      dsimp only [Pt.U, Pt.locs, Pt.cells, Pt.slots] at X29 l29 y29 z29 st29 hQ29
      subst l29 y29 z29
      obtain ⟨rfl, N29q, K29c, c29_0, c29_1, c29_2⟩ := hQ29
      have N29 := Fr.app N27 N29q
      have K29 : Keep h0 T29.heap [] := K27.trans K29c (allS (Or.inr sz1) all0)
      have pre29 : Lead p e below G (T29.setTop (mkF m 103 #[.val (.int p0), .val (.int p1), .val (.int p2), .val (.int p3), .val (.ref b1), .val (.int v7), .val (.int v11), .val (.int (2 : Int32)), .val (.int p2), .val (.int p0), .unset, .unset] [(.int p2)])) := fun t k => pre28 t (st29.trans k)
      have pre30 : Lead p e below G (T29.setTop (mkF m 116 #[.val (.int p0), .val (.int p1), .val (.int p2), .val (.int p3), .val (.ref b1), .val (.int v7), .val (.int v11), .val (.int (2 : Int32)), .val (.int p2), .val (.int p0), .val (.int p2), .unset] [(.ref b1)])) := fun t k => by
        refine pre29 t ?_
        show Steps p.tables e below (T29.setTop (mkF m 103 #[.val (.int p0), .val (.int p1), .val (.int p2), .val (.int p3), .val (.ref b1), .val (.int v7), .val (.int v11), .val (.int (2 : Int32)), .val (.int p2), .val (.int p0), .unset, .unset] [(.int p2)])) _
        refine XS.istore X29.here hx rfl (hb hby at_103) rfl (l' := #[.val (.int p0), .val (.int p1), .val (.int p2), .val (.int p3), .val (.ref b1), .val (.int v7), .val (.int v11), .val (.int (2 : Int32)), .val (.int p2), .val (.int p0), .val (.int p2), .unset]) rfl ?_
        show Steps p.tables e below (T29.setTop (mkF m 105 #[.val (.int p0), .val (.int p1), .val (.int p2), .val (.int p3), .val (.ref b1), .val (.int v7), .val (.int v11), .val (.int (2 : Int32)), .val (.int p2), .val (.int p0), .val (.int p2), .unset] [])) _
        refine XS.iload X29.here hx rfl (hb hby at_105) rfl ?_
        show Steps p.tables e below (T29.setTop (mkF m 107 #[.val (.int p0), .val (.int p1), .val (.int p2), .val (.int p3), .val (.ref b1), .val (.int v7), .val (.int v11), .val (.int (2 : Int32)), .val (.int p2), .val (.int p0), .val (.int p2), .unset] [(.int p2)])) _
        refine XS.iload X29.here hx rfl (hb hby at_107) rfl ?_
        show Steps p.tables e below (T29.setTop (mkF m 109 #[.val (.int p0), .val (.int p1), .val (.int p2), .val (.int p3), .val (.ref b1), .val (.int v7), .val (.int v11), .val (.int (2 : Int32)), .val (.int p2), .val (.int p0), .val (.int p2), .unset] [(.int p2), (.int p2)])) _
        refine XS.icmpYes X29.here hx rfl (pc0 := 109) (pc' := 114) rfl (hb hby at_109) rfl (teq rfl).1 (by decide) (by decide) ?_
        show Steps p.tables e below (T29.setTop (mkF m 114 #[.val (.int p0), .val (.int p1), .val (.int p2), .val (.int p3), .val (.ref b1), .val (.int v7), .val (.int v11), .val (.int (2 : Int32)), .val (.int p2), .val (.int p0), .val (.int p2), .unset] [])) _
        refine XS.aload X29.here hx rfl (hb hby at_114) rfl rfl ?_
        show Steps p.tables e below (T29.setTop (mkF m 116 #[.val (.int p0), .val (.int p1), .val (.int p2), .val (.int p3), .val (.ref b1), .val (.int v7), .val (.int v11), .val (.int (2 : Int32)), .val (.int p2), .val (.int p0), .val (.int p2), .unset] [(.ref b1)])) _
        exact k
      obtain ⟨cq31, kq31, q31a, q31b, q31c⟩ := isOf hZ rfl c29_0
      obtain ⟨_, _, ⟨T31, L31, k31, n31⟩, -, X31, ⟨Lc31, hQ31, l31, y31, z31⟩, st31⟩ := X29.virtualBack hx (y := (⟨"com/example/nonesuch/nonesuch/engine/IntList", "size", "()I"⟩ : MethodName)) (z := (⟨"com/example/nonesuch/nonesuch/engine/IntList", "size", "()I"⟩ : MethodName)) hown (mvT hZ (hw _ (List.mem_of_getElem? (i := 24) rfl))) (mvT hZ (hw _ (List.mem_of_getElem? (i := 25) rfl))) (notFace_of_selects (args := #[]) (mvT hZ (hw _ (List.mem_of_getElem? (i := 27) rfl)))) (mvT hZ (hw _ (List.mem_of_getElem? (i := 27) rfl))) (mvT hZ (hw _ (List.mem_of_getElem? (i := 26) rfl))) (by decide) (backOf (W := 0) (rm5 l Z a0 hw [] b1 (1 : Int32) T29.heap n0 (Nat.le_trans Z0 K29.1) c29_2) hZ (hw _ (List.mem_of_getElem? (i := 28) rfl)) (hw _ (List.mem_of_getElem? (i := 2) rfl)) (by decide) (by decide)) q31a q31c (g := (mkF m 116 #[.val (.int p0), .val (.int p1), .val (.int p2), .val (.int p3), .val (.ref b1), .val (.int v7), .val (.int v11), .val (.int (2 : Int32)), .val (.int p2), .val (.int p0), .val (.int p2), .unset] [(.ref b1)])) rfl (by rw [hml]; rfl) (Steps.refl _) (argsL := []) (rest := []) (lenOf pd__28__29_I rfl) rfl (by show 2 * 0 + _ ≤ _; exact Nat.le_of_eq rfl) (hb hby at_116) (fun _ _ => ⟨rfl, rfl, (by decide : 2 + 0 ≤ _), (by decide : 10 + 0 ≤ _)⟩)
      dsimp only [Pt.U, Pt.locs, Pt.cells, Pt.slots] at X31 l31 y31 z31 st31 hQ31
      subst l31 y31 z31
      obtain ⟨rfl, N31q, e31⟩ := hQ31
      have N31 := Fr.app N29 N31q
      have pre31 : Lead p e below G (T31.setTop (mkF m 119 #[.val (.int p0), .val (.int p1), .val (.int p2), .val (.int p3), .val (.ref b1), .val (.int v7), .val (.int v11), .val (.int (2 : Int32)), .val (.int p2), .val (.int p0), .val (.int p2), .unset] [(.int (1 : Int32))])) := fun t k => pre30 t (st31.trans k)
      have hf32 : (1 : Int32) = (1 : Int32) := (by decide)
      have hf33 : ¬ ((2 : Int32) < (2 : Int32)) := (by decide)
      have pre34 : Lead p e below G (T31.setTop (mkF m 136 #[.val (.int p0), .val (.int p1), .val (.int p2), .val (.int p3), .val (.ref b1), .val (.int v7), .val (.int v11), .val (.int (2 : Int32)), .val (.int p2), .val (.int p0), .val (.int p2), .unset] [(.ref b1)])) := fun t k => by
        refine pre31 t ?_
        show Steps p.tables e below (T31.setTop (mkF m 119 #[.val (.int p0), .val (.int p1), .val (.int p2), .val (.int p3), .val (.ref b1), .val (.int v7), .val (.int v11), .val (.int (2 : Int32)), .val (.int p2), .val (.int p0), .val (.int p2), .unset] [(.int (1 : Int32))])) _
        refine XS.iload X31.here hx rfl (hb hby at_119) rfl ?_
        show Steps p.tables e below (T31.setTop (mkF m 121 #[.val (.int p0), .val (.int p1), .val (.int p2), .val (.int p3), .val (.ref b1), .val (.int v7), .val (.int v11), .val (.int (2 : Int32)), .val (.int p2), .val (.int p0), .val (.int p2), .unset] [(.int (2 : Int32)), (.int (1 : Int32))])) _
        refine XS.iconst X31.here hx rfl (hb hby at_121) ?_
        show Steps p.tables e below (T31.setTop (mkF m 122 #[.val (.int p0), .val (.int p1), .val (.int p2), .val (.int p3), .val (.ref b1), .val (.int v7), .val (.int v11), .val (.int (2 : Int32)), .val (.int p2), .val (.int p0), .val (.int p2), .unset] [(.int (1 : Int32)), (.int (2 : Int32)), (.int (1 : Int32))])) _
        refine XS.isub X31.here hx rfl (hb hby at_122) rfl ?_
        show Steps p.tables e below (T31.setTop (mkF m 123 #[.val (.int p0), .val (.int p1), .val (.int p2), .val (.int p3), .val (.ref b1), .val (.int v7), .val (.int v11), .val (.int (2 : Int32)), .val (.int p2), .val (.int p0), .val (.int p2), .unset] [(.int (1 : Int32)), (.int (1 : Int32))])) _
        refine XS.icmpYes X31.here hx rfl (pc0 := 123) (pc' := 128) rfl (hb hby at_123) rfl (teq hf32).1 (by decide) (by decide) ?_
        show Steps p.tables e below (T31.setTop (mkF m 128 #[.val (.int p0), .val (.int p1), .val (.int p2), .val (.int p3), .val (.ref b1), .val (.int v7), .val (.int v11), .val (.int (2 : Int32)), .val (.int p2), .val (.int p0), .val (.int p2), .unset] [])) _
        refine XS.iload X31.here hx rfl (hb hby at_128) rfl ?_
        show Steps p.tables e below (T31.setTop (mkF m 130 #[.val (.int p0), .val (.int p1), .val (.int p2), .val (.int p3), .val (.ref b1), .val (.int v7), .val (.int v11), .val (.int (2 : Int32)), .val (.int p2), .val (.int p0), .val (.int p2), .unset] [(.int (2 : Int32))])) _
        refine XS.iconst X31.here hx rfl (hb hby at_130) ?_
        show Steps p.tables e below (T31.setTop (mkF m 131 #[.val (.int p0), .val (.int p1), .val (.int p2), .val (.int p3), .val (.ref b1), .val (.int v7), .val (.int v11), .val (.int (2 : Int32)), .val (.int p2), .val (.int p0), .val (.int p2), .unset] [(.int (2 : Int32)), (.int (2 : Int32))])) _
        refine XS.icmpNo X31.here hx rfl (hb hby at_131) rfl (flt hf33).1 ?_
        show Steps p.tables e below (T31.setTop (mkF m 134 #[.val (.int p0), .val (.int p1), .val (.int p2), .val (.int p3), .val (.ref b1), .val (.int v7), .val (.int v11), .val (.int (2 : Int32)), .val (.int p2), .val (.int p0), .val (.int p2), .unset] [])) _
        refine XS.aload X31.here hx rfl (hb hby at_134) rfl rfl ?_
        show Steps p.tables e below (T31.setTop (mkF m 136 #[.val (.int p0), .val (.int p1), .val (.int p2), .val (.int p3), .val (.ref b1), .val (.int v7), .val (.int v11), .val (.int (2 : Int32)), .val (.int p2), .val (.int p0), .val (.int p2), .unset] [(.ref b1)])) _
        exact k
      have f36 : JV Value.int Z T29.heap wb_3 .int (8 : Int32) (updF (updF (fun _ => (0 : Int32)) 0 p0) 1 p2) := (c27_3.keep K29c (ninS (Ne.symm ne3_b1_wb_3) nin0))
      obtain ⟨cq35, kq35, q35a, q35b, q35c⟩ := isOf hZ e31 c29_0
      obtain ⟨_, _, ⟨T35, L35, k35, n35⟩, -, X35, ⟨Lc35, hQ35, l35, y35, z35⟩, st35⟩ := X31.virtualBack hx (y := (⟨"com/example/nonesuch/nonesuch/engine/IntList", "last", "()I"⟩ : MethodName)) (z := (⟨"com/example/nonesuch/nonesuch/engine/IntList", "last", "()I"⟩ : MethodName)) hown (mvT hZ (hw _ (List.mem_of_getElem? (i := 29) rfl))) (mvT hZ (hw _ (List.mem_of_getElem? (i := 30) rfl))) (notFace_of_selects (args := #[]) (mvT hZ (hw _ (List.mem_of_getElem? (i := 32) rfl)))) (mvT hZ (hw _ (List.mem_of_getElem? (i := 32) rfl))) (mvT hZ (hw _ (List.mem_of_getElem? (i := 31) rfl))) (by decide) (backOf (W := 0) (rm6 l Z a0 hw [] b1 wb_3 (8 : Int32) (updF (updF (fun _ => (0 : Int32)) 0 p0) 1 p2) (1 : Int32) T29.heap n0 (Nat.le_trans Z0 K29.1) c29_0 c29_1 c29_2 f36 (show ¬ ((1 : Int32) - (1 : Int32)) < 0 ∧ ((1 : Int32) - (1 : Int32)) < (8 : Int32) from ⟨by decide, by decide⟩)) hZ (hw _ (List.mem_of_getElem? (i := 33) rfl)) (hw _ (List.mem_of_getElem? (i := 2) rfl)) (by decide) (by decide)) q35a q35c (g := (mkF m 136 #[.val (.int p0), .val (.int p1), .val (.int p2), .val (.int p3), .val (.ref b1), .val (.int v7), .val (.int v11), .val (.int (2 : Int32)), .val (.int p2), .val (.int p0), .val (.int p2), .unset] [(.ref b1)])) rfl (by rw [hml]; rfl) (Steps.refl _) (argsL := []) (rest := []) (lenOf pd__28__29_I rfl) rfl (by show 2 * 0 + _ ≤ _; exact Nat.le_of_eq rfl) (hb hby at_136) (fun _ _ => ⟨rfl, e31, (by decide : 2 + 0 ≤ _), (by decide : 10 + 0 ≤ _)⟩)
      dsimp only [Pt.U, Pt.locs, Pt.cells, Pt.slots] at X35 l35 y35 z35 st35 hQ35
      subst l35 y35 z35
      obtain ⟨rfl, N35q, e35⟩ := hQ35
      have N35 := Fr.app N31 N35q
      have pre35 : Lead p e below G (T35.setTop (mkF m 139 #[.val (.int p0), .val (.int p1), .val (.int p2), .val (.int p3), .val (.ref b1), .val (.int v7), .val (.int v11), .val (.int (2 : Int32)), .val (.int p2), .val (.int p0), .val (.int p2), .unset] [(.int p0)])) := fun t k => pre34 t (st35.trans k)
      have pre37 : Lead p e below G (T35.setTop (mkF m 148 #[.val (.int p0), .val (.int p1), .val (.int p2), .val (.int p3), .val (.ref b1), .val (.int v7), .val (.int v11), .val (.int (2 : Int32)), .val (.int p2), .val (.int p0), .val (.int p2), .unset] [(.ref b1)])) := fun t k => by
        refine pre35 t ?_
        show Steps p.tables e below (T35.setTop (mkF m 139 #[.val (.int p0), .val (.int p1), .val (.int p2), .val (.int p3), .val (.ref b1), .val (.int v7), .val (.int v11), .val (.int (2 : Int32)), .val (.int p2), .val (.int p0), .val (.int p2), .unset] [(.int p0)])) _
        refine XS.iload X35.here hx rfl (hb hby at_139) rfl ?_
        show Steps p.tables e below (T35.setTop (mkF m 141 #[.val (.int p0), .val (.int p1), .val (.int p2), .val (.int p3), .val (.ref b1), .val (.int v7), .val (.int v11), .val (.int (2 : Int32)), .val (.int p2), .val (.int p0), .val (.int p2), .unset] [(.int p0), (.int p0)])) _
        refine XS.icmpYes X35.here hx rfl (pc0 := 141) (pc' := 146) rfl (hb hby at_141) rfl (teq rfl).1 (by decide) (by decide) ?_
        show Steps p.tables e below (T35.setTop (mkF m 146 #[.val (.int p0), .val (.int p1), .val (.int p2), .val (.int p3), .val (.ref b1), .val (.int v7), .val (.int v11), .val (.int (2 : Int32)), .val (.int p2), .val (.int p0), .val (.int p2), .unset] [])) _
        refine XS.aload X35.here hx rfl (hb hby at_146) rfl rfl ?_
        show Steps p.tables e below (T35.setTop (mkF m 148 #[.val (.int p0), .val (.int p1), .val (.int p2), .val (.int p3), .val (.ref b1), .val (.int v7), .val (.int v11), .val (.int (2 : Int32)), .val (.int p2), .val (.int p0), .val (.int p2), .unset] [(.ref b1)])) _
        exact k
      obtain ⟨cq38, kq38, q38a, q38b, q38c⟩ := isOf hZ e35 c29_0
      obtain ⟨_, _, ⟨T38, L38, k38, n38⟩, -, X38, ⟨Lc38, hQ38, l38, y38, z38⟩, st38⟩ := X35.virtualBack hx (y := (⟨"com/example/nonesuch/nonesuch/engine/IntList", "removeLast", "()I"⟩ : MethodName)) (z := (⟨"com/example/nonesuch/nonesuch/engine/IntList", "removeLast", "()I"⟩ : MethodName)) hown (mvT hZ (hw _ (List.mem_of_getElem? (i := 19) rfl))) (mvT hZ (hw _ (List.mem_of_getElem? (i := 20) rfl))) (notFace_of_selects (args := #[]) (mvT hZ (hw _ (List.mem_of_getElem? (i := 22) rfl)))) (mvT hZ (hw _ (List.mem_of_getElem? (i := 22) rfl))) (mvT hZ (hw _ (List.mem_of_getElem? (i := 21) rfl))) (by decide) (backOf (W := 0) (rm4 l Z a0 hw [] b1 wb_3 (8 : Int32) (updF (updF (fun _ => (0 : Int32)) 0 p0) 1 p2) (1 : Int32) T29.heap n0 (Nat.le_trans Z0 K29.1) c29_0 c29_1 c29_2 f36 ge1 ne3_b1_wb_3 (show ¬ ((1 : Int32) - (1 : Int32)) < 0 ∧ ((1 : Int32) - (1 : Int32)) < (8 : Int32) from ⟨by decide, by decide⟩)) hZ (hw _ (List.mem_of_getElem? (i := 23) rfl)) (hw _ (List.mem_of_getElem? (i := 2) rfl)) (by decide) (by decide)) q38a q38c (g := (mkF m 148 #[.val (.int p0), .val (.int p1), .val (.int p2), .val (.int p3), .val (.ref b1), .val (.int v7), .val (.int v11), .val (.int (2 : Int32)), .val (.int p2), .val (.int p0), .val (.int p2), .unset] [(.ref b1)])) rfl (by rw [hml]; rfl) (Steps.refl _) (argsL := []) (rest := []) (lenOf pd__28__29_I rfl) rfl (by show 2 * 0 + _ ≤ _; exact Nat.le_of_eq rfl) (hb hby at_148) (fun _ _ => ⟨rfl, e35, (by decide : 2 + 0 ≤ _), (by decide : 10 + 0 ≤ _)⟩)
      dsimp only [Pt.U, Pt.locs, Pt.cells, Pt.slots] at X38 l38 y38 z38 st38 hQ38
      subst l38 y38 z38
      obtain ⟨rfl, N38q, K38c, c38_0, c38_1, c38_2⟩ := hQ38
      have N38 := Fr.app N35 N38q
      have K38 : Keep h0 T38.heap [] := K29.trans K38c (allS (Or.inr sz1) all0)
      have pre38 : Lead p e below G (T38.setTop (mkF m 151 #[.val (.int p0), .val (.int p1), .val (.int p2), .val (.int p3), .val (.ref b1), .val (.int v7), .val (.int v11), .val (.int (2 : Int32)), .val (.int p2), .val (.int p0), .val (.int p2), .unset] [(.int p0)])) := fun t k => pre37 t (st38.trans k)
      have pre39 : Lead p e below G (T38.setTop (mkF m 164 #[.val (.int p0), .val (.int p1), .val (.int p2), .val (.int p3), .val (.ref b1), .val (.int v7), .val (.int v11), .val (.int (2 : Int32)), .val (.int p2), .val (.int p0), .val (.int p2), .val (.int p0)] [(.ref b1)])) := fun t k => by
        refine pre38 t ?_
        show Steps p.tables e below (T38.setTop (mkF m 151 #[.val (.int p0), .val (.int p1), .val (.int p2), .val (.int p3), .val (.ref b1), .val (.int v7), .val (.int v11), .val (.int (2 : Int32)), .val (.int p2), .val (.int p0), .val (.int p2), .unset] [(.int p0)])) _
        refine XS.istore X38.here hx rfl (hb hby at_151) rfl (l' := #[.val (.int p0), .val (.int p1), .val (.int p2), .val (.int p3), .val (.ref b1), .val (.int v7), .val (.int v11), .val (.int (2 : Int32)), .val (.int p2), .val (.int p0), .val (.int p2), .val (.int p0)]) rfl ?_
        show Steps p.tables e below (T38.setTop (mkF m 153 #[.val (.int p0), .val (.int p1), .val (.int p2), .val (.int p3), .val (.ref b1), .val (.int v7), .val (.int v11), .val (.int (2 : Int32)), .val (.int p2), .val (.int p0), .val (.int p2), .val (.int p0)] [])) _
        refine XS.iload X38.here hx rfl (hb hby at_153) rfl ?_
        show Steps p.tables e below (T38.setTop (mkF m 155 #[.val (.int p0), .val (.int p1), .val (.int p2), .val (.int p3), .val (.ref b1), .val (.int v7), .val (.int v11), .val (.int (2 : Int32)), .val (.int p2), .val (.int p0), .val (.int p2), .val (.int p0)] [(.int p0)])) _
        refine XS.iload X38.here hx rfl (hb hby at_155) rfl ?_
        show Steps p.tables e below (T38.setTop (mkF m 157 #[.val (.int p0), .val (.int p1), .val (.int p2), .val (.int p3), .val (.ref b1), .val (.int v7), .val (.int v11), .val (.int (2 : Int32)), .val (.int p2), .val (.int p0), .val (.int p2), .val (.int p0)] [(.int p0), (.int p0)])) _
        refine XS.icmpYes X38.here hx rfl (pc0 := 157) (pc' := 162) rfl (hb hby at_157) rfl (teq rfl).1 (by decide) (by decide) ?_
        show Steps p.tables e below (T38.setTop (mkF m 162 #[.val (.int p0), .val (.int p1), .val (.int p2), .val (.int p3), .val (.ref b1), .val (.int v7), .val (.int v11), .val (.int (2 : Int32)), .val (.int p2), .val (.int p0), .val (.int p2), .val (.int p0)] [])) _
        refine XS.aload X38.here hx rfl (hb hby at_162) rfl rfl ?_
        show Steps p.tables e below (T38.setTop (mkF m 164 #[.val (.int p0), .val (.int p1), .val (.int p2), .val (.int p3), .val (.ref b1), .val (.int v7), .val (.int v11), .val (.int (2 : Int32)), .val (.int p2), .val (.int p0), .val (.int p2), .val (.int p0)] [(.ref b1)])) _
        exact k
      obtain ⟨cq40, kq40, q40a, q40b, q40c⟩ := isOf hZ rfl c38_0
      obtain ⟨_, _, ⟨T40, L40, k40, n40⟩, -, X40, ⟨Lc40, hQ40, l40, y40, z40⟩, st40⟩ := X38.virtualBack hx (y := (⟨"com/example/nonesuch/nonesuch/engine/IntList", "size", "()I"⟩ : MethodName)) (z := (⟨"com/example/nonesuch/nonesuch/engine/IntList", "size", "()I"⟩ : MethodName)) hown (mvT hZ (hw _ (List.mem_of_getElem? (i := 24) rfl))) (mvT hZ (hw _ (List.mem_of_getElem? (i := 25) rfl))) (notFace_of_selects (args := #[]) (mvT hZ (hw _ (List.mem_of_getElem? (i := 27) rfl)))) (mvT hZ (hw _ (List.mem_of_getElem? (i := 27) rfl))) (mvT hZ (hw _ (List.mem_of_getElem? (i := 26) rfl))) (by decide) (backOf (W := 0) (rm5 l Z a0 hw [] b1 (0 : Int32) T38.heap n0 (Nat.le_trans Z0 K38.1) c38_2) hZ (hw _ (List.mem_of_getElem? (i := 28) rfl)) (hw _ (List.mem_of_getElem? (i := 2) rfl)) (by decide) (by decide)) q40a q40c (g := (mkF m 164 #[.val (.int p0), .val (.int p1), .val (.int p2), .val (.int p3), .val (.ref b1), .val (.int v7), .val (.int v11), .val (.int (2 : Int32)), .val (.int p2), .val (.int p0), .val (.int p2), .val (.int p0)] [(.ref b1)])) rfl (by rw [hml]; rfl) (Steps.refl _) (argsL := []) (rest := []) (lenOf pd__28__29_I rfl) rfl (by show 2 * 0 + _ ≤ _; exact Nat.le_of_eq rfl) (hb hby at_164) (fun _ _ => ⟨rfl, rfl, (by decide : 2 + 0 ≤ _), (by decide : 10 + 0 ≤ _)⟩)
      dsimp only [Pt.U, Pt.locs, Pt.cells, Pt.slots] at X40 l40 y40 z40 st40 hQ40
      subst l40 y40 z40
      obtain ⟨rfl, N40q, e40⟩ := hQ40
      have N40 := Fr.app N38 N40q
      have pre40 : Lead p e below G (T40.setTop (mkF m 167 #[.val (.int p0), .val (.int p1), .val (.int p2), .val (.int p3), .val (.ref b1), .val (.int v7), .val (.int v11), .val (.int (2 : Int32)), .val (.int p2), .val (.int p0), .val (.int p2), .val (.int p0)] [(.int (0 : Int32))])) := fun t k => pre39 t (st40.trans k)
      have hf41 : (0 : Int32) = (0 : Int32) := (by decide)
      have hf42 : ¬ ((2 : Int32) = (3 : Int32)) := (by decide)
      obtain ⟨fs, hr, hrun, hended, hW, hsame⟩ := X40.leave (v := some (.int (nar .boolean (1 : Int32)))) (fun h => by rw [Bd.returns] at h; cases h)
      subst hG
      refine ⟨_, _, pre40 _ ?_, hrun, hended, _, _, rfl, ?_, ⟨_, rfl⟩, hW, hsame.mono (by decide) (by decide)⟩
      · show Steps p.tables e below (T40.setTop (mkF m 167 #[.val (.int p0), .val (.int p1), .val (.int p2), .val (.int p3), .val (.ref b1), .val (.int v7), .val (.int v11), .val (.int (2 : Int32)), .val (.int p2), .val (.int p0), .val (.int p2), .val (.int p0)] [(.int (0 : Int32))])) _
        refine XS.iload X40.here hx rfl (hb hby at_167) rfl ?_
        show Steps p.tables e below (T40.setTop (mkF m 169 #[.val (.int p0), .val (.int p1), .val (.int p2), .val (.int p3), .val (.ref b1), .val (.int v7), .val (.int v11), .val (.int (2 : Int32)), .val (.int p2), .val (.int p0), .val (.int p2), .val (.int p0)] [(.int (2 : Int32)), (.int (0 : Int32))])) _
        refine XS.iconst X40.here hx rfl (hb hby at_169) ?_
        show Steps p.tables e below (T40.setTop (mkF m 170 #[.val (.int p0), .val (.int p1), .val (.int p2), .val (.int p3), .val (.ref b1), .val (.int v7), .val (.int v11), .val (.int (2 : Int32)), .val (.int p2), .val (.int p0), .val (.int p2), .val (.int p0)] [(.int (2 : Int32)), (.int (2 : Int32)), (.int (0 : Int32))])) _
        refine XS.isub X40.here hx rfl (hb hby at_170) rfl ?_
        show Steps p.tables e below (T40.setTop (mkF m 171 #[.val (.int p0), .val (.int p1), .val (.int p2), .val (.int p3), .val (.ref b1), .val (.int v7), .val (.int v11), .val (.int (2 : Int32)), .val (.int p2), .val (.int p0), .val (.int p2), .val (.int p0)] [(.int (0 : Int32)), (.int (0 : Int32))])) _
        refine XS.icmpYes X40.here hx rfl (pc0 := 171) (pc' := 176) rfl (hb hby at_171) rfl (teq hf41).1 (by decide) (by decide) ?_
        show Steps p.tables e below (T40.setTop (mkF m 176 #[.val (.int p0), .val (.int p1), .val (.int p2), .val (.int p3), .val (.ref b1), .val (.int v7), .val (.int v11), .val (.int (2 : Int32)), .val (.int p2), .val (.int p0), .val (.int p2), .val (.int p0)] [])) _
        refine XS.iload X40.here hx rfl (hb hby at_176) rfl ?_
        show Steps p.tables e below (T40.setTop (mkF m 178 #[.val (.int p0), .val (.int p1), .val (.int p2), .val (.int p3), .val (.ref b1), .val (.int v7), .val (.int v11), .val (.int (2 : Int32)), .val (.int p2), .val (.int p0), .val (.int p2), .val (.int p0)] [(.int (2 : Int32))])) _
        refine XS.iconst X40.here hx rfl (hb hby at_178) ?_
        show Steps p.tables e below (T40.setTop (mkF m 179 #[.val (.int p0), .val (.int p1), .val (.int p2), .val (.int p3), .val (.ref b1), .val (.int v7), .val (.int v11), .val (.int (2 : Int32)), .val (.int p2), .val (.int p0), .val (.int p2), .val (.int p0)] [(.int (3 : Int32)), (.int (2 : Int32))])) _
        refine XS.icmpYes X40.here hx rfl (pc0 := 179) (pc' := 194) rfl (hb hby at_179) rfl (feq hf42).2 (by decide) (by decide) ?_
        show Steps p.tables e below (T40.setTop (mkF m 194 #[.val (.int p0), .val (.int p1), .val (.int p2), .val (.int p3), .val (.ref b1), .val (.int v7), .val (.int v11), .val (.int (2 : Int32)), .val (.int p2), .val (.int p0), .val (.int p2), .val (.int p0)] [])) _
        refine XS.iconst X40.here hx rfl (hb hby at_194) ?_
        show Steps p.tables e below (T40.setTop (mkF m 195 #[.val (.int p0), .val (.int p1), .val (.int p2), .val (.int p3), .val (.ref b1), .val (.int v7), .val (.int v11), .val (.int (2 : Int32)), .val (.int p2), .val (.int p0), .val (.int p2), .val (.int p0)] [(.int (1 : Int32))])) _
        exact retN X40 hx (t := .boolean) Bd.returns (by simp) (hb hby at_195) hr
      · show Q0 Z p0 p1 p2 p3 h0 n0 _ T40.heap _
        refine ⟨congrArg (fun z => some (Value.int z)) (?_ : (nar .boolean (1 : Int32)) = 1), N40⟩
        rfl
  · have pre43 : Lead p e below G (T13.setTop (mkF m 58 #[.val (.int p0), .val (.int p1), .val (.int p2), .val (.int p3), .val (.ref b1), .val (.int v7), .val (.int v11), .val (.int (1 : Int32)), .val (.int p0), .val (.int (0 : Int32)), .unset, .unset] [(.int p1), (.ref b1)])) := fun t k => by
      refine pre15 t ?_
      show Steps p.tables e below (T13.setTop (mkF m 52 #[.val (.int p0), .val (.int p1), .val (.int p2), .val (.int p3), .val (.ref b1), .val (.int v7), .val (.int v11), .val (.int (1 : Int32)), .val (.int p0), .val (.int (0 : Int32)), .unset, .unset] [(.int v7)])) _
      refine XS.ifNo X13.here hx rfl (hb hby at_52) rfl ((if0 _ _).trans (feq hs52_16).1) ?_
      show Steps p.tables e below (T13.setTop (mkF m 55 #[.val (.int p0), .val (.int p1), .val (.int p2), .val (.int p3), .val (.ref b1), .val (.int v7), .val (.int v11), .val (.int (1 : Int32)), .val (.int p0), .val (.int (0 : Int32)), .unset, .unset] [])) _
      refine XS.aload X13.here hx rfl (hb hby at_55) rfl rfl ?_
      show Steps p.tables e below (T13.setTop (mkF m 57 #[.val (.int p0), .val (.int p1), .val (.int p2), .val (.int p3), .val (.ref b1), .val (.int v7), .val (.int v11), .val (.int (1 : Int32)), .val (.int p0), .val (.int (0 : Int32)), .unset, .unset] [(.ref b1)])) _
      refine XS.iloadN X13.here hx rfl (hb hby at_57) rfl ?_
      show Steps p.tables e below (T13.setTop (mkF m 58 #[.val (.int p0), .val (.int p1), .val (.int p2), .val (.int p3), .val (.ref b1), .val (.int v7), .val (.int v11), .val (.int (1 : Int32)), .val (.int p0), .val (.int (0 : Int32)), .unset, .unset] [(.int p1), (.ref b1)])) _
      exact k
    obtain ⟨cq44, kq44, q44a, q44b, q44c⟩ := isOf hZ rfl c13_0
    obtain ⟨_, _, ⟨T44, L44, k44, n44⟩, -, X44, ⟨Lc44, hQ44, l44, y44, z44⟩, st44⟩ := X13.virtualBack hx (y := (⟨"com/example/nonesuch/nonesuch/engine/IntList", "add", "(I)V"⟩ : MethodName)) (z := (⟨"com/example/nonesuch/nonesuch/engine/IntList", "add", "(I)V"⟩ : MethodName)) hown (mvT hZ (hw _ (List.mem_of_getElem? (i := 12) rfl))) (mvT hZ (hw _ (List.mem_of_getElem? (i := 13) rfl))) (notFace_of_selects (args := #[]) (mvT hZ (hw _ (List.mem_of_getElem? (i := 15) rfl)))) (mvT hZ (hw _ (List.mem_of_getElem? (i := 15) rfl))) (mvT hZ (hw _ (List.mem_of_getElem? (i := 14) rfl))) (by decide) (backOf (W := 0) (rm3 l Z a0 hw [] b1 p1 wb_3 (8 : Int32) (updF (fun _ => (0 : Int32)) 0 p0) (1 : Int32) T13.heap n0 (Nat.le_trans Z0 K13.1) c13_0 c13_1 c13_2 c13_3 ge1 gewb_3 ne3_b1_wb_3 (show ¬ ((1 : Int32) = (8 : Int32)) from (by decide)) (show ¬ (1 : Int32) < 0 ∧ (1 : Int32) < (8 : Int32) from ⟨by decide, by decide⟩)) hZ (hw _ (List.mem_of_getElem? (i := 16) rfl)) (hw _ (List.mem_of_getElem? (i := 2) rfl)) (by decide) (by decide)) q44a q44c (g := (mkF m 58 #[.val (.int p0), .val (.int p1), .val (.int p2), .val (.int p3), .val (.ref b1), .val (.int v7), .val (.int v11), .val (.int (1 : Int32)), .val (.int p0), .val (.int (0 : Int32)), .unset, .unset] [(.int p1), (.ref b1)])) rfl (by rw [hml]; rfl) (Steps.refl _) (argsL := [(.int p1)]) (rest := []) (lenOf pd__28_I_29_V rfl) rfl (by show 2 * 0 + _ ≤ _; exact Nat.le_of_eq rfl) (hb hby at_58) (fun _ _ => ⟨rfl, rfl, (by decide : 2 + 0 ≤ _), (by decide : 10 + 0 ≤ _)⟩)
    dsimp only [Pt.U, Pt.locs, Pt.cells, Pt.slots] at X44 l44 y44 z44 st44 hQ44
    subst l44 y44 z44
    obtain ⟨rfl, N44q, K44c, c44_0, c44_1, c44_2, c44_3⟩ := hQ44
    have N44 := Fr.app N13 N44q
    have K44 : Keep h0 T44.heap [] := K13.trans K44c (allS (Or.inr sz1) (allS (Or.inr szwb_3) all0))
    have pre44 : Lead p e below G (T44.setTop (mkF m 61 #[.val (.int p0), .val (.int p1), .val (.int p2), .val (.int p3), .val (.ref b1), .val (.int v7), .val (.int v11), .val (.int (1 : Int32)), .val (.int p0), .val (.int (0 : Int32)), .unset, .unset] [])) := fun t k => pre43 t (st44.trans k)
    have pre46 : Lead p e below G (T44.setTop (mkF m 76 #[.val (.int p0), .val (.int p1), .val (.int p2), .val (.int p3), .val (.ref b1), .val (.int v7), .val (.int v11), .val (.int (2 : Int32)), .val (.int p1), .val (.int p0), .unset, .unset] [(.int v11)])) := fun t k => by
      refine pre44 t ?_
      show Steps p.tables e below (T44.setTop (mkF m 61 #[.val (.int p0), .val (.int p1), .val (.int p2), .val (.int p3), .val (.ref b1), .val (.int v7), .val (.int v11), .val (.int (1 : Int32)), .val (.int p0), .val (.int (0 : Int32)), .unset, .unset] [])) _
      refine XS.iload X44.here hx rfl (hb hby at_61) rfl ?_
      show Steps p.tables e below (T44.setTop (mkF m 63 #[.val (.int p0), .val (.int p1), .val (.int p2), .val (.int p3), .val (.ref b1), .val (.int v7), .val (.int v11), .val (.int (1 : Int32)), .val (.int p0), .val (.int (0 : Int32)), .unset, .unset] [(.int p0)])) _
      refine XS.istore X44.here hx rfl (hb hby at_63) rfl (l' := #[.val (.int p0), .val (.int p1), .val (.int p2), .val (.int p3), .val (.ref b1), .val (.int v7), .val (.int v11), .val (.int (1 : Int32)), .val (.int p0), .val (.int p0), .unset, .unset]) rfl ?_
      show Steps p.tables e below (T44.setTop (mkF m 65 #[.val (.int p0), .val (.int p1), .val (.int p2), .val (.int p3), .val (.ref b1), .val (.int v7), .val (.int v11), .val (.int (1 : Int32)), .val (.int p0), .val (.int p0), .unset, .unset] [])) _
      refine XS.iloadN X44.here hx rfl (hb hby at_65) rfl ?_
      show Steps p.tables e below (T44.setTop (mkF m 66 #[.val (.int p0), .val (.int p1), .val (.int p2), .val (.int p3), .val (.ref b1), .val (.int v7), .val (.int v11), .val (.int (1 : Int32)), .val (.int p0), .val (.int p0), .unset, .unset] [(.int p1)])) _
      refine XS.istore X44.here hx rfl (hb hby at_66) rfl (l' := #[.val (.int p0), .val (.int p1), .val (.int p2), .val (.int p3), .val (.ref b1), .val (.int v7), .val (.int v11), .val (.int (1 : Int32)), .val (.int p1), .val (.int p0), .unset, .unset]) rfl ?_
      show Steps p.tables e below (T44.setTop (mkF m 68 #[.val (.int p0), .val (.int p1), .val (.int p2), .val (.int p3), .val (.ref b1), .val (.int v7), .val (.int v11), .val (.int (1 : Int32)), .val (.int p1), .val (.int p0), .unset, .unset] [])) _
      refine XS.iload X44.here hx rfl (hb hby at_68) rfl ?_
      show Steps p.tables e below (T44.setTop (mkF m 70 #[.val (.int p0), .val (.int p1), .val (.int p2), .val (.int p3), .val (.ref b1), .val (.int v7), .val (.int v11), .val (.int (1 : Int32)), .val (.int p1), .val (.int p0), .unset, .unset] [(.int (1 : Int32))])) _
      refine XS.iconst X44.here hx rfl (hb hby at_70) ?_
      show Steps p.tables e below (T44.setTop (mkF m 71 #[.val (.int p0), .val (.int p1), .val (.int p2), .val (.int p3), .val (.ref b1), .val (.int v7), .val (.int v11), .val (.int (1 : Int32)), .val (.int p1), .val (.int p0), .unset, .unset] [(.int (1 : Int32)), (.int (1 : Int32))])) _
      refine XS.iadd X44.here hx rfl (hb hby at_71) rfl ?_
      show Steps p.tables e below (T44.setTop (mkF m 72 #[.val (.int p0), .val (.int p1), .val (.int p2), .val (.int p3), .val (.ref b1), .val (.int v7), .val (.int v11), .val (.int (1 : Int32)), .val (.int p1), .val (.int p0), .unset, .unset] [(.int (2 : Int32))])) _
      refine XS.istore X44.here hx rfl (hb hby at_72) rfl (l' := #[.val (.int p0), .val (.int p1), .val (.int p2), .val (.int p3), .val (.ref b1), .val (.int v7), .val (.int v11), .val (.int (2 : Int32)), .val (.int p1), .val (.int p0), .unset, .unset]) rfl ?_
      show Steps p.tables e below (T44.setTop (mkF m 74 #[.val (.int p0), .val (.int p1), .val (.int p2), .val (.int p3), .val (.ref b1), .val (.int v7), .val (.int v11), .val (.int (2 : Int32)), .val (.int p1), .val (.int p0), .unset, .unset] [])) _
      refine XS.iload X44.here hx rfl (hb hby at_74) rfl ?_
      show Steps p.tables e below (T44.setTop (mkF m 76 #[.val (.int p0), .val (.int p1), .val (.int p2), .val (.int p3), .val (.ref b1), .val (.int v7), .val (.int v11), .val (.int (2 : Int32)), .val (.int p1), .val (.int p0), .unset, .unset] [(.int v11)])) _
      exact k
    by_cases hs76_47 : v11 = (0 : Int32)
    · have pre48 : Lead p e below G (T44.setTop (mkF m 100 #[.val (.int p0), .val (.int p1), .val (.int p2), .val (.int p3), .val (.ref b1), .val (.int v7), .val (.int v11), .val (.int (2 : Int32)), .val (.int p1), .val (.int p0), .unset, .unset] [(.ref b1)])) := fun t k => by
        refine pre46 t ?_
        show Steps p.tables e below (T44.setTop (mkF m 76 #[.val (.int p0), .val (.int p1), .val (.int p2), .val (.int p3), .val (.ref b1), .val (.int v7), .val (.int v11), .val (.int (2 : Int32)), .val (.int p1), .val (.int p0), .unset, .unset] [(.int v11)])) _
        refine XS.ifYes X44.here hx rfl (pc0 := 76) (pc' := 98) rfl (hb hby at_76) rfl ((if0 _ _).trans (teq hs76_47).1) (by decide) (by decide) ?_
        show Steps p.tables e below (T44.setTop (mkF m 98 #[.val (.int p0), .val (.int p1), .val (.int p2), .val (.int p3), .val (.ref b1), .val (.int v7), .val (.int v11), .val (.int (2 : Int32)), .val (.int p1), .val (.int p0), .unset, .unset] [])) _
        refine XS.aload X44.here hx rfl (hb hby at_98) rfl rfl ?_
        show Steps p.tables e below (T44.setTop (mkF m 100 #[.val (.int p0), .val (.int p1), .val (.int p2), .val (.int p3), .val (.ref b1), .val (.int v7), .val (.int v11), .val (.int (2 : Int32)), .val (.int p1), .val (.int p0), .unset, .unset] [(.ref b1)])) _
        exact k
      obtain ⟨cq49, kq49, q49a, q49b, q49c⟩ := isOf hZ rfl c44_0
      obtain ⟨_, _, ⟨T49, L49, k49, n49⟩, -, X49, ⟨Lc49, hQ49, l49, y49, z49⟩, st49⟩ := X44.virtualBack hx (y := (⟨"com/example/nonesuch/nonesuch/engine/IntList", "removeLast", "()I"⟩ : MethodName)) (z := (⟨"com/example/nonesuch/nonesuch/engine/IntList", "removeLast", "()I"⟩ : MethodName)) hown (mvT hZ (hw _ (List.mem_of_getElem? (i := 19) rfl))) (mvT hZ (hw _ (List.mem_of_getElem? (i := 20) rfl))) (notFace_of_selects (args := #[]) (mvT hZ (hw _ (List.mem_of_getElem? (i := 22) rfl)))) (mvT hZ (hw _ (List.mem_of_getElem? (i := 22) rfl))) (mvT hZ (hw _ (List.mem_of_getElem? (i := 21) rfl))) (by decide) (backOf (W := 0) (rm4 l Z a0 hw [] b1 wb_3 (8 : Int32) (updF (updF (fun _ => (0 : Int32)) 0 p0) 1 p1) (2 : Int32) T44.heap n0 (Nat.le_trans Z0 K44.1) c44_0 c44_1 c44_2 c44_3 ge1 ne3_b1_wb_3 (show ¬ ((2 : Int32) - (1 : Int32)) < 0 ∧ ((2 : Int32) - (1 : Int32)) < (8 : Int32) from ⟨by decide, by decide⟩)) hZ (hw _ (List.mem_of_getElem? (i := 23) rfl)) (hw _ (List.mem_of_getElem? (i := 2) rfl)) (by decide) (by decide)) q49a q49c (g := (mkF m 100 #[.val (.int p0), .val (.int p1), .val (.int p2), .val (.int p3), .val (.ref b1), .val (.int v7), .val (.int v11), .val (.int (2 : Int32)), .val (.int p1), .val (.int p0), .unset, .unset] [(.ref b1)])) rfl (by rw [hml]; rfl) (Steps.refl _) (argsL := []) (rest := []) (lenOf pd__28__29_I rfl) rfl (by show 2 * 0 + _ ≤ _; exact Nat.le_of_eq rfl) (hb hby at_100) (fun _ _ => ⟨rfl, rfl, (by decide : 2 + 0 ≤ _), (by decide : 10 + 0 ≤ _)⟩)
      dsimp only [Pt.U, Pt.locs, Pt.cells, Pt.slots] at X49 l49 y49 z49 st49 hQ49
      subst l49 y49 z49
      obtain ⟨rfl, N49q, K49c, c49_0, c49_1, c49_2⟩ := hQ49
      have N49 := Fr.app N44 N49q
      have K49 : Keep h0 T49.heap [] := K44.trans K49c (allS (Or.inr sz1) all0)
      have pre49 : Lead p e below G (T49.setTop (mkF m 103 #[.val (.int p0), .val (.int p1), .val (.int p2), .val (.int p3), .val (.ref b1), .val (.int v7), .val (.int v11), .val (.int (2 : Int32)), .val (.int p1), .val (.int p0), .unset, .unset] [(.int p1)])) := fun t k => pre48 t (st49.trans k)
      have pre50 : Lead p e below G (T49.setTop (mkF m 116 #[.val (.int p0), .val (.int p1), .val (.int p2), .val (.int p3), .val (.ref b1), .val (.int v7), .val (.int v11), .val (.int (2 : Int32)), .val (.int p1), .val (.int p0), .val (.int p1), .unset] [(.ref b1)])) := fun t k => by
        refine pre49 t ?_
        show Steps p.tables e below (T49.setTop (mkF m 103 #[.val (.int p0), .val (.int p1), .val (.int p2), .val (.int p3), .val (.ref b1), .val (.int v7), .val (.int v11), .val (.int (2 : Int32)), .val (.int p1), .val (.int p0), .unset, .unset] [(.int p1)])) _
        refine XS.istore X49.here hx rfl (hb hby at_103) rfl (l' := #[.val (.int p0), .val (.int p1), .val (.int p2), .val (.int p3), .val (.ref b1), .val (.int v7), .val (.int v11), .val (.int (2 : Int32)), .val (.int p1), .val (.int p0), .val (.int p1), .unset]) rfl ?_
        show Steps p.tables e below (T49.setTop (mkF m 105 #[.val (.int p0), .val (.int p1), .val (.int p2), .val (.int p3), .val (.ref b1), .val (.int v7), .val (.int v11), .val (.int (2 : Int32)), .val (.int p1), .val (.int p0), .val (.int p1), .unset] [])) _
        refine XS.iload X49.here hx rfl (hb hby at_105) rfl ?_
        show Steps p.tables e below (T49.setTop (mkF m 107 #[.val (.int p0), .val (.int p1), .val (.int p2), .val (.int p3), .val (.ref b1), .val (.int v7), .val (.int v11), .val (.int (2 : Int32)), .val (.int p1), .val (.int p0), .val (.int p1), .unset] [(.int p1)])) _
        refine XS.iload X49.here hx rfl (hb hby at_107) rfl ?_
        show Steps p.tables e below (T49.setTop (mkF m 109 #[.val (.int p0), .val (.int p1), .val (.int p2), .val (.int p3), .val (.ref b1), .val (.int v7), .val (.int v11), .val (.int (2 : Int32)), .val (.int p1), .val (.int p0), .val (.int p1), .unset] [(.int p1), (.int p1)])) _
        refine XS.icmpYes X49.here hx rfl (pc0 := 109) (pc' := 114) rfl (hb hby at_109) rfl (teq rfl).1 (by decide) (by decide) ?_
        show Steps p.tables e below (T49.setTop (mkF m 114 #[.val (.int p0), .val (.int p1), .val (.int p2), .val (.int p3), .val (.ref b1), .val (.int v7), .val (.int v11), .val (.int (2 : Int32)), .val (.int p1), .val (.int p0), .val (.int p1), .unset] [])) _
        refine XS.aload X49.here hx rfl (hb hby at_114) rfl rfl ?_
        show Steps p.tables e below (T49.setTop (mkF m 116 #[.val (.int p0), .val (.int p1), .val (.int p2), .val (.int p3), .val (.ref b1), .val (.int v7), .val (.int v11), .val (.int (2 : Int32)), .val (.int p1), .val (.int p0), .val (.int p1), .unset] [(.ref b1)])) _
        exact k
      obtain ⟨cq51, kq51, q51a, q51b, q51c⟩ := isOf hZ rfl c49_0
      obtain ⟨_, _, ⟨T51, L51, k51, n51⟩, -, X51, ⟨Lc51, hQ51, l51, y51, z51⟩, st51⟩ := X49.virtualBack hx (y := (⟨"com/example/nonesuch/nonesuch/engine/IntList", "size", "()I"⟩ : MethodName)) (z := (⟨"com/example/nonesuch/nonesuch/engine/IntList", "size", "()I"⟩ : MethodName)) hown (mvT hZ (hw _ (List.mem_of_getElem? (i := 24) rfl))) (mvT hZ (hw _ (List.mem_of_getElem? (i := 25) rfl))) (notFace_of_selects (args := #[]) (mvT hZ (hw _ (List.mem_of_getElem? (i := 27) rfl)))) (mvT hZ (hw _ (List.mem_of_getElem? (i := 27) rfl))) (mvT hZ (hw _ (List.mem_of_getElem? (i := 26) rfl))) (by decide) (backOf (W := 0) (rm5 l Z a0 hw [] b1 (1 : Int32) T49.heap n0 (Nat.le_trans Z0 K49.1) c49_2) hZ (hw _ (List.mem_of_getElem? (i := 28) rfl)) (hw _ (List.mem_of_getElem? (i := 2) rfl)) (by decide) (by decide)) q51a q51c (g := (mkF m 116 #[.val (.int p0), .val (.int p1), .val (.int p2), .val (.int p3), .val (.ref b1), .val (.int v7), .val (.int v11), .val (.int (2 : Int32)), .val (.int p1), .val (.int p0), .val (.int p1), .unset] [(.ref b1)])) rfl (by rw [hml]; rfl) (Steps.refl _) (argsL := []) (rest := []) (lenOf pd__28__29_I rfl) rfl (by show 2 * 0 + _ ≤ _; exact Nat.le_of_eq rfl) (hb hby at_116) (fun _ _ => ⟨rfl, rfl, (by decide : 2 + 0 ≤ _), (by decide : 10 + 0 ≤ _)⟩)
      dsimp only [Pt.U, Pt.locs, Pt.cells, Pt.slots] at X51 l51 y51 z51 st51 hQ51
      subst l51 y51 z51
      obtain ⟨rfl, N51q, e51⟩ := hQ51
      have N51 := Fr.app N49 N51q
      have pre51 : Lead p e below G (T51.setTop (mkF m 119 #[.val (.int p0), .val (.int p1), .val (.int p2), .val (.int p3), .val (.ref b1), .val (.int v7), .val (.int v11), .val (.int (2 : Int32)), .val (.int p1), .val (.int p0), .val (.int p1), .unset] [(.int (1 : Int32))])) := fun t k => pre50 t (st51.trans k)
      have hf52 : (1 : Int32) = (1 : Int32) := (by decide)
      have hf53 : ¬ ((2 : Int32) < (2 : Int32)) := (by decide)
      have pre54 : Lead p e below G (T51.setTop (mkF m 136 #[.val (.int p0), .val (.int p1), .val (.int p2), .val (.int p3), .val (.ref b1), .val (.int v7), .val (.int v11), .val (.int (2 : Int32)), .val (.int p1), .val (.int p0), .val (.int p1), .unset] [(.ref b1)])) := fun t k => by
        refine pre51 t ?_
        show Steps p.tables e below (T51.setTop (mkF m 119 #[.val (.int p0), .val (.int p1), .val (.int p2), .val (.int p3), .val (.ref b1), .val (.int v7), .val (.int v11), .val (.int (2 : Int32)), .val (.int p1), .val (.int p0), .val (.int p1), .unset] [(.int (1 : Int32))])) _
        refine XS.iload X51.here hx rfl (hb hby at_119) rfl ?_
        show Steps p.tables e below (T51.setTop (mkF m 121 #[.val (.int p0), .val (.int p1), .val (.int p2), .val (.int p3), .val (.ref b1), .val (.int v7), .val (.int v11), .val (.int (2 : Int32)), .val (.int p1), .val (.int p0), .val (.int p1), .unset] [(.int (2 : Int32)), (.int (1 : Int32))])) _
        refine XS.iconst X51.here hx rfl (hb hby at_121) ?_
        show Steps p.tables e below (T51.setTop (mkF m 122 #[.val (.int p0), .val (.int p1), .val (.int p2), .val (.int p3), .val (.ref b1), .val (.int v7), .val (.int v11), .val (.int (2 : Int32)), .val (.int p1), .val (.int p0), .val (.int p1), .unset] [(.int (1 : Int32)), (.int (2 : Int32)), (.int (1 : Int32))])) _
        refine XS.isub X51.here hx rfl (hb hby at_122) rfl ?_
        show Steps p.tables e below (T51.setTop (mkF m 123 #[.val (.int p0), .val (.int p1), .val (.int p2), .val (.int p3), .val (.ref b1), .val (.int v7), .val (.int v11), .val (.int (2 : Int32)), .val (.int p1), .val (.int p0), .val (.int p1), .unset] [(.int (1 : Int32)), (.int (1 : Int32))])) _
        refine XS.icmpYes X51.here hx rfl (pc0 := 123) (pc' := 128) rfl (hb hby at_123) rfl (teq hf52).1 (by decide) (by decide) ?_
        show Steps p.tables e below (T51.setTop (mkF m 128 #[.val (.int p0), .val (.int p1), .val (.int p2), .val (.int p3), .val (.ref b1), .val (.int v7), .val (.int v11), .val (.int (2 : Int32)), .val (.int p1), .val (.int p0), .val (.int p1), .unset] [])) _
        refine XS.iload X51.here hx rfl (hb hby at_128) rfl ?_
        show Steps p.tables e below (T51.setTop (mkF m 130 #[.val (.int p0), .val (.int p1), .val (.int p2), .val (.int p3), .val (.ref b1), .val (.int v7), .val (.int v11), .val (.int (2 : Int32)), .val (.int p1), .val (.int p0), .val (.int p1), .unset] [(.int (2 : Int32))])) _
        refine XS.iconst X51.here hx rfl (hb hby at_130) ?_
        show Steps p.tables e below (T51.setTop (mkF m 131 #[.val (.int p0), .val (.int p1), .val (.int p2), .val (.int p3), .val (.ref b1), .val (.int v7), .val (.int v11), .val (.int (2 : Int32)), .val (.int p1), .val (.int p0), .val (.int p1), .unset] [(.int (2 : Int32)), (.int (2 : Int32))])) _
        refine XS.icmpNo X51.here hx rfl (hb hby at_131) rfl (flt hf53).1 ?_
        show Steps p.tables e below (T51.setTop (mkF m 134 #[.val (.int p0), .val (.int p1), .val (.int p2), .val (.int p3), .val (.ref b1), .val (.int v7), .val (.int v11), .val (.int (2 : Int32)), .val (.int p1), .val (.int p0), .val (.int p1), .unset] [])) _
        refine XS.aload X51.here hx rfl (hb hby at_134) rfl rfl ?_
        show Steps p.tables e below (T51.setTop (mkF m 136 #[.val (.int p0), .val (.int p1), .val (.int p2), .val (.int p3), .val (.ref b1), .val (.int v7), .val (.int v11), .val (.int (2 : Int32)), .val (.int p1), .val (.int p0), .val (.int p1), .unset] [(.ref b1)])) _
        exact k
      have f56 : JV Value.int Z T49.heap wb_3 .int (8 : Int32) (updF (updF (fun _ => (0 : Int32)) 0 p0) 1 p1) := (c44_3.keep K49c (ninS (Ne.symm ne3_b1_wb_3) nin0))
      obtain ⟨cq55, kq55, q55a, q55b, q55c⟩ := isOf hZ e51 c49_0
      obtain ⟨_, _, ⟨T55, L55, k55, n55⟩, -, X55, ⟨Lc55, hQ55, l55, y55, z55⟩, st55⟩ := X51.virtualBack hx (y := (⟨"com/example/nonesuch/nonesuch/engine/IntList", "last", "()I"⟩ : MethodName)) (z := (⟨"com/example/nonesuch/nonesuch/engine/IntList", "last", "()I"⟩ : MethodName)) hown (mvT hZ (hw _ (List.mem_of_getElem? (i := 29) rfl))) (mvT hZ (hw _ (List.mem_of_getElem? (i := 30) rfl))) (notFace_of_selects (args := #[]) (mvT hZ (hw _ (List.mem_of_getElem? (i := 32) rfl)))) (mvT hZ (hw _ (List.mem_of_getElem? (i := 32) rfl))) (mvT hZ (hw _ (List.mem_of_getElem? (i := 31) rfl))) (by decide) (backOf (W := 0) (rm6 l Z a0 hw [] b1 wb_3 (8 : Int32) (updF (updF (fun _ => (0 : Int32)) 0 p0) 1 p1) (1 : Int32) T49.heap n0 (Nat.le_trans Z0 K49.1) c49_0 c49_1 c49_2 f56 (show ¬ ((1 : Int32) - (1 : Int32)) < 0 ∧ ((1 : Int32) - (1 : Int32)) < (8 : Int32) from ⟨by decide, by decide⟩)) hZ (hw _ (List.mem_of_getElem? (i := 33) rfl)) (hw _ (List.mem_of_getElem? (i := 2) rfl)) (by decide) (by decide)) q55a q55c (g := (mkF m 136 #[.val (.int p0), .val (.int p1), .val (.int p2), .val (.int p3), .val (.ref b1), .val (.int v7), .val (.int v11), .val (.int (2 : Int32)), .val (.int p1), .val (.int p0), .val (.int p1), .unset] [(.ref b1)])) rfl (by rw [hml]; rfl) (Steps.refl _) (argsL := []) (rest := []) (lenOf pd__28__29_I rfl) rfl (by show 2 * 0 + _ ≤ _; exact Nat.le_of_eq rfl) (hb hby at_136) (fun _ _ => ⟨rfl, e51, (by decide : 2 + 0 ≤ _), (by decide : 10 + 0 ≤ _)⟩)
      dsimp only [Pt.U, Pt.locs, Pt.cells, Pt.slots] at X55 l55 y55 z55 st55 hQ55
      subst l55 y55 z55
      obtain ⟨rfl, N55q, e55⟩ := hQ55
      have N55 := Fr.app N51 N55q
      have pre55 : Lead p e below G (T55.setTop (mkF m 139 #[.val (.int p0), .val (.int p1), .val (.int p2), .val (.int p3), .val (.ref b1), .val (.int v7), .val (.int v11), .val (.int (2 : Int32)), .val (.int p1), .val (.int p0), .val (.int p1), .unset] [(.int p0)])) := fun t k => pre54 t (st55.trans k)
      have pre57 : Lead p e below G (T55.setTop (mkF m 148 #[.val (.int p0), .val (.int p1), .val (.int p2), .val (.int p3), .val (.ref b1), .val (.int v7), .val (.int v11), .val (.int (2 : Int32)), .val (.int p1), .val (.int p0), .val (.int p1), .unset] [(.ref b1)])) := fun t k => by
        refine pre55 t ?_
        show Steps p.tables e below (T55.setTop (mkF m 139 #[.val (.int p0), .val (.int p1), .val (.int p2), .val (.int p3), .val (.ref b1), .val (.int v7), .val (.int v11), .val (.int (2 : Int32)), .val (.int p1), .val (.int p0), .val (.int p1), .unset] [(.int p0)])) _
        refine XS.iload X55.here hx rfl (hb hby at_139) rfl ?_
        show Steps p.tables e below (T55.setTop (mkF m 141 #[.val (.int p0), .val (.int p1), .val (.int p2), .val (.int p3), .val (.ref b1), .val (.int v7), .val (.int v11), .val (.int (2 : Int32)), .val (.int p1), .val (.int p0), .val (.int p1), .unset] [(.int p0), (.int p0)])) _
        refine XS.icmpYes X55.here hx rfl (pc0 := 141) (pc' := 146) rfl (hb hby at_141) rfl (teq rfl).1 (by decide) (by decide) ?_
        show Steps p.tables e below (T55.setTop (mkF m 146 #[.val (.int p0), .val (.int p1), .val (.int p2), .val (.int p3), .val (.ref b1), .val (.int v7), .val (.int v11), .val (.int (2 : Int32)), .val (.int p1), .val (.int p0), .val (.int p1), .unset] [])) _
        refine XS.aload X55.here hx rfl (hb hby at_146) rfl rfl ?_
        show Steps p.tables e below (T55.setTop (mkF m 148 #[.val (.int p0), .val (.int p1), .val (.int p2), .val (.int p3), .val (.ref b1), .val (.int v7), .val (.int v11), .val (.int (2 : Int32)), .val (.int p1), .val (.int p0), .val (.int p1), .unset] [(.ref b1)])) _
        exact k
      obtain ⟨cq58, kq58, q58a, q58b, q58c⟩ := isOf hZ e55 c49_0
      obtain ⟨_, _, ⟨T58, L58, k58, n58⟩, -, X58, ⟨Lc58, hQ58, l58, y58, z58⟩, st58⟩ := X55.virtualBack hx (y := (⟨"com/example/nonesuch/nonesuch/engine/IntList", "removeLast", "()I"⟩ : MethodName)) (z := (⟨"com/example/nonesuch/nonesuch/engine/IntList", "removeLast", "()I"⟩ : MethodName)) hown (mvT hZ (hw _ (List.mem_of_getElem? (i := 19) rfl))) (mvT hZ (hw _ (List.mem_of_getElem? (i := 20) rfl))) (notFace_of_selects (args := #[]) (mvT hZ (hw _ (List.mem_of_getElem? (i := 22) rfl)))) (mvT hZ (hw _ (List.mem_of_getElem? (i := 22) rfl))) (mvT hZ (hw _ (List.mem_of_getElem? (i := 21) rfl))) (by decide) (backOf (W := 0) (rm4 l Z a0 hw [] b1 wb_3 (8 : Int32) (updF (updF (fun _ => (0 : Int32)) 0 p0) 1 p1) (1 : Int32) T49.heap n0 (Nat.le_trans Z0 K49.1) c49_0 c49_1 c49_2 f56 ge1 ne3_b1_wb_3 (show ¬ ((1 : Int32) - (1 : Int32)) < 0 ∧ ((1 : Int32) - (1 : Int32)) < (8 : Int32) from ⟨by decide, by decide⟩)) hZ (hw _ (List.mem_of_getElem? (i := 23) rfl)) (hw _ (List.mem_of_getElem? (i := 2) rfl)) (by decide) (by decide)) q58a q58c (g := (mkF m 148 #[.val (.int p0), .val (.int p1), .val (.int p2), .val (.int p3), .val (.ref b1), .val (.int v7), .val (.int v11), .val (.int (2 : Int32)), .val (.int p1), .val (.int p0), .val (.int p1), .unset] [(.ref b1)])) rfl (by rw [hml]; rfl) (Steps.refl _) (argsL := []) (rest := []) (lenOf pd__28__29_I rfl) rfl (by show 2 * 0 + _ ≤ _; exact Nat.le_of_eq rfl) (hb hby at_148) (fun _ _ => ⟨rfl, e55, (by decide : 2 + 0 ≤ _), (by decide : 10 + 0 ≤ _)⟩)
      dsimp only [Pt.U, Pt.locs, Pt.cells, Pt.slots] at X58 l58 y58 z58 st58 hQ58
      subst l58 y58 z58
      obtain ⟨rfl, N58q, K58c, c58_0, c58_1, c58_2⟩ := hQ58
      have N58 := Fr.app N55 N58q
      have K58 : Keep h0 T58.heap [] := K49.trans K58c (allS (Or.inr sz1) all0)
      have pre58 : Lead p e below G (T58.setTop (mkF m 151 #[.val (.int p0), .val (.int p1), .val (.int p2), .val (.int p3), .val (.ref b1), .val (.int v7), .val (.int v11), .val (.int (2 : Int32)), .val (.int p1), .val (.int p0), .val (.int p1), .unset] [(.int p0)])) := fun t k => pre57 t (st58.trans k)
      have pre59 : Lead p e below G (T58.setTop (mkF m 164 #[.val (.int p0), .val (.int p1), .val (.int p2), .val (.int p3), .val (.ref b1), .val (.int v7), .val (.int v11), .val (.int (2 : Int32)), .val (.int p1), .val (.int p0), .val (.int p1), .val (.int p0)] [(.ref b1)])) := fun t k => by
        refine pre58 t ?_
        show Steps p.tables e below (T58.setTop (mkF m 151 #[.val (.int p0), .val (.int p1), .val (.int p2), .val (.int p3), .val (.ref b1), .val (.int v7), .val (.int v11), .val (.int (2 : Int32)), .val (.int p1), .val (.int p0), .val (.int p1), .unset] [(.int p0)])) _
        refine XS.istore X58.here hx rfl (hb hby at_151) rfl (l' := #[.val (.int p0), .val (.int p1), .val (.int p2), .val (.int p3), .val (.ref b1), .val (.int v7), .val (.int v11), .val (.int (2 : Int32)), .val (.int p1), .val (.int p0), .val (.int p1), .val (.int p0)]) rfl ?_
        show Steps p.tables e below (T58.setTop (mkF m 153 #[.val (.int p0), .val (.int p1), .val (.int p2), .val (.int p3), .val (.ref b1), .val (.int v7), .val (.int v11), .val (.int (2 : Int32)), .val (.int p1), .val (.int p0), .val (.int p1), .val (.int p0)] [])) _
        refine XS.iload X58.here hx rfl (hb hby at_153) rfl ?_
        show Steps p.tables e below (T58.setTop (mkF m 155 #[.val (.int p0), .val (.int p1), .val (.int p2), .val (.int p3), .val (.ref b1), .val (.int v7), .val (.int v11), .val (.int (2 : Int32)), .val (.int p1), .val (.int p0), .val (.int p1), .val (.int p0)] [(.int p0)])) _
        refine XS.iload X58.here hx rfl (hb hby at_155) rfl ?_
        show Steps p.tables e below (T58.setTop (mkF m 157 #[.val (.int p0), .val (.int p1), .val (.int p2), .val (.int p3), .val (.ref b1), .val (.int v7), .val (.int v11), .val (.int (2 : Int32)), .val (.int p1), .val (.int p0), .val (.int p1), .val (.int p0)] [(.int p0), (.int p0)])) _
        refine XS.icmpYes X58.here hx rfl (pc0 := 157) (pc' := 162) rfl (hb hby at_157) rfl (teq rfl).1 (by decide) (by decide) ?_
        show Steps p.tables e below (T58.setTop (mkF m 162 #[.val (.int p0), .val (.int p1), .val (.int p2), .val (.int p3), .val (.ref b1), .val (.int v7), .val (.int v11), .val (.int (2 : Int32)), .val (.int p1), .val (.int p0), .val (.int p1), .val (.int p0)] [])) _
        refine XS.aload X58.here hx rfl (hb hby at_162) rfl rfl ?_
        show Steps p.tables e below (T58.setTop (mkF m 164 #[.val (.int p0), .val (.int p1), .val (.int p2), .val (.int p3), .val (.ref b1), .val (.int v7), .val (.int v11), .val (.int (2 : Int32)), .val (.int p1), .val (.int p0), .val (.int p1), .val (.int p0)] [(.ref b1)])) _
        exact k
      obtain ⟨cq60, kq60, q60a, q60b, q60c⟩ := isOf hZ rfl c58_0
      obtain ⟨_, _, ⟨T60, L60, k60, n60⟩, -, X60, ⟨Lc60, hQ60, l60, y60, z60⟩, st60⟩ := X58.virtualBack hx (y := (⟨"com/example/nonesuch/nonesuch/engine/IntList", "size", "()I"⟩ : MethodName)) (z := (⟨"com/example/nonesuch/nonesuch/engine/IntList", "size", "()I"⟩ : MethodName)) hown (mvT hZ (hw _ (List.mem_of_getElem? (i := 24) rfl))) (mvT hZ (hw _ (List.mem_of_getElem? (i := 25) rfl))) (notFace_of_selects (args := #[]) (mvT hZ (hw _ (List.mem_of_getElem? (i := 27) rfl)))) (mvT hZ (hw _ (List.mem_of_getElem? (i := 27) rfl))) (mvT hZ (hw _ (List.mem_of_getElem? (i := 26) rfl))) (by decide) (backOf (W := 0) (rm5 l Z a0 hw [] b1 (0 : Int32) T58.heap n0 (Nat.le_trans Z0 K58.1) c58_2) hZ (hw _ (List.mem_of_getElem? (i := 28) rfl)) (hw _ (List.mem_of_getElem? (i := 2) rfl)) (by decide) (by decide)) q60a q60c (g := (mkF m 164 #[.val (.int p0), .val (.int p1), .val (.int p2), .val (.int p3), .val (.ref b1), .val (.int v7), .val (.int v11), .val (.int (2 : Int32)), .val (.int p1), .val (.int p0), .val (.int p1), .val (.int p0)] [(.ref b1)])) rfl (by rw [hml]; rfl) (Steps.refl _) (argsL := []) (rest := []) (lenOf pd__28__29_I rfl) rfl (by show 2 * 0 + _ ≤ _; exact Nat.le_of_eq rfl) (hb hby at_164) (fun _ _ => ⟨rfl, rfl, (by decide : 2 + 0 ≤ _), (by decide : 10 + 0 ≤ _)⟩)
      dsimp only [Pt.U, Pt.locs, Pt.cells, Pt.slots] at X60 l60 y60 z60 st60 hQ60
      subst l60 y60 z60
      obtain ⟨rfl, N60q, e60⟩ := hQ60
      have N60 := Fr.app N58 N60q
      have pre60 : Lead p e below G (T60.setTop (mkF m 167 #[.val (.int p0), .val (.int p1), .val (.int p2), .val (.int p3), .val (.ref b1), .val (.int v7), .val (.int v11), .val (.int (2 : Int32)), .val (.int p1), .val (.int p0), .val (.int p1), .val (.int p0)] [(.int (0 : Int32))])) := fun t k => pre59 t (st60.trans k)
      have hf61 : (0 : Int32) = (0 : Int32) := (by decide)
      have hf62 : ¬ ((2 : Int32) = (3 : Int32)) := (by decide)
      obtain ⟨fs, hr, hrun, hended, hW, hsame⟩ := X60.leave (v := some (.int (nar .boolean (1 : Int32)))) (fun h => by rw [Bd.returns] at h; cases h)
      subst hG
      refine ⟨_, _, pre60 _ ?_, hrun, hended, _, _, rfl, ?_, ⟨_, rfl⟩, hW, hsame.mono (by decide) (by decide)⟩
      · show Steps p.tables e below (T60.setTop (mkF m 167 #[.val (.int p0), .val (.int p1), .val (.int p2), .val (.int p3), .val (.ref b1), .val (.int v7), .val (.int v11), .val (.int (2 : Int32)), .val (.int p1), .val (.int p0), .val (.int p1), .val (.int p0)] [(.int (0 : Int32))])) _
        refine XS.iload X60.here hx rfl (hb hby at_167) rfl ?_
        show Steps p.tables e below (T60.setTop (mkF m 169 #[.val (.int p0), .val (.int p1), .val (.int p2), .val (.int p3), .val (.ref b1), .val (.int v7), .val (.int v11), .val (.int (2 : Int32)), .val (.int p1), .val (.int p0), .val (.int p1), .val (.int p0)] [(.int (2 : Int32)), (.int (0 : Int32))])) _
        refine XS.iconst X60.here hx rfl (hb hby at_169) ?_
        show Steps p.tables e below (T60.setTop (mkF m 170 #[.val (.int p0), .val (.int p1), .val (.int p2), .val (.int p3), .val (.ref b1), .val (.int v7), .val (.int v11), .val (.int (2 : Int32)), .val (.int p1), .val (.int p0), .val (.int p1), .val (.int p0)] [(.int (2 : Int32)), (.int (2 : Int32)), (.int (0 : Int32))])) _
        refine XS.isub X60.here hx rfl (hb hby at_170) rfl ?_
        show Steps p.tables e below (T60.setTop (mkF m 171 #[.val (.int p0), .val (.int p1), .val (.int p2), .val (.int p3), .val (.ref b1), .val (.int v7), .val (.int v11), .val (.int (2 : Int32)), .val (.int p1), .val (.int p0), .val (.int p1), .val (.int p0)] [(.int (0 : Int32)), (.int (0 : Int32))])) _
        refine XS.icmpYes X60.here hx rfl (pc0 := 171) (pc' := 176) rfl (hb hby at_171) rfl (teq hf61).1 (by decide) (by decide) ?_
        show Steps p.tables e below (T60.setTop (mkF m 176 #[.val (.int p0), .val (.int p1), .val (.int p2), .val (.int p3), .val (.ref b1), .val (.int v7), .val (.int v11), .val (.int (2 : Int32)), .val (.int p1), .val (.int p0), .val (.int p1), .val (.int p0)] [])) _
        refine XS.iload X60.here hx rfl (hb hby at_176) rfl ?_
        show Steps p.tables e below (T60.setTop (mkF m 178 #[.val (.int p0), .val (.int p1), .val (.int p2), .val (.int p3), .val (.ref b1), .val (.int v7), .val (.int v11), .val (.int (2 : Int32)), .val (.int p1), .val (.int p0), .val (.int p1), .val (.int p0)] [(.int (2 : Int32))])) _
        refine XS.iconst X60.here hx rfl (hb hby at_178) ?_
        show Steps p.tables e below (T60.setTop (mkF m 179 #[.val (.int p0), .val (.int p1), .val (.int p2), .val (.int p3), .val (.ref b1), .val (.int v7), .val (.int v11), .val (.int (2 : Int32)), .val (.int p1), .val (.int p0), .val (.int p1), .val (.int p0)] [(.int (3 : Int32)), (.int (2 : Int32))])) _
        refine XS.icmpYes X60.here hx rfl (pc0 := 179) (pc' := 194) rfl (hb hby at_179) rfl (feq hf62).2 (by decide) (by decide) ?_
        show Steps p.tables e below (T60.setTop (mkF m 194 #[.val (.int p0), .val (.int p1), .val (.int p2), .val (.int p3), .val (.ref b1), .val (.int v7), .val (.int v11), .val (.int (2 : Int32)), .val (.int p1), .val (.int p0), .val (.int p1), .val (.int p0)] [])) _
        refine XS.iconst X60.here hx rfl (hb hby at_194) ?_
        show Steps p.tables e below (T60.setTop (mkF m 195 #[.val (.int p0), .val (.int p1), .val (.int p2), .val (.int p3), .val (.ref b1), .val (.int v7), .val (.int v11), .val (.int (2 : Int32)), .val (.int p1), .val (.int p0), .val (.int p1), .val (.int p0)] [(.int (1 : Int32))])) _
        exact retN X60 hx (t := .boolean) Bd.returns (by simp) (hb hby at_195) hr
      · show Q0 Z p0 p1 p2 p3 h0 n0 _ T60.heap _
        refine ⟨congrArg (fun z => some (Value.int z)) (?_ : (nar .boolean (1 : Int32)) = 1), N60⟩
        rfl
    · have pre63 : Lead p e below G (T44.setTop (mkF m 82 #[.val (.int p0), .val (.int p1), .val (.int p2), .val (.int p3), .val (.ref b1), .val (.int v7), .val (.int v11), .val (.int (2 : Int32)), .val (.int p1), .val (.int p0), .unset, .unset] [(.int p2), (.ref b1)])) := fun t k => by
        refine pre46 t ?_
        show Steps p.tables e below (T44.setTop (mkF m 76 #[.val (.int p0), .val (.int p1), .val (.int p2), .val (.int p3), .val (.ref b1), .val (.int v7), .val (.int v11), .val (.int (2 : Int32)), .val (.int p1), .val (.int p0), .unset, .unset] [(.int v11)])) _
        refine XS.ifNo X44.here hx rfl (hb hby at_76) rfl ((if0 _ _).trans (feq hs76_47).1) ?_
        show Steps p.tables e below (T44.setTop (mkF m 79 #[.val (.int p0), .val (.int p1), .val (.int p2), .val (.int p3), .val (.ref b1), .val (.int v7), .val (.int v11), .val (.int (2 : Int32)), .val (.int p1), .val (.int p0), .unset, .unset] [])) _
        refine XS.aload X44.here hx rfl (hb hby at_79) rfl rfl ?_
        show Steps p.tables e below (T44.setTop (mkF m 81 #[.val (.int p0), .val (.int p1), .val (.int p2), .val (.int p3), .val (.ref b1), .val (.int v7), .val (.int v11), .val (.int (2 : Int32)), .val (.int p1), .val (.int p0), .unset, .unset] [(.ref b1)])) _
        refine XS.iloadN X44.here hx rfl (hb hby at_81) rfl ?_
        show Steps p.tables e below (T44.setTop (mkF m 82 #[.val (.int p0), .val (.int p1), .val (.int p2), .val (.int p3), .val (.ref b1), .val (.int v7), .val (.int v11), .val (.int (2 : Int32)), .val (.int p1), .val (.int p0), .unset, .unset] [(.int p2), (.ref b1)])) _
        exact k
      obtain ⟨cq64, kq64, q64a, q64b, q64c⟩ := isOf hZ rfl c44_0
      obtain ⟨_, _, ⟨T64, L64, k64, n64⟩, -, X64, ⟨Lc64, hQ64, l64, y64, z64⟩, st64⟩ := X44.virtualBack hx (y := (⟨"com/example/nonesuch/nonesuch/engine/IntList", "add", "(I)V"⟩ : MethodName)) (z := (⟨"com/example/nonesuch/nonesuch/engine/IntList", "add", "(I)V"⟩ : MethodName)) hown (mvT hZ (hw _ (List.mem_of_getElem? (i := 12) rfl))) (mvT hZ (hw _ (List.mem_of_getElem? (i := 13) rfl))) (notFace_of_selects (args := #[]) (mvT hZ (hw _ (List.mem_of_getElem? (i := 15) rfl)))) (mvT hZ (hw _ (List.mem_of_getElem? (i := 15) rfl))) (mvT hZ (hw _ (List.mem_of_getElem? (i := 14) rfl))) (by decide) (backOf (W := 0) (rm3 l Z a0 hw [] b1 p2 wb_3 (8 : Int32) (updF (updF (fun _ => (0 : Int32)) 0 p0) 1 p1) (2 : Int32) T44.heap n0 (Nat.le_trans Z0 K44.1) c44_0 c44_1 c44_2 c44_3 ge1 gewb_3 ne3_b1_wb_3 (show ¬ ((2 : Int32) = (8 : Int32)) from (by decide)) (show ¬ (2 : Int32) < 0 ∧ (2 : Int32) < (8 : Int32) from ⟨by decide, by decide⟩)) hZ (hw _ (List.mem_of_getElem? (i := 16) rfl)) (hw _ (List.mem_of_getElem? (i := 2) rfl)) (by decide) (by decide)) q64a q64c (g := (mkF m 82 #[.val (.int p0), .val (.int p1), .val (.int p2), .val (.int p3), .val (.ref b1), .val (.int v7), .val (.int v11), .val (.int (2 : Int32)), .val (.int p1), .val (.int p0), .unset, .unset] [(.int p2), (.ref b1)])) rfl (by rw [hml]; rfl) (Steps.refl _) (argsL := [(.int p2)]) (rest := []) (lenOf pd__28_I_29_V rfl) rfl (by show 2 * 0 + _ ≤ _; exact Nat.le_of_eq rfl) (hb hby at_82) (fun _ _ => ⟨rfl, rfl, (by decide : 2 + 0 ≤ _), (by decide : 10 + 0 ≤ _)⟩)
      dsimp only [Pt.U, Pt.locs, Pt.cells, Pt.slots] at X64 l64 y64 z64 st64 hQ64
      subst l64 y64 z64
      obtain ⟨rfl, N64q, K64c, c64_0, c64_1, c64_2, c64_3⟩ := hQ64
      have N64 := Fr.app N44 N64q
      have K64 : Keep h0 T64.heap [] := K44.trans K64c (allS (Or.inr sz1) (allS (Or.inr szwb_3) all0))
      have pre64 : Lead p e below G (T64.setTop (mkF m 85 #[.val (.int p0), .val (.int p1), .val (.int p2), .val (.int p3), .val (.ref b1), .val (.int v7), .val (.int v11), .val (.int (2 : Int32)), .val (.int p1), .val (.int p0), .unset, .unset] [])) := fun t k => pre63 t (st64.trans k)
      have pre65 : Lead p e below G (T64.setTop (mkF m 100 #[.val (.int p0), .val (.int p1), .val (.int p2), .val (.int p3), .val (.ref b1), .val (.int v7), .val (.int v11), .val (.int (3 : Int32)), .val (.int p2), .val (.int p1), .unset, .unset] [(.ref b1)])) := fun t k => by
        refine pre64 t ?_
        show Steps p.tables e below (T64.setTop (mkF m 85 #[.val (.int p0), .val (.int p1), .val (.int p2), .val (.int p3), .val (.ref b1), .val (.int v7), .val (.int v11), .val (.int (2 : Int32)), .val (.int p1), .val (.int p0), .unset, .unset] [])) _
        refine XS.iload X64.here hx rfl (hb hby at_85) rfl ?_
        show Steps p.tables e below (T64.setTop (mkF m 87 #[.val (.int p0), .val (.int p1), .val (.int p2), .val (.int p3), .val (.ref b1), .val (.int v7), .val (.int v11), .val (.int (2 : Int32)), .val (.int p1), .val (.int p0), .unset, .unset] [(.int p1)])) _
        refine XS.istore X64.here hx rfl (hb hby at_87) rfl (l' := #[.val (.int p0), .val (.int p1), .val (.int p2), .val (.int p3), .val (.ref b1), .val (.int v7), .val (.int v11), .val (.int (2 : Int32)), .val (.int p1), .val (.int p1), .unset, .unset]) rfl ?_
        show Steps p.tables e below (T64.setTop (mkF m 89 #[.val (.int p0), .val (.int p1), .val (.int p2), .val (.int p3), .val (.ref b1), .val (.int v7), .val (.int v11), .val (.int (2 : Int32)), .val (.int p1), .val (.int p1), .unset, .unset] [])) _
        refine XS.iloadN X64.here hx rfl (hb hby at_89) rfl ?_
        show Steps p.tables e below (T64.setTop (mkF m 90 #[.val (.int p0), .val (.int p1), .val (.int p2), .val (.int p3), .val (.ref b1), .val (.int v7), .val (.int v11), .val (.int (2 : Int32)), .val (.int p1), .val (.int p1), .unset, .unset] [(.int p2)])) _
        refine XS.istore X64.here hx rfl (hb hby at_90) rfl (l' := #[.val (.int p0), .val (.int p1), .val (.int p2), .val (.int p3), .val (.ref b1), .val (.int v7), .val (.int v11), .val (.int (2 : Int32)), .val (.int p2), .val (.int p1), .unset, .unset]) rfl ?_
        show Steps p.tables e below (T64.setTop (mkF m 92 #[.val (.int p0), .val (.int p1), .val (.int p2), .val (.int p3), .val (.ref b1), .val (.int v7), .val (.int v11), .val (.int (2 : Int32)), .val (.int p2), .val (.int p1), .unset, .unset] [])) _
        refine XS.iload X64.here hx rfl (hb hby at_92) rfl ?_
        show Steps p.tables e below (T64.setTop (mkF m 94 #[.val (.int p0), .val (.int p1), .val (.int p2), .val (.int p3), .val (.ref b1), .val (.int v7), .val (.int v11), .val (.int (2 : Int32)), .val (.int p2), .val (.int p1), .unset, .unset] [(.int (2 : Int32))])) _
        refine XS.iconst X64.here hx rfl (hb hby at_94) ?_
        show Steps p.tables e below (T64.setTop (mkF m 95 #[.val (.int p0), .val (.int p1), .val (.int p2), .val (.int p3), .val (.ref b1), .val (.int v7), .val (.int v11), .val (.int (2 : Int32)), .val (.int p2), .val (.int p1), .unset, .unset] [(.int (1 : Int32)), (.int (2 : Int32))])) _
        refine XS.iadd X64.here hx rfl (hb hby at_95) rfl ?_
        show Steps p.tables e below (T64.setTop (mkF m 96 #[.val (.int p0), .val (.int p1), .val (.int p2), .val (.int p3), .val (.ref b1), .val (.int v7), .val (.int v11), .val (.int (2 : Int32)), .val (.int p2), .val (.int p1), .unset, .unset] [(.int (3 : Int32))])) _
        refine XS.istore X64.here hx rfl (hb hby at_96) rfl (l' := #[.val (.int p0), .val (.int p1), .val (.int p2), .val (.int p3), .val (.ref b1), .val (.int v7), .val (.int v11), .val (.int (3 : Int32)), .val (.int p2), .val (.int p1), .unset, .unset]) rfl ?_
        show Steps p.tables e below (T64.setTop (mkF m 98 #[.val (.int p0), .val (.int p1), .val (.int p2), .val (.int p3), .val (.ref b1), .val (.int v7), .val (.int v11), .val (.int (3 : Int32)), .val (.int p2), .val (.int p1), .unset, .unset] [])) _
        refine XS.aload X64.here hx rfl (hb hby at_98) rfl rfl ?_
        show Steps p.tables e below (T64.setTop (mkF m 100 #[.val (.int p0), .val (.int p1), .val (.int p2), .val (.int p3), .val (.ref b1), .val (.int v7), .val (.int v11), .val (.int (3 : Int32)), .val (.int p2), .val (.int p1), .unset, .unset] [(.ref b1)])) _
        exact k
      obtain ⟨cq66, kq66, q66a, q66b, q66c⟩ := isOf hZ rfl c64_0
      obtain ⟨_, _, ⟨T66, L66, k66, n66⟩, -, X66, ⟨Lc66, hQ66, l66, y66, z66⟩, st66⟩ := X64.virtualBack hx (y := (⟨"com/example/nonesuch/nonesuch/engine/IntList", "removeLast", "()I"⟩ : MethodName)) (z := (⟨"com/example/nonesuch/nonesuch/engine/IntList", "removeLast", "()I"⟩ : MethodName)) hown (mvT hZ (hw _ (List.mem_of_getElem? (i := 19) rfl))) (mvT hZ (hw _ (List.mem_of_getElem? (i := 20) rfl))) (notFace_of_selects (args := #[]) (mvT hZ (hw _ (List.mem_of_getElem? (i := 22) rfl)))) (mvT hZ (hw _ (List.mem_of_getElem? (i := 22) rfl))) (mvT hZ (hw _ (List.mem_of_getElem? (i := 21) rfl))) (by decide) (backOf (W := 0) (rm4 l Z a0 hw [] b1 wb_3 (8 : Int32) (updF (updF (updF (fun _ => (0 : Int32)) 0 p0) 1 p1) 2 p2) (3 : Int32) T64.heap n0 (Nat.le_trans Z0 K64.1) c64_0 c64_1 c64_2 c64_3 ge1 ne3_b1_wb_3 (show ¬ ((3 : Int32) - (1 : Int32)) < 0 ∧ ((3 : Int32) - (1 : Int32)) < (8 : Int32) from ⟨by decide, by decide⟩)) hZ (hw _ (List.mem_of_getElem? (i := 23) rfl)) (hw _ (List.mem_of_getElem? (i := 2) rfl)) (by decide) (by decide)) q66a q66c (g := (mkF m 100 #[.val (.int p0), .val (.int p1), .val (.int p2), .val (.int p3), .val (.ref b1), .val (.int v7), .val (.int v11), .val (.int (3 : Int32)), .val (.int p2), .val (.int p1), .unset, .unset] [(.ref b1)])) rfl (by rw [hml]; rfl) (Steps.refl _) (argsL := []) (rest := []) (lenOf pd__28__29_I rfl) rfl (by show 2 * 0 + _ ≤ _; exact Nat.le_of_eq rfl) (hb hby at_100) (fun _ _ => ⟨rfl, rfl, (by decide : 2 + 0 ≤ _), (by decide : 10 + 0 ≤ _)⟩)
      dsimp only [Pt.U, Pt.locs, Pt.cells, Pt.slots] at X66 l66 y66 z66 st66 hQ66
      subst l66 y66 z66
      obtain ⟨rfl, N66q, K66c, c66_0, c66_1, c66_2⟩ := hQ66
      have N66 := Fr.app N64 N66q
      have K66 : Keep h0 T66.heap [] := K64.trans K66c (allS (Or.inr sz1) all0)
      have pre66 : Lead p e below G (T66.setTop (mkF m 103 #[.val (.int p0), .val (.int p1), .val (.int p2), .val (.int p3), .val (.ref b1), .val (.int v7), .val (.int v11), .val (.int (3 : Int32)), .val (.int p2), .val (.int p1), .unset, .unset] [(.int p2)])) := fun t k => pre65 t (st66.trans k)
      have pre67 : Lead p e below G (T66.setTop (mkF m 116 #[.val (.int p0), .val (.int p1), .val (.int p2), .val (.int p3), .val (.ref b1), .val (.int v7), .val (.int v11), .val (.int (3 : Int32)), .val (.int p2), .val (.int p1), .val (.int p2), .unset] [(.ref b1)])) := fun t k => by
        refine pre66 t ?_
        show Steps p.tables e below (T66.setTop (mkF m 103 #[.val (.int p0), .val (.int p1), .val (.int p2), .val (.int p3), .val (.ref b1), .val (.int v7), .val (.int v11), .val (.int (3 : Int32)), .val (.int p2), .val (.int p1), .unset, .unset] [(.int p2)])) _
        refine XS.istore X66.here hx rfl (hb hby at_103) rfl (l' := #[.val (.int p0), .val (.int p1), .val (.int p2), .val (.int p3), .val (.ref b1), .val (.int v7), .val (.int v11), .val (.int (3 : Int32)), .val (.int p2), .val (.int p1), .val (.int p2), .unset]) rfl ?_
        show Steps p.tables e below (T66.setTop (mkF m 105 #[.val (.int p0), .val (.int p1), .val (.int p2), .val (.int p3), .val (.ref b1), .val (.int v7), .val (.int v11), .val (.int (3 : Int32)), .val (.int p2), .val (.int p1), .val (.int p2), .unset] [])) _
        refine XS.iload X66.here hx rfl (hb hby at_105) rfl ?_
        show Steps p.tables e below (T66.setTop (mkF m 107 #[.val (.int p0), .val (.int p1), .val (.int p2), .val (.int p3), .val (.ref b1), .val (.int v7), .val (.int v11), .val (.int (3 : Int32)), .val (.int p2), .val (.int p1), .val (.int p2), .unset] [(.int p2)])) _
        refine XS.iload X66.here hx rfl (hb hby at_107) rfl ?_
        show Steps p.tables e below (T66.setTop (mkF m 109 #[.val (.int p0), .val (.int p1), .val (.int p2), .val (.int p3), .val (.ref b1), .val (.int v7), .val (.int v11), .val (.int (3 : Int32)), .val (.int p2), .val (.int p1), .val (.int p2), .unset] [(.int p2), (.int p2)])) _
        refine XS.icmpYes X66.here hx rfl (pc0 := 109) (pc' := 114) rfl (hb hby at_109) rfl (teq rfl).1 (by decide) (by decide) ?_
        show Steps p.tables e below (T66.setTop (mkF m 114 #[.val (.int p0), .val (.int p1), .val (.int p2), .val (.int p3), .val (.ref b1), .val (.int v7), .val (.int v11), .val (.int (3 : Int32)), .val (.int p2), .val (.int p1), .val (.int p2), .unset] [])) _
        refine XS.aload X66.here hx rfl (hb hby at_114) rfl rfl ?_
        show Steps p.tables e below (T66.setTop (mkF m 116 #[.val (.int p0), .val (.int p1), .val (.int p2), .val (.int p3), .val (.ref b1), .val (.int v7), .val (.int v11), .val (.int (3 : Int32)), .val (.int p2), .val (.int p1), .val (.int p2), .unset] [(.ref b1)])) _
        exact k
      obtain ⟨cq68, kq68, q68a, q68b, q68c⟩ := isOf hZ rfl c66_0
      obtain ⟨_, _, ⟨T68, L68, k68, n68⟩, -, X68, ⟨Lc68, hQ68, l68, y68, z68⟩, st68⟩ := X66.virtualBack hx (y := (⟨"com/example/nonesuch/nonesuch/engine/IntList", "size", "()I"⟩ : MethodName)) (z := (⟨"com/example/nonesuch/nonesuch/engine/IntList", "size", "()I"⟩ : MethodName)) hown (mvT hZ (hw _ (List.mem_of_getElem? (i := 24) rfl))) (mvT hZ (hw _ (List.mem_of_getElem? (i := 25) rfl))) (notFace_of_selects (args := #[]) (mvT hZ (hw _ (List.mem_of_getElem? (i := 27) rfl)))) (mvT hZ (hw _ (List.mem_of_getElem? (i := 27) rfl))) (mvT hZ (hw _ (List.mem_of_getElem? (i := 26) rfl))) (by decide) (backOf (W := 0) (rm5 l Z a0 hw [] b1 (2 : Int32) T66.heap n0 (Nat.le_trans Z0 K66.1) c66_2) hZ (hw _ (List.mem_of_getElem? (i := 28) rfl)) (hw _ (List.mem_of_getElem? (i := 2) rfl)) (by decide) (by decide)) q68a q68c (g := (mkF m 116 #[.val (.int p0), .val (.int p1), .val (.int p2), .val (.int p3), .val (.ref b1), .val (.int v7), .val (.int v11), .val (.int (3 : Int32)), .val (.int p2), .val (.int p1), .val (.int p2), .unset] [(.ref b1)])) rfl (by rw [hml]; rfl) (Steps.refl _) (argsL := []) (rest := []) (lenOf pd__28__29_I rfl) rfl (by show 2 * 0 + _ ≤ _; exact Nat.le_of_eq rfl) (hb hby at_116) (fun _ _ => ⟨rfl, rfl, (by decide : 2 + 0 ≤ _), (by decide : 10 + 0 ≤ _)⟩)
      dsimp only [Pt.U, Pt.locs, Pt.cells, Pt.slots] at X68 l68 y68 z68 st68 hQ68
      subst l68 y68 z68
      obtain ⟨rfl, N68q, e68⟩ := hQ68
      have N68 := Fr.app N66 N68q
      have pre68 : Lead p e below G (T68.setTop (mkF m 119 #[.val (.int p0), .val (.int p1), .val (.int p2), .val (.int p3), .val (.ref b1), .val (.int v7), .val (.int v11), .val (.int (3 : Int32)), .val (.int p2), .val (.int p1), .val (.int p2), .unset] [(.int (2 : Int32))])) := fun t k => pre67 t (st68.trans k)
      have hf69 : (2 : Int32) = (2 : Int32) := (by decide)
      have hf70 : ¬ ((3 : Int32) < (2 : Int32)) := (by decide)
      have pre71 : Lead p e below G (T68.setTop (mkF m 136 #[.val (.int p0), .val (.int p1), .val (.int p2), .val (.int p3), .val (.ref b1), .val (.int v7), .val (.int v11), .val (.int (3 : Int32)), .val (.int p2), .val (.int p1), .val (.int p2), .unset] [(.ref b1)])) := fun t k => by
        refine pre68 t ?_
        show Steps p.tables e below (T68.setTop (mkF m 119 #[.val (.int p0), .val (.int p1), .val (.int p2), .val (.int p3), .val (.ref b1), .val (.int v7), .val (.int v11), .val (.int (3 : Int32)), .val (.int p2), .val (.int p1), .val (.int p2), .unset] [(.int (2 : Int32))])) _
        refine XS.iload X68.here hx rfl (hb hby at_119) rfl ?_
        show Steps p.tables e below (T68.setTop (mkF m 121 #[.val (.int p0), .val (.int p1), .val (.int p2), .val (.int p3), .val (.ref b1), .val (.int v7), .val (.int v11), .val (.int (3 : Int32)), .val (.int p2), .val (.int p1), .val (.int p2), .unset] [(.int (3 : Int32)), (.int (2 : Int32))])) _
        refine XS.iconst X68.here hx rfl (hb hby at_121) ?_
        show Steps p.tables e below (T68.setTop (mkF m 122 #[.val (.int p0), .val (.int p1), .val (.int p2), .val (.int p3), .val (.ref b1), .val (.int v7), .val (.int v11), .val (.int (3 : Int32)), .val (.int p2), .val (.int p1), .val (.int p2), .unset] [(.int (1 : Int32)), (.int (3 : Int32)), (.int (2 : Int32))])) _
        refine XS.isub X68.here hx rfl (hb hby at_122) rfl ?_
        show Steps p.tables e below (T68.setTop (mkF m 123 #[.val (.int p0), .val (.int p1), .val (.int p2), .val (.int p3), .val (.ref b1), .val (.int v7), .val (.int v11), .val (.int (3 : Int32)), .val (.int p2), .val (.int p1), .val (.int p2), .unset] [(.int (2 : Int32)), (.int (2 : Int32))])) _
        refine XS.icmpYes X68.here hx rfl (pc0 := 123) (pc' := 128) rfl (hb hby at_123) rfl (teq hf69).1 (by decide) (by decide) ?_
        show Steps p.tables e below (T68.setTop (mkF m 128 #[.val (.int p0), .val (.int p1), .val (.int p2), .val (.int p3), .val (.ref b1), .val (.int v7), .val (.int v11), .val (.int (3 : Int32)), .val (.int p2), .val (.int p1), .val (.int p2), .unset] [])) _
        refine XS.iload X68.here hx rfl (hb hby at_128) rfl ?_
        show Steps p.tables e below (T68.setTop (mkF m 130 #[.val (.int p0), .val (.int p1), .val (.int p2), .val (.int p3), .val (.ref b1), .val (.int v7), .val (.int v11), .val (.int (3 : Int32)), .val (.int p2), .val (.int p1), .val (.int p2), .unset] [(.int (3 : Int32))])) _
        refine XS.iconst X68.here hx rfl (hb hby at_130) ?_
        show Steps p.tables e below (T68.setTop (mkF m 131 #[.val (.int p0), .val (.int p1), .val (.int p2), .val (.int p3), .val (.ref b1), .val (.int v7), .val (.int v11), .val (.int (3 : Int32)), .val (.int p2), .val (.int p1), .val (.int p2), .unset] [(.int (2 : Int32)), (.int (3 : Int32))])) _
        refine XS.icmpNo X68.here hx rfl (hb hby at_131) rfl (flt hf70).1 ?_
        show Steps p.tables e below (T68.setTop (mkF m 134 #[.val (.int p0), .val (.int p1), .val (.int p2), .val (.int p3), .val (.ref b1), .val (.int v7), .val (.int v11), .val (.int (3 : Int32)), .val (.int p2), .val (.int p1), .val (.int p2), .unset] [])) _
        refine XS.aload X68.here hx rfl (hb hby at_134) rfl rfl ?_
        show Steps p.tables e below (T68.setTop (mkF m 136 #[.val (.int p0), .val (.int p1), .val (.int p2), .val (.int p3), .val (.ref b1), .val (.int v7), .val (.int v11), .val (.int (3 : Int32)), .val (.int p2), .val (.int p1), .val (.int p2), .unset] [(.ref b1)])) _
        exact k
      have f73 : JV Value.int Z T66.heap wb_3 .int (8 : Int32) (updF (updF (updF (fun _ => (0 : Int32)) 0 p0) 1 p1) 2 p2) := (c64_3.keep K66c (ninS (Ne.symm ne3_b1_wb_3) nin0))
      obtain ⟨cq72, kq72, q72a, q72b, q72c⟩ := isOf hZ e68 c66_0
      obtain ⟨_, _, ⟨T72, L72, k72, n72⟩, -, X72, ⟨Lc72, hQ72, l72, y72, z72⟩, st72⟩ := X68.virtualBack hx (y := (⟨"com/example/nonesuch/nonesuch/engine/IntList", "last", "()I"⟩ : MethodName)) (z := (⟨"com/example/nonesuch/nonesuch/engine/IntList", "last", "()I"⟩ : MethodName)) hown (mvT hZ (hw _ (List.mem_of_getElem? (i := 29) rfl))) (mvT hZ (hw _ (List.mem_of_getElem? (i := 30) rfl))) (notFace_of_selects (args := #[]) (mvT hZ (hw _ (List.mem_of_getElem? (i := 32) rfl)))) (mvT hZ (hw _ (List.mem_of_getElem? (i := 32) rfl))) (mvT hZ (hw _ (List.mem_of_getElem? (i := 31) rfl))) (by decide) (backOf (W := 0) (rm6 l Z a0 hw [] b1 wb_3 (8 : Int32) (updF (updF (updF (fun _ => (0 : Int32)) 0 p0) 1 p1) 2 p2) (2 : Int32) T66.heap n0 (Nat.le_trans Z0 K66.1) c66_0 c66_1 c66_2 f73 (show ¬ ((2 : Int32) - (1 : Int32)) < 0 ∧ ((2 : Int32) - (1 : Int32)) < (8 : Int32) from ⟨by decide, by decide⟩)) hZ (hw _ (List.mem_of_getElem? (i := 33) rfl)) (hw _ (List.mem_of_getElem? (i := 2) rfl)) (by decide) (by decide)) q72a q72c (g := (mkF m 136 #[.val (.int p0), .val (.int p1), .val (.int p2), .val (.int p3), .val (.ref b1), .val (.int v7), .val (.int v11), .val (.int (3 : Int32)), .val (.int p2), .val (.int p1), .val (.int p2), .unset] [(.ref b1)])) rfl (by rw [hml]; rfl) (Steps.refl _) (argsL := []) (rest := []) (lenOf pd__28__29_I rfl) rfl (by show 2 * 0 + _ ≤ _; exact Nat.le_of_eq rfl) (hb hby at_136) (fun _ _ => ⟨rfl, e68, (by decide : 2 + 0 ≤ _), (by decide : 10 + 0 ≤ _)⟩)
      dsimp only [Pt.U, Pt.locs, Pt.cells, Pt.slots] at X72 l72 y72 z72 st72 hQ72
      subst l72 y72 z72
      obtain ⟨rfl, N72q, e72⟩ := hQ72
      have N72 := Fr.app N68 N72q
      have pre72 : Lead p e below G (T72.setTop (mkF m 139 #[.val (.int p0), .val (.int p1), .val (.int p2), .val (.int p3), .val (.ref b1), .val (.int v7), .val (.int v11), .val (.int (3 : Int32)), .val (.int p2), .val (.int p1), .val (.int p2), .unset] [(.int p1)])) := fun t k => pre71 t (st72.trans k)
      have pre74 : Lead p e below G (T72.setTop (mkF m 148 #[.val (.int p0), .val (.int p1), .val (.int p2), .val (.int p3), .val (.ref b1), .val (.int v7), .val (.int v11), .val (.int (3 : Int32)), .val (.int p2), .val (.int p1), .val (.int p2), .unset] [(.ref b1)])) := fun t k => by
        refine pre72 t ?_
        show Steps p.tables e below (T72.setTop (mkF m 139 #[.val (.int p0), .val (.int p1), .val (.int p2), .val (.int p3), .val (.ref b1), .val (.int v7), .val (.int v11), .val (.int (3 : Int32)), .val (.int p2), .val (.int p1), .val (.int p2), .unset] [(.int p1)])) _
        refine XS.iload X72.here hx rfl (hb hby at_139) rfl ?_
        show Steps p.tables e below (T72.setTop (mkF m 141 #[.val (.int p0), .val (.int p1), .val (.int p2), .val (.int p3), .val (.ref b1), .val (.int v7), .val (.int v11), .val (.int (3 : Int32)), .val (.int p2), .val (.int p1), .val (.int p2), .unset] [(.int p1), (.int p1)])) _
        refine XS.icmpYes X72.here hx rfl (pc0 := 141) (pc' := 146) rfl (hb hby at_141) rfl (teq rfl).1 (by decide) (by decide) ?_
        show Steps p.tables e below (T72.setTop (mkF m 146 #[.val (.int p0), .val (.int p1), .val (.int p2), .val (.int p3), .val (.ref b1), .val (.int v7), .val (.int v11), .val (.int (3 : Int32)), .val (.int p2), .val (.int p1), .val (.int p2), .unset] [])) _
        refine XS.aload X72.here hx rfl (hb hby at_146) rfl rfl ?_
        show Steps p.tables e below (T72.setTop (mkF m 148 #[.val (.int p0), .val (.int p1), .val (.int p2), .val (.int p3), .val (.ref b1), .val (.int v7), .val (.int v11), .val (.int (3 : Int32)), .val (.int p2), .val (.int p1), .val (.int p2), .unset] [(.ref b1)])) _
        exact k
      obtain ⟨cq75, kq75, q75a, q75b, q75c⟩ := isOf hZ e72 c66_0
      obtain ⟨_, _, ⟨T75, L75, k75, n75⟩, -, X75, ⟨Lc75, hQ75, l75, y75, z75⟩, st75⟩ := X72.virtualBack hx (y := (⟨"com/example/nonesuch/nonesuch/engine/IntList", "removeLast", "()I"⟩ : MethodName)) (z := (⟨"com/example/nonesuch/nonesuch/engine/IntList", "removeLast", "()I"⟩ : MethodName)) hown (mvT hZ (hw _ (List.mem_of_getElem? (i := 19) rfl))) (mvT hZ (hw _ (List.mem_of_getElem? (i := 20) rfl))) (notFace_of_selects (args := #[]) (mvT hZ (hw _ (List.mem_of_getElem? (i := 22) rfl)))) (mvT hZ (hw _ (List.mem_of_getElem? (i := 22) rfl))) (mvT hZ (hw _ (List.mem_of_getElem? (i := 21) rfl))) (by decide) (backOf (W := 0) (rm4 l Z a0 hw [] b1 wb_3 (8 : Int32) (updF (updF (updF (fun _ => (0 : Int32)) 0 p0) 1 p1) 2 p2) (2 : Int32) T66.heap n0 (Nat.le_trans Z0 K66.1) c66_0 c66_1 c66_2 f73 ge1 ne3_b1_wb_3 (show ¬ ((2 : Int32) - (1 : Int32)) < 0 ∧ ((2 : Int32) - (1 : Int32)) < (8 : Int32) from ⟨by decide, by decide⟩)) hZ (hw _ (List.mem_of_getElem? (i := 23) rfl)) (hw _ (List.mem_of_getElem? (i := 2) rfl)) (by decide) (by decide)) q75a q75c (g := (mkF m 148 #[.val (.int p0), .val (.int p1), .val (.int p2), .val (.int p3), .val (.ref b1), .val (.int v7), .val (.int v11), .val (.int (3 : Int32)), .val (.int p2), .val (.int p1), .val (.int p2), .unset] [(.ref b1)])) rfl (by rw [hml]; rfl) (Steps.refl _) (argsL := []) (rest := []) (lenOf pd__28__29_I rfl) rfl (by show 2 * 0 + _ ≤ _; exact Nat.le_of_eq rfl) (hb hby at_148) (fun _ _ => ⟨rfl, e72, (by decide : 2 + 0 ≤ _), (by decide : 10 + 0 ≤ _)⟩)
      dsimp only [Pt.U, Pt.locs, Pt.cells, Pt.slots] at X75 l75 y75 z75 st75 hQ75
      subst l75 y75 z75
      obtain ⟨rfl, N75q, K75c, c75_0, c75_1, c75_2⟩ := hQ75
      have N75 := Fr.app N72 N75q
      have K75 : Keep h0 T75.heap [] := K66.trans K75c (allS (Or.inr sz1) all0)
      have pre75 : Lead p e below G (T75.setTop (mkF m 151 #[.val (.int p0), .val (.int p1), .val (.int p2), .val (.int p3), .val (.ref b1), .val (.int v7), .val (.int v11), .val (.int (3 : Int32)), .val (.int p2), .val (.int p1), .val (.int p2), .unset] [(.int p1)])) := fun t k => pre74 t (st75.trans k)
      have pre76 : Lead p e below G (T75.setTop (mkF m 164 #[.val (.int p0), .val (.int p1), .val (.int p2), .val (.int p3), .val (.ref b1), .val (.int v7), .val (.int v11), .val (.int (3 : Int32)), .val (.int p2), .val (.int p1), .val (.int p2), .val (.int p1)] [(.ref b1)])) := fun t k => by
        refine pre75 t ?_
        show Steps p.tables e below (T75.setTop (mkF m 151 #[.val (.int p0), .val (.int p1), .val (.int p2), .val (.int p3), .val (.ref b1), .val (.int v7), .val (.int v11), .val (.int (3 : Int32)), .val (.int p2), .val (.int p1), .val (.int p2), .unset] [(.int p1)])) _
        refine XS.istore X75.here hx rfl (hb hby at_151) rfl (l' := #[.val (.int p0), .val (.int p1), .val (.int p2), .val (.int p3), .val (.ref b1), .val (.int v7), .val (.int v11), .val (.int (3 : Int32)), .val (.int p2), .val (.int p1), .val (.int p2), .val (.int p1)]) rfl ?_
        show Steps p.tables e below (T75.setTop (mkF m 153 #[.val (.int p0), .val (.int p1), .val (.int p2), .val (.int p3), .val (.ref b1), .val (.int v7), .val (.int v11), .val (.int (3 : Int32)), .val (.int p2), .val (.int p1), .val (.int p2), .val (.int p1)] [])) _
        refine XS.iload X75.here hx rfl (hb hby at_153) rfl ?_
        show Steps p.tables e below (T75.setTop (mkF m 155 #[.val (.int p0), .val (.int p1), .val (.int p2), .val (.int p3), .val (.ref b1), .val (.int v7), .val (.int v11), .val (.int (3 : Int32)), .val (.int p2), .val (.int p1), .val (.int p2), .val (.int p1)] [(.int p1)])) _
        refine XS.iload X75.here hx rfl (hb hby at_155) rfl ?_
        show Steps p.tables e below (T75.setTop (mkF m 157 #[.val (.int p0), .val (.int p1), .val (.int p2), .val (.int p3), .val (.ref b1), .val (.int v7), .val (.int v11), .val (.int (3 : Int32)), .val (.int p2), .val (.int p1), .val (.int p2), .val (.int p1)] [(.int p1), (.int p1)])) _
        refine XS.icmpYes X75.here hx rfl (pc0 := 157) (pc' := 162) rfl (hb hby at_157) rfl (teq rfl).1 (by decide) (by decide) ?_
        show Steps p.tables e below (T75.setTop (mkF m 162 #[.val (.int p0), .val (.int p1), .val (.int p2), .val (.int p3), .val (.ref b1), .val (.int v7), .val (.int v11), .val (.int (3 : Int32)), .val (.int p2), .val (.int p1), .val (.int p2), .val (.int p1)] [])) _
        refine XS.aload X75.here hx rfl (hb hby at_162) rfl rfl ?_
        show Steps p.tables e below (T75.setTop (mkF m 164 #[.val (.int p0), .val (.int p1), .val (.int p2), .val (.int p3), .val (.ref b1), .val (.int v7), .val (.int v11), .val (.int (3 : Int32)), .val (.int p2), .val (.int p1), .val (.int p2), .val (.int p1)] [(.ref b1)])) _
        exact k
      obtain ⟨cq77, kq77, q77a, q77b, q77c⟩ := isOf hZ rfl c75_0
      obtain ⟨_, _, ⟨T77, L77, k77, n77⟩, -, X77, ⟨Lc77, hQ77, l77, y77, z77⟩, st77⟩ := X75.virtualBack hx (y := (⟨"com/example/nonesuch/nonesuch/engine/IntList", "size", "()I"⟩ : MethodName)) (z := (⟨"com/example/nonesuch/nonesuch/engine/IntList", "size", "()I"⟩ : MethodName)) hown (mvT hZ (hw _ (List.mem_of_getElem? (i := 24) rfl))) (mvT hZ (hw _ (List.mem_of_getElem? (i := 25) rfl))) (notFace_of_selects (args := #[]) (mvT hZ (hw _ (List.mem_of_getElem? (i := 27) rfl)))) (mvT hZ (hw _ (List.mem_of_getElem? (i := 27) rfl))) (mvT hZ (hw _ (List.mem_of_getElem? (i := 26) rfl))) (by decide) (backOf (W := 0) (rm5 l Z a0 hw [] b1 (1 : Int32) T75.heap n0 (Nat.le_trans Z0 K75.1) c75_2) hZ (hw _ (List.mem_of_getElem? (i := 28) rfl)) (hw _ (List.mem_of_getElem? (i := 2) rfl)) (by decide) (by decide)) q77a q77c (g := (mkF m 164 #[.val (.int p0), .val (.int p1), .val (.int p2), .val (.int p3), .val (.ref b1), .val (.int v7), .val (.int v11), .val (.int (3 : Int32)), .val (.int p2), .val (.int p1), .val (.int p2), .val (.int p1)] [(.ref b1)])) rfl (by rw [hml]; rfl) (Steps.refl _) (argsL := []) (rest := []) (lenOf pd__28__29_I rfl) rfl (by show 2 * 0 + _ ≤ _; exact Nat.le_of_eq rfl) (hb hby at_164) (fun _ _ => ⟨rfl, rfl, (by decide : 2 + 0 ≤ _), (by decide : 10 + 0 ≤ _)⟩)
      dsimp only [Pt.U, Pt.locs, Pt.cells, Pt.slots] at X77 l77 y77 z77 st77 hQ77
      subst l77 y77 z77
      obtain ⟨rfl, N77q, e77⟩ := hQ77
      have N77 := Fr.app N75 N77q
      have pre77 : Lead p e below G (T77.setTop (mkF m 167 #[.val (.int p0), .val (.int p1), .val (.int p2), .val (.int p3), .val (.ref b1), .val (.int v7), .val (.int v11), .val (.int (3 : Int32)), .val (.int p2), .val (.int p1), .val (.int p2), .val (.int p1)] [(.int (1 : Int32))])) := fun t k => pre76 t (st77.trans k)
      have hf78 : (1 : Int32) = (1 : Int32) := (by decide)
      have hf79 : (3 : Int32) = (3 : Int32) := (by decide)
      have pre80 : Lead p e below G (T77.setTop (mkF m 185 #[.val (.int p0), .val (.int p1), .val (.int p2), .val (.int p3), .val (.ref b1), .val (.int v7), .val (.int v11), .val (.int (3 : Int32)), .val (.int p2), .val (.int p1), .val (.int p2), .val (.int p1)] [(.int (0 : Int32)), (.ref b1)])) := fun t k => by
        refine pre77 t ?_
        show Steps p.tables e below (T77.setTop (mkF m 167 #[.val (.int p0), .val (.int p1), .val (.int p2), .val (.int p3), .val (.ref b1), .val (.int v7), .val (.int v11), .val (.int (3 : Int32)), .val (.int p2), .val (.int p1), .val (.int p2), .val (.int p1)] [(.int (1 : Int32))])) _
        refine XS.iload X77.here hx rfl (hb hby at_167) rfl ?_
        show Steps p.tables e below (T77.setTop (mkF m 169 #[.val (.int p0), .val (.int p1), .val (.int p2), .val (.int p3), .val (.ref b1), .val (.int v7), .val (.int v11), .val (.int (3 : Int32)), .val (.int p2), .val (.int p1), .val (.int p2), .val (.int p1)] [(.int (3 : Int32)), (.int (1 : Int32))])) _
        refine XS.iconst X77.here hx rfl (hb hby at_169) ?_
        show Steps p.tables e below (T77.setTop (mkF m 170 #[.val (.int p0), .val (.int p1), .val (.int p2), .val (.int p3), .val (.ref b1), .val (.int v7), .val (.int v11), .val (.int (3 : Int32)), .val (.int p2), .val (.int p1), .val (.int p2), .val (.int p1)] [(.int (2 : Int32)), (.int (3 : Int32)), (.int (1 : Int32))])) _
        refine XS.isub X77.here hx rfl (hb hby at_170) rfl ?_
        show Steps p.tables e below (T77.setTop (mkF m 171 #[.val (.int p0), .val (.int p1), .val (.int p2), .val (.int p3), .val (.ref b1), .val (.int v7), .val (.int v11), .val (.int (3 : Int32)), .val (.int p2), .val (.int p1), .val (.int p2), .val (.int p1)] [(.int (1 : Int32)), (.int (1 : Int32))])) _
        refine XS.icmpYes X77.here hx rfl (pc0 := 171) (pc' := 176) rfl (hb hby at_171) rfl (teq hf78).1 (by decide) (by decide) ?_
        show Steps p.tables e below (T77.setTop (mkF m 176 #[.val (.int p0), .val (.int p1), .val (.int p2), .val (.int p3), .val (.ref b1), .val (.int v7), .val (.int v11), .val (.int (3 : Int32)), .val (.int p2), .val (.int p1), .val (.int p2), .val (.int p1)] [])) _
        refine XS.iload X77.here hx rfl (hb hby at_176) rfl ?_
        show Steps p.tables e below (T77.setTop (mkF m 178 #[.val (.int p0), .val (.int p1), .val (.int p2), .val (.int p3), .val (.ref b1), .val (.int v7), .val (.int v11), .val (.int (3 : Int32)), .val (.int p2), .val (.int p1), .val (.int p2), .val (.int p1)] [(.int (3 : Int32))])) _
        refine XS.iconst X77.here hx rfl (hb hby at_178) ?_
        show Steps p.tables e below (T77.setTop (mkF m 179 #[.val (.int p0), .val (.int p1), .val (.int p2), .val (.int p3), .val (.ref b1), .val (.int v7), .val (.int v11), .val (.int (3 : Int32)), .val (.int p2), .val (.int p1), .val (.int p2), .val (.int p1)] [(.int (3 : Int32)), (.int (3 : Int32))])) _
        refine XS.icmpNo X77.here hx rfl (hb hby at_179) rfl (teq hf79).2 ?_
        show Steps p.tables e below (T77.setTop (mkF m 182 #[.val (.int p0), .val (.int p1), .val (.int p2), .val (.int p3), .val (.ref b1), .val (.int v7), .val (.int v11), .val (.int (3 : Int32)), .val (.int p2), .val (.int p1), .val (.int p2), .val (.int p1)] [])) _
        refine XS.aload X77.here hx rfl (hb hby at_182) rfl rfl ?_
        show Steps p.tables e below (T77.setTop (mkF m 184 #[.val (.int p0), .val (.int p1), .val (.int p2), .val (.int p3), .val (.ref b1), .val (.int v7), .val (.int v11), .val (.int (3 : Int32)), .val (.int p2), .val (.int p1), .val (.int p2), .val (.int p1)] [(.ref b1)])) _
        refine XS.iconst X77.here hx rfl (hb hby at_184) ?_
        show Steps p.tables e below (T77.setTop (mkF m 185 #[.val (.int p0), .val (.int p1), .val (.int p2), .val (.int p3), .val (.ref b1), .val (.int v7), .val (.int v11), .val (.int (3 : Int32)), .val (.int p2), .val (.int p1), .val (.int p2), .val (.int p1)] [(.int (0 : Int32)), (.ref b1)])) _
        exact k
      have f82 : JV Value.int Z T75.heap wb_3 .int (8 : Int32) (updF (updF (updF (fun _ => (0 : Int32)) 0 p0) 1 p1) 2 p2) := (f73.keep K75c (ninS (Ne.symm ne3_b1_wb_3) nin0))
      obtain ⟨cq81, kq81, q81a, q81b, q81c⟩ := isOf hZ e77 c75_0
      obtain ⟨_, _, ⟨T81, L81, k81, n81⟩, -, X81, ⟨Lc81, hQ81, l81, y81, z81⟩, st81⟩ := X77.virtualBack hx (y := (⟨"com/example/nonesuch/nonesuch/engine/IntList", "get", "(I)I"⟩ : MethodName)) (z := (⟨"com/example/nonesuch/nonesuch/engine/IntList", "get", "(I)I"⟩ : MethodName)) hown (mvT hZ (hw _ (List.mem_of_getElem? (i := 34) rfl))) (mvT hZ (hw _ (List.mem_of_getElem? (i := 35) rfl))) (notFace_of_selects (args := #[]) (mvT hZ (hw _ (List.mem_of_getElem? (i := 37) rfl)))) (mvT hZ (hw _ (List.mem_of_getElem? (i := 37) rfl))) (mvT hZ (hw _ (List.mem_of_getElem? (i := 36) rfl))) (by decide) (backOf (W := 0) (rm7 l Z a0 hw [] b1 (0 : Int32) wb_3 (8 : Int32) (updF (updF (updF (fun _ => (0 : Int32)) 0 p0) 1 p1) 2 p2) T75.heap n0 (Nat.le_trans Z0 K75.1) c75_1 f82 (show ¬ (0 : Int32) < 0 ∧ (0 : Int32) < (8 : Int32) from ⟨by decide, by decide⟩)) hZ (hw _ (List.mem_of_getElem? (i := 38) rfl)) (hw _ (List.mem_of_getElem? (i := 2) rfl)) (by decide) (by decide)) q81a q81c (g := (mkF m 185 #[.val (.int p0), .val (.int p1), .val (.int p2), .val (.int p3), .val (.ref b1), .val (.int v7), .val (.int v11), .val (.int (3 : Int32)), .val (.int p2), .val (.int p1), .val (.int p2), .val (.int p1)] [(.int (0 : Int32)), (.ref b1)])) rfl (by rw [hml]; rfl) (Steps.refl _) (argsL := [(.int (0 : Int32))]) (rest := []) (lenOf pd__28_I_29_I rfl) rfl (by show 2 * 0 + _ ≤ _; exact Nat.le_of_eq rfl) (hb hby at_185) (fun _ _ => ⟨rfl, e77, (by decide : 2 + 0 ≤ _), (by decide : 10 + 0 ≤ _)⟩)
      dsimp only [Pt.U, Pt.locs, Pt.cells, Pt.slots] at X81 l81 y81 z81 st81 hQ81
      subst l81 y81 z81
      obtain ⟨rfl, N81q, e81⟩ := hQ81
      have N81 := Fr.app N77 N81q
      have pre81 : Lead p e below G (T81.setTop (mkF m 188 #[.val (.int p0), .val (.int p1), .val (.int p2), .val (.int p3), .val (.ref b1), .val (.int v7), .val (.int v11), .val (.int (3 : Int32)), .val (.int p2), .val (.int p1), .val (.int p2), .val (.int p1)] [(.int p0)])) := fun t k => pre80 t (st81.trans k)
      obtain ⟨fs, hr, hrun, hended, hW, hsame⟩ := X81.leave (v := some (.int (nar .boolean (1 : Int32)))) (fun h => by rw [Bd.returns] at h; cases h)
      subst hG
      refine ⟨_, _, pre81 _ ?_, hrun, hended, _, _, rfl, ?_, ⟨_, rfl⟩, hW, hsame.mono (by decide) (by decide)⟩
      · show Steps p.tables e below (T81.setTop (mkF m 188 #[.val (.int p0), .val (.int p1), .val (.int p2), .val (.int p3), .val (.ref b1), .val (.int v7), .val (.int v11), .val (.int (3 : Int32)), .val (.int p2), .val (.int p1), .val (.int p2), .val (.int p1)] [(.int p0)])) _
        refine XS.iloadN X81.here hx rfl (hb hby at_188) rfl ?_
        show Steps p.tables e below (T81.setTop (mkF m 189 #[.val (.int p0), .val (.int p1), .val (.int p2), .val (.int p3), .val (.ref b1), .val (.int v7), .val (.int v11), .val (.int (3 : Int32)), .val (.int p2), .val (.int p1), .val (.int p2), .val (.int p1)] [(.int p0), (.int p0)])) _
        refine XS.icmpYes X81.here hx rfl (pc0 := 189) (pc' := 194) rfl (hb hby at_189) rfl (teq rfl).1 (by decide) (by decide) ?_
        show Steps p.tables e below (T81.setTop (mkF m 194 #[.val (.int p0), .val (.int p1), .val (.int p2), .val (.int p3), .val (.ref b1), .val (.int v7), .val (.int v11), .val (.int (3 : Int32)), .val (.int p2), .val (.int p1), .val (.int p2), .val (.int p1)] [])) _
        refine XS.iconst X81.here hx rfl (hb hby at_194) ?_
        show Steps p.tables e below (T81.setTop (mkF m 195 #[.val (.int p0), .val (.int p1), .val (.int p2), .val (.int p3), .val (.ref b1), .val (.int v7), .val (.int v11), .val (.int (3 : Int32)), .val (.int p2), .val (.int p1), .val (.int p2), .val (.int p1)] [(.int (1 : Int32))])) _
        exact retN X81 hx (t := .boolean) Bd.returns (by simp) (hb hby at_195) hr
      · show Q0 Z p0 p1 p2 p3 h0 n0 _ T81.heap _
        refine ⟨congrArg (fun z => some (Value.int z)) (?_ : (nar .boolean (1 : Int32)) = 1), N81⟩
        rfl
set_option maxRecDepth 65536 in
set_option maxHeartbeats 40000000 in
theorem comes_1 {Post : Tables → Env → Array Value → State → Outcome → State → Prop} (hpost : ∀ tb e args s v u, (limb_1_1.after args s (.returned v) u = true ∧ limb_1_2.after args s (.returned v) u = true ∧ True) → FrameEnd s (.returned v) u (Jvm.fieldLocs frame_1_writes args s ++ Jvm.arrayLocs frame_1_arrays args s ++ Jvm.staticLocs frame_1_statics s) 16 128 → Post tb e args s (.returned v) u) :
    ArmFor flags0 classFile x code maxLocals ret World_1 tables_1 room_1 Calls_1 rest_1 Pre_1 Post := by
  intro l hfl _ _ p e ha hc hk s m args below hf hA hF happ hP
  obtain ⟨hcalls, hrest, hpre⟩ := hP
  obtain ⟨-, -, -, hnamed, -, -, -, hat⟩ := (Spec.applies_iff hf).mp happ
  obtain ⟨hg, hn⟩ := and_e (Cond.before_iff.mp (show (Jvm.Cond.and given_1 narrow_1).before args s = true from hpre))
  obtain ⟨g1, g2⟩ := and_e hg
  obtain ⟨g3, g4⟩ := and_e g2
  obtain ⟨g5, g6⟩ := and_e g4
  obtain ⟨g7, g8⟩ := and_e g6
  obtain ⟨w0, w1, w2, w3, rfl⟩ : ∃ w0 w1 w2 w3 : Value, args = #[w0, w1, w2, w3] := by
    have hs : args.size = 4 := by simpa [Cond.value, given_1] using g1
    obtain ⟨L⟩ := args
    match L, hs with
    | [w0, w1, w2, w3], _ => exact ⟨w0, w1, w2, w3, rfl⟩
  have hw := fun d (hd : d ∈ tables_1) => atoms_spec (ws := Jvm.Cond.code x code maxLocals ret :: tables_1) hat d (List.mem_cons_of_mem _ hd)
  obtain ⟨i0, ei0⟩ := is_v g3
  obtain rfl : w0 = (.int i0) := Option.some.inj ei0
  obtain ⟨i1, ei1⟩ := is_v g5
  obtain rfl : w1 = (.int i1) := Option.some.inj ei1
  obtain ⟨i2, ei2⟩ := is_v g7
  obtain rfl : w2 = (.int i2) := Option.some.inj ei2
  obtain ⟨i3, ei3⟩ := is_v g8
  obtain rfl : w3 = (.int i3) := Option.some.inj ei3
  obtain ⟨n, o, h1, h2, h3, _, L, rfl, ⟨rfl, N⟩, hq⟩ := rm0 l s _ hw tables_1 i0 i1 i2 i3 s.heap s.heap.size (Nat.le_refl _) p e ha hc hk s m _ below hf ((Spec.applies_iff_loose hf).mp happ).1 ⟨rfl, State.Warmed39.refl s, rfl⟩ trivial
  refine ⟨n, _, h1, h2, h3, hpost _ _ _ _ _ _ ⟨Cond.after_iff.mpr rfl, Cond.after_iff.mpr (eq_i res_at (Term.int_eval (1)) rfl), trivial⟩ ⟨hq.1, hq.2.1, (hq.2.2.sift fun y hy => Or.inr (N y hy)).mono (by decide) (by decide)⟩⟩
theorem main_1_1 : Claimed_1_1 := comes_1 fun _ _ _ _ _ _ h hF => ⟨h.1, hF⟩
theorem main_1_2 : Claimed_1_2 := comes_1 fun _ _ _ _ _ _ h hF => ⟨h.2.1, hF⟩
end Jvm.Pilot.@@N@@
namespace Jvm.Pilot.@@N@@
open Jvm Jvm.ClassFile Sem Op Lib Jvm.Free Jvm.Stand Jvm.Pilot.@@N@@.Jvm.D
/-! MADE BY PROGRAM (witnessworld.py) out of the Statement's table words and the real class files: 9 classes; the members and pool entries that the words name. The judged class is class 1, her method 1. -/
namespace start1
open Jvm.ClassFile
def u (s : String) : CpInfo := .utf8 (stringToUtf16 s)
/-- a pool by its gaps: so many unusable entries, then the entry; so many at the end -/
def gap : Nat → List CpInfo → List CpInfo
  | 0, r => r
  | n + 1, r => .unusable :: gap n r
def poolList (es : List (Nat × CpInfo)) (last : Nat) : List CpInfo := es.foldr (fun e r => gap e.1 (e.2 :: r)) (gap last [])
def pool (es : List (Nat × CpInfo)) (last : Nat) : Array CpInfo := ⟨poolList es last⟩
def fileOf (pool : Array CpInfo) (this : Nat) (attrs : Array Attribute := #[]) (ms : Array MethodInfo := #[]) (fl : Nat := 33) (sup : Nat := 0) (ifs : Array Nat := #[]) (fds : Array FieldInfo := #[]) : ClassFile where
  minorVersion := 0
  majorVersion := 65
  constantPool := pool
  accessFlags := fl
  thisClass := this
  superClass := sup
  interfaces := ifs
  fields := fds
  methods := ms
  attributes := attrs
def plain (name : String) (sup : Option ClassId) : Class where
  name := name
  kind := .ordinary
  loader := none
  accessFlags := 33
  super := sup
  interfaces := #[]
  cf := none
  fields := #[]
  methods := #[]
  instanceTypes := #[]
  staticTypes := #[]
  resolved := #[]
  callSites := []
  init := .initialized
  statics := none
  mirror := none

def pool0 : Array CpInfo := pool [(5, u "<init>"), (0, u "()V"), (1, .class_ 10), (1, u "java/lang/Object")] 113

def k0c0 : Code := { maxStack := 0, maxLocals := 1, code := object_method_1_code, exceptionTable := #[], attributes := #[] }
def k0m0 : Method := { name := "<init>", desc := "()V", sig := { parameters := [], returnType := none }, accessFlags := 1, code := some k0c0 }
/-- java/lang/Object -/
def k0 : Class := { plain "java/lang/Object" none with
  accessFlags := 33
  interfaces := #[]
  cf := some (fileOf pool0 8 #[] #[{ accessFlags := 1, nameIndex := 5, descriptorIndex := 6, attributes := #[] }] 33 0 #[] #[])
  fields := #[]
  methods := #[k0m0]
  instanceTypes := #[]
  staticTypes := #[]
  resolved := Array.replicate 124 none
  statics := none }

def pool1 : Array CpInfo := pool [(2, .class_ 4), (0, .nameAndType 5 6), (0, u "java/lang/Object"), (0, u "<init>"), (0, u "()V"), (0, .class_ 8), (0, u "com/example/nonesuch/nonesuch/engine/IntList"), (0, .methodref 7 3), (0, .methodref 7 11), (0, .nameAndType 12 13), (0, u "add"), (0, u "(I)V"), (0, .methodref 7 15), (0, .nameAndType 16 17), (0, u "removeLast"), (0, u "()I"), (0, .methodref 7 19), (0, .nameAndType 20 17), (0, u "size"), (0, .methodref 7 22), (0, .nameAndType 23 17), (0, u "last"), (0, .methodref 7 25), (0, .nameAndType 26 27), (0, u "get"), (0, u "(I)I"), (0, .class_ 29), (0, u "com/example/nonesuch/nonesuch/engine/IntListRemoveLastPinLaw"), (2, u "law"), (0, u "(IIII)Z")] 3

def k1m0 : Method := { name := "<init>", desc := "()V", sig := { parameters := [], returnType := none }, accessFlags := 1, code := none }
def k1c1 : Code := { maxStack := 3, maxLocals := 12, code := code, exceptionTable := #[], attributes := #[] }
def k1m1 : Method := { name := "law", desc := "(IIII)Z", sig := { parameters := [.int, .int, .int, .int], returnType := some .boolean }, accessFlags := 9, code := some k1c1 }
/-- com/example/nonesuch/nonesuch/engine/IntListRemoveLastPinLaw -/
def k1 : Class := { plain "com/example/nonesuch/nonesuch/engine/IntListRemoveLastPinLaw" (some 0) with
  accessFlags := 49
  interfaces := #[]
  cf := some (fileOf pool1 28 #[] #[{ accessFlags := 1, nameIndex := 5, descriptorIndex := 6, attributes := #[] }, { accessFlags := 9, nameIndex := 32, descriptorIndex := 33, attributes := #[] }] 49 2 #[] #[])
  fields := #[]
  methods := #[k1m0, k1m1]
  instanceTypes := #[]
  staticTypes := #[]
  resolved := Array.replicate 37 none
  statics := none }

def pool2 : Array CpInfo := pool [(1, .methodref 2 3), (0, .class_ 4), (0, .nameAndType 5 6), (0, u "java/lang/Object"), (0, u "<init>"), (0, u "()V"), (0, .fieldref 8 9), (0, .class_ 10), (0, .nameAndType 11 12), (0, u "com/example/nonesuch/nonesuch/engine/IntList"), (0, u "values"), (0, u "[I"), (0, .fieldref 8 14), (0, .nameAndType 15 16), (0, u "size"), (0, u "I"), (5, u "(I)V"), (13, u "EMPTY"), (0, u "Lcom/example/nonesuch/nonesuch/engine/IntList;"), (2, u "()I"), (3, u "get"), (0, u "(I)I"), (2, u "last"), (2, u "add"), (0, u "removeLast")] 7

def k2c0 : Code := { maxStack := 2, maxLocals := 1, code := prog_25_method_1_code, exceptionTable := #[], attributes := #[] }
def k2m0 : Method := { name := "<init>", desc := "()V", sig := { parameters := [], returnType := none }, accessFlags := 0, code := some k2c0 }
def k2c1 : Code := { maxStack := 1, maxLocals := 1, code := prog_25_method_2_code, exceptionTable := #[], attributes := #[] }
def k2m1 : Method := { name := "size", desc := "()I", sig := { parameters := [], returnType := some .int }, accessFlags := 0, code := some k2c1 }
def k2c2 : Code := { maxStack := 2, maxLocals := 2, code := prog_25_method_4_code, exceptionTable := #[], attributes := #[] }
def k2m2 : Method := { name := "get", desc := "(I)I", sig := { parameters := [.int], returnType := some .int }, accessFlags := 0, code := some k2c2 }
def k2c3 : Code := { maxStack := 3, maxLocals := 1, code := prog_25_method_6_code, exceptionTable := #[], attributes := #[] }
def k2m3 : Method := { name := "last", desc := "()I", sig := { parameters := [], returnType := some .int }, accessFlags := 0, code := some k2c3 }
def k2c4 : Code := { maxStack := 5, maxLocals := 2, code := prog_25_method_8_code, exceptionTable := #[], attributes := #[] }
def k2m4 : Method := { name := "add", desc := "(I)V", sig := { parameters := [.int], returnType := none }, accessFlags := 0, code := some k2c4 }
def k2c5 : Code := { maxStack := 4, maxLocals := 1, code := prog_25_method_9_code, exceptionTable := #[], attributes := #[] }
def k2m5 : Method := { name := "removeLast", desc := "()I", sig := { parameters := [], returnType := some .int }, accessFlags := 0, code := some k2c5 }
/-- com/example/nonesuch/nonesuch/engine/IntList -/
def k2 : Class := { plain "com/example/nonesuch/nonesuch/engine/IntList" (some 0) with
  accessFlags := 48
  interfaces := #[]
  cf := some (fileOf pool2 8 #[] #[{ accessFlags := 0, nameIndex := 5, descriptorIndex := 6, attributes := #[] }, { accessFlags := 0, nameIndex := 15, descriptorIndex := 40, attributes := #[] }, { accessFlags := 0, nameIndex := 44, descriptorIndex := 45, attributes := #[] }, { accessFlags := 0, nameIndex := 48, descriptorIndex := 40, attributes := #[] }, { accessFlags := 0, nameIndex := 51, descriptorIndex := 22, attributes := #[] }, { accessFlags := 0, nameIndex := 52, descriptorIndex := 40, attributes := #[] }] 48 2 #[] #[{ accessFlags := 24, nameIndex := 36, descriptorIndex := 37, attributes := #[] }, { accessFlags := 2, nameIndex := 11, descriptorIndex := 12, attributes := #[] }, { accessFlags := 2, nameIndex := 15, descriptorIndex := 16, attributes := #[] }])
  fields := #[{ name := "EMPTY", type := (.object "com/example/nonesuch/nonesuch/engine/IntList"), accessFlags := 24, slot := 0, constantValue := 0 }, { name := "values", type := (.array .int), accessFlags := 2, slot := 0, constantValue := 0 }, { name := "size", type := .int, accessFlags := 2, slot := 1, constantValue := 0 }]
  methods := #[k2m0, k2m1, k2m2, k2m3, k2m4, k2m5]
  instanceTypes := #[(.array .int), .int]
  staticTypes := #[(.object "com/example/nonesuch/nonesuch/engine/IntList")]
  resolved := Array.replicate 60 none
  statics := none }

def pool3 : Array CpInfo := pool [(1, u "java/lang/Cloneable"), (0, .class_ 1), (0, u "java/lang/Object"), (0, .class_ 3)] 3

/-- java/lang/Cloneable -/
def k3 : Class := { plain "java/lang/Cloneable" (some 0) with
  accessFlags := 1537
  interfaces := #[]
  cf := some (fileOf pool3 2 #[] #[] 1537 4 #[] #[])
  fields := #[]
  methods := #[]
  instanceTypes := #[]
  staticTypes := #[]
  resolved := Array.replicate 8 none
  statics := none }

def pool4 : Array CpInfo := pool [(1, u "java/io/Serializable"), (0, .class_ 1), (0, u "java/lang/Object"), (0, .class_ 3)] 3

/-- java/io/Serializable -/
def k4 : Class := { plain "java/io/Serializable" (some 0) with
  accessFlags := 1537
  interfaces := #[]
  cf := some (fileOf pool4 2 #[] #[] 1537 4 #[] #[])
  fields := #[]
  methods := #[]
  instanceTypes := #[]
  staticTypes := #[]
  resolved := Array.replicate 8 none
  statics := none }

/-- the primitive byte -/
def k5 : Class := { plain "byte" none with kind := .primitive 'B', accessFlags := 0x411 }
/-- [B -/
def k6 : Class := { plain "[B" (some 0) with kind := .array 5 .byte, interfaces := #[3, 4], accessFlags := 1041 }

/-- the primitive int -/
def k7 : Class := { plain "int" none with kind := .primitive 'I', accessFlags := 0x411 }
/-- [I -/
def k8 : Class := { plain "[I" (some 0) with kind := .array 7 .int, interfaces := #[3, 4], accessFlags := 1041 }

def heap : Heap := #[]
def classes : Array Class := #[k0, k1, k2, k3, k4, k5, k6, k7, k8]
def interned : List (Array UInt16 × Addr) := []
def slotsUsed : Nat := 0
def theMethod : MethodId := ⟨1, 1⟩
def args0 : Array Value := #[.int 5, .int 9, .int 2, .int 3]
def aboutOver (below : List Frame) : State where
  vm := { classes := classes, interned := interned.toArray }
  heap := heap
  slotsUsed := slotsUsed
  threads := #[{ frames := .invoking theMethod args0 :: below }]
def below0 : List Frame := [.native { method := ⟨0, 0⟩, args := #[] }]
def about1 : State := aboutOver below0
def p0 : Program := .bare "" "" ""
def e0 : Env := launch0.env 0 0 0
theorem w_frames : about1.frames = Frame.invoking theMethod args0 :: below0 := rfl
set_option maxRecDepth 65536 in
theorem w_args : argsFit about1.vm theMethod args0 = true := by decide +kernel
set_option maxRecDepth 65536 in
theorem w_heap : heapFits about1 = true := by decide +kernel
set_option maxRecDepth 65536 in
theorem w_runnable : about1.curStatus? = some .runnable := by decide +kernel
set_option maxRecDepth 65536 in
theorem w_alone : about1.alone = true := by decide +kernel
set_option maxRecDepth 65536 in
theorem w_named : about1.methodNamed? x = some theMethod := by decide +kernel
set_option maxRecDepth 65536 in
theorem w_hears : about1.hears theMethod below0 = true := by decide +kernel
set_option maxRecDepth 65536 in
theorem w_ripe : about1.ripe theMethod args0 below0 = true := by decide +kernel
theorem w_running : about1.status = .running := rfl
set_option maxRecDepth 65536 in
theorem w_room : about1.hasRoom e0.platform room_1 = true :=
  launch0.hasRoom_least _ room_1 (by decide +kernel) (by decide +kernel) (by decide +kernel) (by decide +kernel) (by decide +kernel) (by decide +kernel)
theorem allAtoms_all (ts : List Jvm.Cond) (a : Array Jvm.Value) (st : Jvm.State) : (allAtoms ts).before a st = ts.all (fun c => c.before a st) := by
  induction ts with
  | nil => rfl
  | cons c t ih =>
    show (Jvm.Cond.and c (allAtoms t)).before a st = _
    rw [Jvm.Cond.before_and, ih, List.all_cons]
def words1 : List Jvm.Cond := Jvm.Cond.code x code maxLocals ret :: tables_1
/-- a 'code' word, met by the world's own term for the bytes: nothing is compared byte by byte -/
theorem code_word {y : MethodName} {bytes : ByteArray} {mx : Nat} {rt : Option FieldType} {a : Array Value} {s : State} {m : MethodId} {meth : Method} {c : Code} (h1 : s.methodNamed? y = some m) (h2 : s.vm.method? m = some meth) (h3 : meth.code = some c) (h4 : c.code = bytes)
    (h5 : (c.maxLocals == mx && c.exceptionTable.isEmpty && decide (c.maxStack ≤ mostOperands) && decide (meth.sig.returnType = rt) && !meth.locks && decide (parseMethodDescriptor y.desc = some meth.sig)) = true) : (Jvm.Cond.code y bytes mx rt).before a s = true := by
  simp only [Bool.and_eq_true, beq_iff_eq, Bool.not_eq_true', decide_eq_true_eq] at h5
  obtain ⟨⟨⟨⟨⟨g1, g2⟩, g3⟩, g4⟩, g5⟩, g6⟩ := h5
  simp [Cond.before, Cond.holds, Cond.value, h1, h2, h3, h4, g1, g2, g3, g4, g5, g6]
def isCode : Jvm.Cond → Bool
  | .code _ _ _ _ => true
  | _ => false
theorem all_split {L : List Jvm.Cond} {P : Jvm.Cond → Bool} (h1 : L.all (fun c => isCode c || P c) = true) (h2 : ∀ c ∈ L.filter isCode, P c = true) : L.all P = true := by
  refine List.all_eq_true.mpr fun c hc => ?_
  have h := List.all_eq_true.mp h1 c hc
  rcases Bool.eq_false_or_eq_true (isCode c) with hi | hi
  · exact h2 c (List.mem_filter.mpr ⟨hc, hi⟩)
  · simpa [hi] using h
set_option maxRecDepth 65536 in
theorem w_c0 : (Jvm.Cond.code x code maxLocals ret).before args0 about1 = true := code_word (m := ⟨1, 1⟩) (meth := k1m1) (c := k1c1) (by decide +kernel) rfl rfl rfl (by decide +kernel)
set_option maxRecDepth 65536 in
theorem w_c1 : (Jvm.Cond.code ({ cls := "com/example/nonesuch/nonesuch/engine/IntList", name := "<init>", desc := "()V" } : Jvm.MethodName) prog_25_method_1_code (1 : Nat) (Option.none : Option Jvm.ClassFile.FieldType)).before args0 about1 = true := code_word (m := ⟨2, 0⟩) (meth := k2m0) (c := k2c0) (by decide +kernel) rfl rfl rfl (by decide +kernel)
set_option maxRecDepth 65536 in
theorem w_c2 : (Jvm.Cond.code ({ cls := "java/lang/Object", name := "<init>", desc := "()V" } : Jvm.MethodName) object_method_1_code (1 : Nat) (Option.none : Option Jvm.ClassFile.FieldType)).before args0 about1 = true := code_word (m := ⟨0, 0⟩) (meth := k0m0) (c := k0c0) (by decide +kernel) rfl rfl rfl (by decide +kernel)
set_option maxRecDepth 65536 in
theorem w_c3 : (Jvm.Cond.code ({ cls := "com/example/nonesuch/nonesuch/engine/IntList", name := "add", desc := "(I)V" } : Jvm.MethodName) prog_25_method_8_code (2 : Nat) (Option.none : Option Jvm.ClassFile.FieldType)).before args0 about1 = true := code_word (m := ⟨2, 4⟩) (meth := k2m4) (c := k2c4) (by decide +kernel) rfl rfl rfl (by decide +kernel)
set_option maxRecDepth 65536 in
theorem w_c4 : (Jvm.Cond.code ({ cls := "com/example/nonesuch/nonesuch/engine/IntList", name := "removeLast", desc := "()I" } : Jvm.MethodName) prog_25_method_9_code (1 : Nat) (Option.some Jvm.ClassFile.FieldType.int)).before args0 about1 = true := code_word (m := ⟨2, 5⟩) (meth := k2m5) (c := k2c5) (by decide +kernel) rfl rfl rfl (by decide +kernel)
set_option maxRecDepth 65536 in
theorem w_c5 : (Jvm.Cond.code ({ cls := "com/example/nonesuch/nonesuch/engine/IntList", name := "size", desc := "()I" } : Jvm.MethodName) prog_25_method_2_code (1 : Nat) (Option.some Jvm.ClassFile.FieldType.int)).before args0 about1 = true := code_word (m := ⟨2, 1⟩) (meth := k2m1) (c := k2c1) (by decide +kernel) rfl rfl rfl (by decide +kernel)
set_option maxRecDepth 65536 in
theorem w_c6 : (Jvm.Cond.code ({ cls := "com/example/nonesuch/nonesuch/engine/IntList", name := "last", desc := "()I" } : Jvm.MethodName) prog_25_method_6_code (1 : Nat) (Option.some Jvm.ClassFile.FieldType.int)).before args0 about1 = true := code_word (m := ⟨2, 3⟩) (meth := k2m3) (c := k2c3) (by decide +kernel) rfl rfl rfl (by decide +kernel)
set_option maxRecDepth 65536 in
theorem w_c7 : (Jvm.Cond.code ({ cls := "com/example/nonesuch/nonesuch/engine/IntList", name := "get", desc := "(I)I" } : Jvm.MethodName) prog_25_method_4_code (2 : Nat) (Option.some Jvm.ClassFile.FieldType.int)).before args0 about1 = true := code_word (m := ⟨2, 2⟩) (meth := k2m2) (c := k2c2) (by decide +kernel) rfl rfl rfl (by decide +kernel)
def codes1 : List Jvm.Cond := [Jvm.Cond.code x code maxLocals ret, Jvm.Cond.code ({ cls := "com/example/nonesuch/nonesuch/engine/IntList", name := "<init>", desc := "()V" } : Jvm.MethodName) prog_25_method_1_code (1 : Nat) (Option.none : Option Jvm.ClassFile.FieldType), Jvm.Cond.code ({ cls := "java/lang/Object", name := "<init>", desc := "()V" } : Jvm.MethodName) object_method_1_code (1 : Nat) (Option.none : Option Jvm.ClassFile.FieldType), Jvm.Cond.code ({ cls := "com/example/nonesuch/nonesuch/engine/IntList", name := "add", desc := "(I)V" } : Jvm.MethodName) prog_25_method_8_code (2 : Nat) (Option.none : Option Jvm.ClassFile.FieldType), Jvm.Cond.code ({ cls := "com/example/nonesuch/nonesuch/engine/IntList", name := "removeLast", desc := "()I" } : Jvm.MethodName) prog_25_method_9_code (1 : Nat) (Option.some Jvm.ClassFile.FieldType.int), Jvm.Cond.code ({ cls := "com/example/nonesuch/nonesuch/engine/IntList", name := "size", desc := "()I" } : Jvm.MethodName) prog_25_method_2_code (1 : Nat) (Option.some Jvm.ClassFile.FieldType.int), Jvm.Cond.code ({ cls := "com/example/nonesuch/nonesuch/engine/IntList", name := "last", desc := "()I" } : Jvm.MethodName) prog_25_method_6_code (1 : Nat) (Option.some Jvm.ClassFile.FieldType.int), Jvm.Cond.code ({ cls := "com/example/nonesuch/nonesuch/engine/IntList", name := "get", desc := "(I)I" } : Jvm.MethodName) prog_25_method_4_code (2 : Nat) (Option.some Jvm.ClassFile.FieldType.int)]
set_option maxRecDepth 65536 in
theorem codes_eq : words1.filter isCode = codes1 := rfl
theorem w_codes : ∀ c ∈ words1.filter isCode, c.before args0 about1 = true := by
  rw [codes_eq]
  intro c hc
  simp only [codes1, List.mem_cons, List.not_mem_nil, or_false] at hc
  rcases hc with rfl | rfl | rfl | rfl | rfl | rfl | rfl | rfl
  · exact w_c0
  · exact w_c1
  · exact w_c2
  · exact w_c3
  · exact w_c4
  · exact w_c5
  · exact w_c6
  · exact w_c7
set_option maxRecDepth 65536 in
theorem w_t1 : (words1.take 24).all (fun c => isCode c || c.before args0 about1) = true := by decide +kernel
set_option maxRecDepth 65536 in
theorem w_t2 : (words1.drop 24).all (fun c => isCode c || c.before args0 about1) = true := by decide +kernel
theorem w_tables : (allAtoms (Jvm.Cond.code x code maxLocals ret :: tables_1)).before args0 about1 = true := by
  rw [allAtoms_all]
  show words1.all (fun c => c.before args0 about1) = true
  refine all_split ?_ w_codes
  rw [← List.take_append_drop 24 words1, List.all_append, w_t1, w_t2]
  rfl
set_option maxRecDepth 65536 in
theorem w_case : (Jvm.Cond.and given_1 narrow_1).before args0 about1 = true := by decide +kernel
theorem w_applies : (headSpec (Jvm.Cond.code x code maxLocals ret :: tables_1) room_1).applies x e0.platform about1 = true :=
  (Spec.applies_iff w_frames).mpr ⟨w_running, w_runnable, w_alone, w_named, w_hears, w_ripe, w_room, w_tables⟩
theorem atStart : AtStart classFile x code maxLocals ret World_1 tables_1 room_1 Calls_1 rest_1 Pre_1 launch0 p0 e0 about1 theMethod args0 below0 :=
  ⟨lists_1, trivial, launch0.admits_env _ _ _, launch0.least_env, fairChoices_fair.cas, fairChoices_fair.clock, w_frames, w_args, w_heap, w_applies, trivial, trivial, w_case⟩
end start1
theorem witness_1 : WitnessClaimed_1 := ⟨start1.p0, start1.e0, start1.about1, start1.theMethod, start1.args0, start1.below0, start1.atStart⟩
end Jvm.Pilot.@@N@@

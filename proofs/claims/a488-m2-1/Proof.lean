import JvmDerived
import JvmDerived.Pilot.@@N@@Statement
import JvmDerived.Pilot.@@N@@Code
set_option linter.unusedVariables false
set_option linter.unusedSimpArgs false
@@BLOCK:NumsL.lean.txt@@
@@BLOCK:Masks.lean.txt@@
namespace Jvm.RoadKit
open Sem ClassFile Op Lib Jvm.Stand Jvm.Free Jvm.LawKit
section New
variable {p : Program} {l : Launch} {e : Env} {R : Room} {s : State} {m : MethodId} {args : Array Value} {below : List Frame} {meth : Method} {c : Code} {T : State} {locs : List Loc} {cells slots : Nat}
theorem retI (X : Stand p l e R s m args below meth c T locs cells slots) (hx : p.tables.exec = Jvm.exec) {pc : Nat} {Ls : Array Slot} {z : Int32} {rest : List Value} (hret : meth.sig.returnType = some .int) (hd : decode c.code pc = .ok (.ireturn, 1)) {fs : List Frame}
    (hl : ∀ (f : JFrame) (acts : List Action), f.method = m → f.locked = none → f.entered = [] → (doReturn e (T.setTop f) acts (some (.int z))).1 = T.setFrames fs) : Steps p.tables e below (T.setTop (mkF m pc Ls (.int z :: rest))) (T.setFrames fs) := by
  have hm' : T.vm.method? m = some meth := X.method'
  have hn : narrow .int (.int z) = .int z := rfl
  show Steps p.tables e below (T.setTop { method := m, pc := pc, locals := Ls, stack := _ :: rest, locked := none }) _
  jvm_step X.here [X.here.top, hx, hd, hm', hret, hn]
  first | (intro acts; rw [hl _ acts rfl rfl rfl]) | rw [hl _ _ rfl rfl rfl]
  exact Steps.refl _
theorem retJ (X : Stand p l e R s m args below meth c T locs cells slots) (hx : p.tables.exec = Jvm.exec) {pc : Nat} {Ls : Array Slot} {z : Int64} {rest : List Value} (hret : meth.sig.returnType = some .long) (hd : decode c.code pc = .ok (.lreturn, 1)) {fs : List Frame}
    (hl : ∀ (f : JFrame) (acts : List Action), f.method = m → f.locked = none → f.entered = [] → (doReturn e (T.setTop f) acts (some (.long z))).1 = T.setFrames fs) : Steps p.tables e below (T.setTop (mkF m pc Ls (.long z :: rest))) (T.setFrames fs) := by
  have hm' : T.vm.method? m = some meth := X.method'
  have hn : narrow .long (.long z) = .long z := rfl
  show Steps p.tables e below (T.setTop { method := m, pc := pc, locals := Ls, stack := _ :: rest, locked := none }) _
  jvm_step X.here [X.here.top, hx, hd, hm', hret, hn]
  first | (intro acts; rw [hl _ acts rfl rfl rfl]) | rw [hl _ _ rfl rfl rfl]
  exact Steps.refl _
end New
theorem own_ite {α : Type} {P : Prop} [Decidable P] {f : α → Prop} {a b : α} (ha : f a) (hb : f b) : f (if P then a else b) := by split <;> assumption
theorem own_lc_eq {x y : Int64} : lcmpW x y = 0 ↔ x = y := by rw [lcW]; exact lc_eq x y
theorem own_lc_lt {x y : Int64} : lcmpW x y < 0 ↔ x < y := by rw [lcW]; exact lc_lt x y
theorem own_lc_gt {x y : Int64} : 0 < lcmpW x y ↔ y < x := by rw [lcW]; exact lc_gt x y
end Jvm.RoadKit
namespace Jvm.RoadKit
open Sem ClassFile Op Lib Jvm.Stand Jvm.Free Jvm.LawKit
section Own
variable {Z : State} {h h' : Heap} {a b : Addr} {ty : FieldType} {n j : Int32} {sl : Nat} {v : Value} {ws : List Addr} {α : Type} {mk : α → Value} {g : Nat → α} {w : α}
/-- an array: its kind, its length and, by a function, what it holds -/
def JV (mk : α → Value) (Z : State) (h : Heap) (a : Addr) (ty : FieldType) (n : Int32) (g : Nat → α) : Prop := ∃ c : Cell, Arr Z h a c ty ∧ c.slots.size = n.toNatClampNeg ∧ ¬ n < 0 ∧ ∀ i, i < c.slots.size → c.slots[i]? = some (mk (g i))
def updF (g : Nat → α) (k : Nat) (w : α) : Nat → α := fun i => if i = k then w else g i
theorem JV.lt (F : JV mk Z h a ty n g) : a < h.size := by obtain ⟨c, A, -⟩ := F; exact A.lt
theorem JV.ext (F : JV mk Z h a ty n g) (E : Ext h h') : JV mk Z h' a ty n g := by obtain ⟨c, A, r⟩ := F; exact ⟨c, A.ext E, r⟩
theorem JV.other (F : JV mk Z h b ty n g) (W : Wr h h' a sl v) (q : b ≠ a) : JV mk Z h' b ty n g := by obtain ⟨c, A, r⟩ := F; exact ⟨c, A.other W q, r⟩
theorem JV.keep (F : JV mk Z h a ty n g) (K : Keep h h' ws) (q : a ∉ ws) : JV mk Z h' a ty n g := by obtain ⟨c, A, r⟩ := F; exact ⟨c, ⟨K.2.1 a c A.1 q, A.2⟩, r⟩
theorem JV.new {k : ClassId} (A : Arr Z h a (newA k ty n) ty) (q : ¬ n < 0) (w : α) (hd : defaultValue ty = mk w) : JV mk Z h a ty n (fun _ => w) := by
  obtain ⟨c, A', -, S, N, H, -⟩ := Arv.new A q
  exact ⟨c, A', S, N, fun i hi => by rw [H i hi, hd]; rfl⟩
theorem JV.in (F : JV mk Z h a ty n g) (q : ¬ j < 0 ∧ j < n) : ∃ c : Cell, Arr Z h a c ty ∧ ¬ (j < 0 ∨ c.slots.size ≤ j.toNatClampNeg) ∧ c.slots[j.toNatClampNeg]? = some (mk (g j.toNatClampNeg)) := by
  obtain ⟨c, A, S, N, H⟩ := F
  have hin := inb_of S q
  exact ⟨c, A, hin, H _ (Nat.lt_of_not_le fun y => hin (Or.inr y))⟩
theorem JV.len (F : JV mk Z h a ty n g) : ∃ c : Cell, Arr Z h a c ty ∧ c.slots.size.toInt32 = n := by
  obtain ⟨c, A, S, N, H⟩ := F
  exact ⟨c, A, len_of S N⟩
theorem JV.nn (F : JV mk Z h a ty n g) : ¬ n < 0 := by obtain ⟨c, A, S, N, H⟩ := F; exact N
theorem JV.set (F : JV mk Z h a ty n g) (W : Wr h h' a j.toNatClampNeg (mk w)) : JV mk Z h' a ty n (updF g j.toNatClampNeg w) := by
  obtain ⟨c, A, S, N, H⟩ := F
  refine ⟨_, A.same W, ?_, N, ?_⟩
  · rw [← S]; simp [Cell.setSlot]
  · intro i hi
    have hi' : i < c.slots.size := by simpa [Cell.setSlot] using hi
    obtain ⟨cell, h1, -, h3, rfl⟩ := W
    cases A.1.symm.trans h1
    by_cases e : i = j.toNatClampNeg
    · subst e; simp [Cell.setSlot, updF, hi']
    · rw [show (c.setSlot j.toNatClampNeg (mk w)).slots[i]? = c.slots[i]? from by simp [Cell.setSlot, Array.getElem?_setIfInBounds, Ne.symm e], H i hi']
      simp [updF, e]
theorem own_selp {s : State} {a0 args : Array Value} {y : MethodName} {k : Nat} (hZ : Z.Warmed39 s.vm) (wi : (Cond.instantiable y.cls k).before a0 Z = true) (wp : (Cond.privateMethod y).before a0 Z = true) (wm : (Cond.instanceMethod y).before a0 Z = true) (hy : y.cls ≠ "java/lang/invoke/MethodHandle" ∧ y.cls ≠ "java/lang/invoke/VarHandle") : (Cond.selects y.cls y y).before args s = true := by
  obtain ⟨c, q, h1, h2, h3, h4, -⟩ := Cond.instantiable_spec (mvT (args := args) hZ wi)
  have hi : q.isInterface = false := by
    cases hq : q.isInterface with
    | false => rfl
    | true => simp [hq] at h4
  exact selects_self_of_private h1 h2 hi (Cond.privateMethod_at (mvP hZ wp (args := #[]))) (mvT hZ wm) hy
end Own
end Jvm.RoadKit
namespace Jvm.Pilot.@@N@@
open Jvm Jvm.ClassFile Sem Op Lib Jvm.Free Jvm.Stand Jvm.LawKit Jvm.RoadKit Bundle Jvm.Pilot.@@N@@.Jvm.D
def Lead (p : Program) (e : Env) (below : List Frame) (A B : State) : Prop := ∀ t, Steps p.tables e below B t → Steps p.tables e below A t
theorem d1_0 : decode method_3_code 0 = .ok (.iload_n 1, 1) := by decide +kernel
theorem d1_1 : decode method_3_code 1 = .ok (.ifCond .eq 10, 3) := by decide +kernel
theorem d1_4 : decode method_3_code 4 = .ok (.iload_n 0, 1) := by decide +kernel
theorem d1_5 : decode method_3_code 5 = .ok (.bipush 7, 2) := by decide +kernel
theorem d1_7 : decode method_3_code 7 = .ok (.iand, 1) := by decide +kernel
theorem d1_8 : decode method_3_code 8 = .ok (.goto 7, 3) := by decide +kernel
theorem d1_11 : decode method_3_code 11 = .ok (.iload_n 0, 1) := by decide +kernel
theorem d1_12 : decode method_3_code 12 = .ok (.ldc 31, 2) := by decide +kernel
theorem d1_14 : decode method_3_code 14 = .ok (.iand, 1) := by decide +kernel
theorem d1_15 : decode method_3_code 15 = .ok (.ireturn, 1) := by decide +kernel
def F1 (p0 : Int32) (p1 : Int32) : Int32 := let v4 : Int32 := (if p1 = (0 : Int32) then (p0 &&& (2147483647 : Int32)) else (p0 &&& (7 : Int32))); v4
theorem aux1_5 (p0 : Int32) (p1 : Int32) (v4 : Int32) (hv4 : v4 = (if p1 = (0 : Int32) then (p0 &&& (2147483647 : Int32)) else (p0 &&& (7 : Int32))))  : v4 = F1 p0 p1 := by
  subst hv4
  rfl
theorem pn_com_example_processionary_processionary_automata_IntSetMembersPinLaw : plainName "com/example/processionary/processionary/automata/IntSetMembersPinLaw" = true := by first | (simp [plainName, overriddenIn]; done) | decide +kernel
theorem ef_1 (m : MethodId) (p0 : Int32) (p1 : Int32) : entryFrame m #[(.int p0), (.int p1)] 2 = mkF m 0 #[.val (.int p0), .val (.int p1)] [] := by first | (simp [entryFrame, mkF, argsToLocals, Value.category]; done) | rfl
def Q1 (Z : State) (p0 : Int32) (p1 : Int32)  (h0 : Heap) (n0 : Nat) (v : Option Value) (h : Heap) (L : List Loc) : Prop := v = some (.int (F1 p0 p1)) ∧ Fr n0 L ∧ h = h0
set_option maxRecDepth 65536 in
set_option maxHeartbeats 40000000 in
theorem rm1 (l : Launch) (Z : State) (a0 : Array Value) (hw : ∀ d ∈ tables_1, d.before a0 Z = true) (ws : List Jvm.Cond) (p0 : Int32) (p1 : Int32)  (h0 : Heap) (n0 : Nat) (Z0 : n0 ≤ h0.size)  :
    MetFree l (⟨"com/example/processionary/processionary/automata/IntSetMembersPinLaw", "pick", "(IZ)I"⟩ : MethodName) (head1 (Jvm.Cond.code (⟨"com/example/processionary/processionary/automata/IntSetMembersPinLaw", "pick", "(IZ)I"⟩ : MethodName) method_3_code 2 (some .int) :: ws) ({ frames := 0, cells := 0, slots := 0, locals := 0 } : Room)) (fun a U => a = #[(.int p0), (.int p1)] ∧ Z.Warmed39 U.vm ∧ U.heap = h0) (fun _ _ _ _ _ => True) (fun _ U o U' => ∃ v L, o = .returned v ∧ Q1 Z p0 p1 h0 n0 v U'.heap L ∧ FrameEnd U o U' L ({ frames := 0, cells := 0, slots := 0, locals := 0 } : Room).cells ({ frames := 0, cells := 0, slots := 0, locals := 0 } : Room).slots) := by
  refine MetFree.of_bodySF (plainFor_of_name pn_com_example_processionary_processionary_automata_IntSetMembersPinLaw) hisR ?_
  intro p e s m args below meth c s₁ Bd hml0 hP hK
  obtain ⟨rfl, hZ, hh⟩ := hP
  have hx := Bd.exec
  have hby := Bd.bytes
  have hml : c.maxLocals = 2 := hml0
  have hown : s.vm.findClass "com/example/processionary/processionary/automata/IntSetMembersPinLaw" = some m.cls := findClass_of_methodNamed Bd.named
  have hnm := (name_of_methodNamed Bd.named Bd.method).1
  have X0 : Stand p l e ({ frames := 0, cells := 0, slots := 0, locals := 0 } : Room) s m #[(.int p0), (.int p1)] below meth c s₁ [] 0 0 := Stand.of_body Bd
  have e0 : s₁.heap = h0 := by rw [← hh, Bd.state]; rfl
  have N0 := Fr.nil n0
  have K0 : Keep h0 h0 [] := Keep.refl _ _
  obtain ⟨G, hG⟩ : ∃ z, z = s₁.setTop (entryFrame m #[(.int p0), (.int p1)] 2) := ⟨_, rfl⟩
  have pre0 : Lead p e below G (s₁.setTop (mkF m 0 #[.val (.int p0), .val (.int p1)] [])) := fun t k => by rw [hG]; exact castTop (ef_1 m p0 p1) k
  have pre3 : Lead p e below G (s₁.setTop (mkF m 15 #[.val (.int p0), .val (.int p1)] [(.int (if p1 = (0 : Int32) then (p0 &&& (2147483647 : Int32)) else (p0 &&& (7 : Int32))))])) := fun t k => by
    refine pre0 t ?_
    show Steps p.tables e below (s₁.setTop (mkF m 0 #[.val (.int p0), .val (.int p1)] [])) _
    refine XS.iloadN X0.here hx rfl (hb hby d1_0) rfl ?_
    show Steps p.tables e below (s₁.setTop (mkF m 1 #[.val (.int p0), .val (.int p1)] [(.int p1)])) _
    have j2 : ∀ t, Steps p.tables e below (s₁.setTop (mkF m 15 #[.val (.int p0), .val (.int p1)] [(.int (if p1 = (0 : Int32) then (p0 &&& (2147483647 : Int32)) else (p0 &&& (7 : Int32))))])) t → Steps p.tables e below (s₁.setTop (mkF m 1 #[.val (.int p0), .val (.int p1)] [(.int p1)])) t := fun t k => by
      by_cases hc1_1 : p1 = (0 : Int32)
      · simp only [if_pos hc1_1] at k
        refine XS.ifYes X0.here hx rfl (pc0 := 1) (pc' := 11) rfl (hb hby d1_1) rfl ((if0 _ _).trans (teq hc1_1).1) (by decide) (by decide) ?_
        refine XS.iloadN X0.here hx rfl (hb hby d1_11) rfl ?_
        refine X0.ldcInt hx hown (mvT hZ (hw _ (List.mem_of_getElem? (i := 4) rfl))) (g := (mkF m 12 #[.val (.int p0), .val (.int p1)] [(.int p0)])) rfl (hb hby d1_12) _ ?_
        show Steps p.tables e below (s₁.setTop (mkF m 14 #[.val (.int p0), .val (.int p1)] [(.int (2147483647 : Int32)), (.int p0)])) _
        refine XS.iand X0.here hx rfl (hb hby d1_14) rfl ?_
        show Steps p.tables e below (s₁.setTop (mkF m 15 #[.val (.int p0), .val (.int p1)] [(.int (p0 &&& (2147483647 : Int32)))])) _
        exact k
      · simp only [if_neg hc1_1] at k
        refine XS.ifNo X0.here hx rfl (hb hby d1_1) rfl ((if0 _ _).trans (feq hc1_1).1) ?_
        refine XS.iloadN X0.here hx rfl (hb hby d1_4) rfl ?_
        refine XS.bipush X0.here hx rfl (hb hby d1_5) ?_
        show Steps p.tables e below (s₁.setTop (mkF m 7 #[.val (.int p0), .val (.int p1)] [(.int (7 : Int32)), (.int p0)])) _
        refine XS.iand X0.here hx rfl (hb hby d1_7) rfl ?_
        refine XS.goto X0.here hx rfl (pc0 := 8) (pc' := 15) rfl (hb hby d1_8) (by decide) (by decide) ?_
        exact k
    refine j2 _ ?_
    show Steps p.tables e below (s₁.setTop (mkF m 15 #[.val (.int p0), .val (.int p1)] [(.int (if p1 = (0 : Int32) then (p0 &&& (2147483647 : Int32)) else (p0 &&& (7 : Int32))))])) _
    exact k
  obtain ⟨v4, hv4⟩ : ∃ z : Int32, z = (if p1 = (0 : Int32) then (p0 &&& (2147483647 : Int32)) else (p0 &&& (7 : Int32))) := ⟨_, rfl⟩
  have pre4 : Lead p e below G (s₁.setTop (mkF m 15 #[.val (.int p0), .val (.int p1)] [(.int v4)])) := by rw [hv4]; exact pre3
  obtain ⟨fs, hr, hrun, hended, hW, hsame⟩ := X0.leave (v := some (.int v4)) (fun h => by rw [Bd.returns] at h; cases h)
  have preF : Lead p e below (s₁.setTop (entryFrame m #[(.int p0), (.int p1)] 2)) (s₁.setTop (mkF m 15 #[.val (.int p0), .val (.int p1)] [(.int v4)])) := by rw [← hG]; exact pre4
  refine ⟨_, _, preF _ ?_, hrun, hended, _, _, rfl, ?_, ⟨_, rfl⟩, hW, hsame.mono (by decide) (by decide)⟩
  · show Steps p.tables e below (s₁.setTop (mkF m 15 #[.val (.int p0), .val (.int p1)] [(.int v4)])) _
    exact retI X0 hx Bd.returns (hb hby d1_15) hr
  · show Q1 Z p0 p1 h0 n0 _ s₁.heap _
    rw [e0]
    have hv_ : v4 = F1 p0 p1 := (aux1_5 p0 p1 v4 hv4)
    exact ⟨congrArg (fun z => some (Value.int z)) hv_, N0, rfl⟩
theorem d9_0 : decode method_4_code 0 = .ok (.iload 4, 2) := by decide +kernel
theorem d9_2 : decode method_4_code 2 = .ok (.ifCond .eq 11, 3) := by decide +kernel
theorem d9_5 : decode method_4_code 5 = .ok (.iload_n 0, 1) := by decide +kernel
theorem d9_6 : decode method_4_code 6 = .ok (.iload 5, 2) := by decide +kernel
theorem d9_8 : decode method_4_code 8 = .ok (.if_icmp .ne 5, 3) := by decide +kernel
theorem d9_11 : decode method_4_code 11 = .ok (.iconst 0, 1) := by decide +kernel
theorem d9_12 : decode method_4_code 12 = .ok (.ireturn, 1) := by decide +kernel
theorem d9_13 : decode method_4_code 13 = .ok (.iload_n 0, 1) := by decide +kernel
theorem d9_14 : decode method_4_code 14 = .ok (.iload_n 1, 1) := by decide +kernel
theorem d9_15 : decode method_4_code 15 = .ok (.if_icmp .eq 13, 3) := by decide +kernel
theorem d9_18 : decode method_4_code 18 = .ok (.iload_n 0, 1) := by decide +kernel
theorem d9_19 : decode method_4_code 19 = .ok (.iload_n 2, 1) := by decide +kernel
theorem d9_20 : decode method_4_code 20 = .ok (.if_icmp .eq 8, 3) := by decide +kernel
theorem d9_23 : decode method_4_code 23 = .ok (.iload_n 0, 1) := by decide +kernel
theorem d9_24 : decode method_4_code 24 = .ok (.iload_n 3, 1) := by decide +kernel
theorem d9_25 : decode method_4_code 25 = .ok (.if_icmp .ne 7, 3) := by decide +kernel
theorem d9_28 : decode method_4_code 28 = .ok (.iconst 1, 1) := by decide +kernel
theorem d9_29 : decode method_4_code 29 = .ok (.goto 4, 3) := by decide +kernel
theorem d9_32 : decode method_4_code 32 = .ok (.iconst 0, 1) := by decide +kernel
theorem d9_33 : decode method_4_code 33 = .ok (.ireturn, 1) := by decide +kernel
def F9 (p0 : Int32) (p1 : Int32) (p2 : Int32) (p3 : Int32) (p4 : Int32) (p5 : Int32) : Int32 := if p4 = (0 : Int32) then (let v10 : Int32 := (if p0 = p1 then (1 : Int32) else (if p0 = p2 then (1 : Int32) else (if p0 = p3 then (1 : Int32) else (0 : Int32)))); (nar .boolean v10)) else (if p0 = p5 then ((nar .boolean (0 : Int32))) else (let v22 : Int32 := (if p0 = p1 then (1 : Int32) else (if p0 = p2 then (1 : Int32) else (if p0 = p3 then (1 : Int32) else (0 : Int32)))); (nar .boolean v22)))
theorem aux9_11 (p0 : Int32) (p1 : Int32) (p2 : Int32) (p3 : Int32) (p4 : Int32) (p5 : Int32) (v10 : Int32) (hv10 : v10 = (if p0 = p1 then (1 : Int32) else (if p0 = p2 then (1 : Int32) else (if p0 = p3 then (1 : Int32) else (0 : Int32))))) (hs2_2 : p4 = (0 : Int32)) : (nar .boolean v10) = F9 p0 p1 p2 p3 p4 p5 := by
  subst hv10
  refine Eq.symm ?_; unfold F9; refine Eq.trans (if_pos hs2_2) ?_; rfl
theorem aux9_14 (p0 : Int32) (p1 : Int32) (p2 : Int32) (p3 : Int32) (p4 : Int32) (p5 : Int32)  (hs2_2 : ¬ (p4 = (0 : Int32))) (hs8_13 : p0 = p5) : (nar .boolean (0 : Int32)) = F9 p0 p1 p2 p3 p4 p5 := by
  skip
  refine Eq.symm ?_; unfold F9; refine Eq.trans (if_neg hs2_2) ?_; refine Eq.trans (if_pos hs8_13) ?_; rfl
theorem aux9_23 (p0 : Int32) (p1 : Int32) (p2 : Int32) (p3 : Int32) (p4 : Int32) (p5 : Int32) (v22 : Int32) (hv22 : v22 = (if p0 = p1 then (1 : Int32) else (if p0 = p2 then (1 : Int32) else (if p0 = p3 then (1 : Int32) else (0 : Int32))))) (hs2_2 : ¬ (p4 = (0 : Int32))) (hs8_13 : ¬ (p0 = p5)) : (nar .boolean v22) = F9 p0 p1 p2 p3 p4 p5 := by
  subst hv22
  refine Eq.symm ?_; unfold F9; refine Eq.trans (if_neg hs2_2) ?_; refine Eq.trans (if_neg hs8_13) ?_; rfl
theorem ef_9 (m : MethodId) (p0 : Int32) (p1 : Int32) (p2 : Int32) (p3 : Int32) (p4 : Int32) (p5 : Int32) : entryFrame m #[(.int p0), (.int p1), (.int p2), (.int p3), (.int p4), (.int p5)] 6 = mkF m 0 #[.val (.int p0), .val (.int p1), .val (.int p2), .val (.int p3), .val (.int p4), .val (.int p5)] [] := by first | (simp [entryFrame, mkF, argsToLocals, Value.category]; done) | rfl
def Q9 (Z : State) (p0 : Int32) (p1 : Int32) (p2 : Int32) (p3 : Int32) (p4 : Int32) (p5 : Int32)  (h0 : Heap) (n0 : Nat) (v : Option Value) (h : Heap) (L : List Loc) : Prop := v = some (.int (F9 p0 p1 p2 p3 p4 p5)) ∧ Fr n0 L ∧ h = h0
set_option maxRecDepth 65536 in
set_option maxHeartbeats 40000000 in
theorem rm9 (l : Launch) (Z : State) (a0 : Array Value) (hw : ∀ d ∈ tables_1, d.before a0 Z = true) (ws : List Jvm.Cond) (p0 : Int32) (p1 : Int32) (p2 : Int32) (p3 : Int32) (p4 : Int32) (p5 : Int32)  (h0 : Heap) (n0 : Nat) (Z0 : n0 ≤ h0.size)  :
    MetFree l (⟨"com/example/processionary/processionary/automata/IntSetMembersPinLaw", "in", "(IIIIZI)Z"⟩ : MethodName) (head1 (Jvm.Cond.code (⟨"com/example/processionary/processionary/automata/IntSetMembersPinLaw", "in", "(IIIIZI)Z"⟩ : MethodName) method_4_code 6 (some .boolean) :: ws) ({ frames := 0, cells := 0, slots := 0, locals := 0 } : Room)) (fun a U => a = #[(.int p0), (.int p1), (.int p2), (.int p3), (.int p4), (.int p5)] ∧ Z.Warmed39 U.vm ∧ U.heap = h0) (fun _ _ _ _ _ => True) (fun _ U o U' => ∃ v L, o = .returned v ∧ Q9 Z p0 p1 p2 p3 p4 p5 h0 n0 v U'.heap L ∧ FrameEnd U o U' L ({ frames := 0, cells := 0, slots := 0, locals := 0 } : Room).cells ({ frames := 0, cells := 0, slots := 0, locals := 0 } : Room).slots) := by
  refine MetFree.of_bodySF (plainFor_of_name pn_com_example_processionary_processionary_automata_IntSetMembersPinLaw) hisR ?_
  intro p e s m args below meth c s₁ Bd hml0 hP hK
  obtain ⟨rfl, hZ, hh⟩ := hP
  have hx := Bd.exec
  have hby := Bd.bytes
  have hml : c.maxLocals = 6 := hml0
  have hown : s.vm.findClass "com/example/processionary/processionary/automata/IntSetMembersPinLaw" = some m.cls := findClass_of_methodNamed Bd.named
  have hnm := (name_of_methodNamed Bd.named Bd.method).1
  have X0 : Stand p l e ({ frames := 0, cells := 0, slots := 0, locals := 0 } : Room) s m #[(.int p0), (.int p1), (.int p2), (.int p3), (.int p4), (.int p5)] below meth c s₁ [] 0 0 := Stand.of_body Bd
  have e0 : s₁.heap = h0 := by rw [← hh, Bd.state]; rfl
  have N0 := Fr.nil n0
  have K0 : Keep h0 h0 [] := Keep.refl _ _
  obtain ⟨G, hG⟩ : ∃ z, z = s₁.setTop (entryFrame m #[(.int p0), (.int p1), (.int p2), (.int p3), (.int p4), (.int p5)] 6) := ⟨_, rfl⟩
  have pre0 : Lead p e below G (s₁.setTop (mkF m 0 #[.val (.int p0), .val (.int p1), .val (.int p2), .val (.int p3), .val (.int p4), .val (.int p5)] [])) := fun t k => by rw [hG]; exact castTop (ef_9 m p0 p1 p2 p3 p4 p5) k
  have pre1 : Lead p e below G (s₁.setTop (mkF m 2 #[.val (.int p0), .val (.int p1), .val (.int p2), .val (.int p3), .val (.int p4), .val (.int p5)] [(.int p4)])) := fun t k => by
    refine pre0 t ?_
    show Steps p.tables e below (s₁.setTop (mkF m 0 #[.val (.int p0), .val (.int p1), .val (.int p2), .val (.int p3), .val (.int p4), .val (.int p5)] [])) _
    refine XS.iload X0.here hx rfl (hb hby d9_0) rfl ?_
    show Steps p.tables e below (s₁.setTop (mkF m 2 #[.val (.int p0), .val (.int p1), .val (.int p2), .val (.int p3), .val (.int p4), .val (.int p5)] [(.int p4)])) _
    exact k
  by_cases hs2_2 : p4 = (0 : Int32)
  · have pre9 : Lead p e below G (s₁.setTop (mkF m 33 #[.val (.int p0), .val (.int p1), .val (.int p2), .val (.int p3), .val (.int p4), .val (.int p5)] [(.int (if p0 = p1 then (1 : Int32) else (if p0 = p2 then (1 : Int32) else (if p0 = p3 then (1 : Int32) else (0 : Int32)))))])) := fun t k => by
      refine pre1 t ?_
      show Steps p.tables e below (s₁.setTop (mkF m 2 #[.val (.int p0), .val (.int p1), .val (.int p2), .val (.int p3), .val (.int p4), .val (.int p5)] [(.int p4)])) _
      refine XS.ifYes X0.here hx rfl (pc0 := 2) (pc' := 13) rfl (hb hby d9_2) rfl ((if0 _ _).trans (teq hs2_2).1) (by decide) (by decide) ?_
      refine XS.iloadN X0.here hx rfl (hb hby d9_13) rfl ?_
      refine XS.iloadN X0.here hx rfl (hb hby d9_14) rfl ?_
      show Steps p.tables e below (s₁.setTop (mkF m 15 #[.val (.int p0), .val (.int p1), .val (.int p2), .val (.int p3), .val (.int p4), .val (.int p5)] [(.int p1), (.int p0)])) _
      have j8 : ∀ t, Steps p.tables e below (s₁.setTop (mkF m 33 #[.val (.int p0), .val (.int p1), .val (.int p2), .val (.int p3), .val (.int p4), .val (.int p5)] [(.int (if p0 = p1 then (1 : Int32) else (if p0 = p2 then (1 : Int32) else (if p0 = p3 then (1 : Int32) else (0 : Int32)))))])) t → Steps p.tables e below (s₁.setTop (mkF m 15 #[.val (.int p0), .val (.int p1), .val (.int p2), .val (.int p3), .val (.int p4), .val (.int p5)] [(.int p1), (.int p0)])) t := fun t k => by
        by_cases hc15_3 : p0 = p1
        · simp only [if_pos hc15_3] at k
          refine XS.icmpYes X0.here hx rfl (pc0 := 15) (pc' := 28) rfl (hb hby d9_15) rfl (teq hc15_3).1 (by decide) (by decide) ?_
          show Steps p.tables e below (s₁.setTop (mkF m 28 #[.val (.int p0), .val (.int p1), .val (.int p2), .val (.int p3), .val (.int p4), .val (.int p5)] [])) _
          refine XS.iconst X0.here hx rfl (hb hby d9_28) ?_
          refine XS.goto X0.here hx rfl (pc0 := 29) (pc' := 33) rfl (hb hby d9_29) (by decide) (by decide) ?_
          exact k
        · simp only [if_neg hc15_3] at k
          refine XS.icmpNo X0.here hx rfl (hb hby d9_15) rfl (feq hc15_3).1 ?_
          show Steps p.tables e below (s₁.setTop (mkF m 18 #[.val (.int p0), .val (.int p1), .val (.int p2), .val (.int p3), .val (.int p4), .val (.int p5)] [])) _
          refine XS.iloadN X0.here hx rfl (hb hby d9_18) rfl ?_
          refine XS.iloadN X0.here hx rfl (hb hby d9_19) rfl ?_
          show Steps p.tables e below (s₁.setTop (mkF m 20 #[.val (.int p0), .val (.int p1), .val (.int p2), .val (.int p3), .val (.int p4), .val (.int p5)] [(.int p2), (.int p0)])) _
          have j7 : ∀ t, Steps p.tables e below (s₁.setTop (mkF m 33 #[.val (.int p0), .val (.int p1), .val (.int p2), .val (.int p3), .val (.int p4), .val (.int p5)] [(.int (if p0 = p2 then (1 : Int32) else (if p0 = p3 then (1 : Int32) else (0 : Int32))))])) t → Steps p.tables e below (s₁.setTop (mkF m 20 #[.val (.int p0), .val (.int p1), .val (.int p2), .val (.int p3), .val (.int p4), .val (.int p5)] [(.int p2), (.int p0)])) t := fun t k => by
            by_cases hc20_4 : p0 = p2
            · simp only [if_pos hc20_4] at k
              refine XS.icmpYes X0.here hx rfl (pc0 := 20) (pc' := 28) rfl (hb hby d9_20) rfl (teq hc20_4).1 (by decide) (by decide) ?_
              refine XS.iconst X0.here hx rfl (hb hby d9_28) ?_
              show Steps p.tables e below (s₁.setTop (mkF m 29 #[.val (.int p0), .val (.int p1), .val (.int p2), .val (.int p3), .val (.int p4), .val (.int p5)] [(.int (1 : Int32))])) _
              refine XS.goto X0.here hx rfl (pc0 := 29) (pc' := 33) rfl (hb hby d9_29) (by decide) (by decide) ?_
              exact k
            · simp only [if_neg hc20_4] at k
              refine XS.icmpNo X0.here hx rfl (hb hby d9_20) rfl (feq hc20_4).1 ?_
              refine XS.iloadN X0.here hx rfl (hb hby d9_23) rfl ?_
              show Steps p.tables e below (s₁.setTop (mkF m 24 #[.val (.int p0), .val (.int p1), .val (.int p2), .val (.int p3), .val (.int p4), .val (.int p5)] [(.int p0)])) _
              refine XS.iloadN X0.here hx rfl (hb hby d9_24) rfl ?_
              show Steps p.tables e below (s₁.setTop (mkF m 25 #[.val (.int p0), .val (.int p1), .val (.int p2), .val (.int p3), .val (.int p4), .val (.int p5)] [(.int p3), (.int p0)])) _
              have j6 : ∀ t, Steps p.tables e below (s₁.setTop (mkF m 33 #[.val (.int p0), .val (.int p1), .val (.int p2), .val (.int p3), .val (.int p4), .val (.int p5)] [(.int (if p0 = p3 then (1 : Int32) else (0 : Int32)))])) t → Steps p.tables e below (s₁.setTop (mkF m 25 #[.val (.int p0), .val (.int p1), .val (.int p2), .val (.int p3), .val (.int p4), .val (.int p5)] [(.int p3), (.int p0)])) t := fun t k => by
                by_cases hc25_5 : p0 = p3
                · simp only [if_pos hc25_5] at k
                  refine XS.icmpNo X0.here hx rfl (hb hby d9_25) rfl (teq hc25_5).2 ?_
                  refine XS.iconst X0.here hx rfl (hb hby d9_28) ?_
                  refine XS.goto X0.here hx rfl (pc0 := 29) (pc' := 33) rfl (hb hby d9_29) (by decide) (by decide) ?_
                  show Steps p.tables e below (s₁.setTop (mkF m 33 #[.val (.int p0), .val (.int p1), .val (.int p2), .val (.int p3), .val (.int p4), .val (.int p5)] [(.int (1 : Int32))])) _
                  exact k
                · simp only [if_neg hc25_5] at k
                  refine XS.icmpYes X0.here hx rfl (pc0 := 25) (pc' := 32) rfl (hb hby d9_25) rfl (feq hc25_5).2 (by decide) (by decide) ?_
                  refine XS.iconst X0.here hx rfl (hb hby d9_32) ?_
                  exact k
              refine j6 _ ?_
              show Steps p.tables e below (s₁.setTop (mkF m 33 #[.val (.int p0), .val (.int p1), .val (.int p2), .val (.int p3), .val (.int p4), .val (.int p5)] [(.int (if p0 = p3 then (1 : Int32) else (0 : Int32)))])) _
              exact k
          refine j7 _ ?_
          show Steps p.tables e below (s₁.setTop (mkF m 33 #[.val (.int p0), .val (.int p1), .val (.int p2), .val (.int p3), .val (.int p4), .val (.int p5)] [(.int (if p0 = p2 then (1 : Int32) else (if p0 = p3 then (1 : Int32) else (0 : Int32))))])) _
          exact k
      refine j8 _ ?_
      show Steps p.tables e below (s₁.setTop (mkF m 33 #[.val (.int p0), .val (.int p1), .val (.int p2), .val (.int p3), .val (.int p4), .val (.int p5)] [(.int (if p0 = p1 then (1 : Int32) else (if p0 = p2 then (1 : Int32) else (if p0 = p3 then (1 : Int32) else (0 : Int32)))))])) _
      exact k
    obtain ⟨v10, hv10⟩ : ∃ z : Int32, z = (if p0 = p1 then (1 : Int32) else (if p0 = p2 then (1 : Int32) else (if p0 = p3 then (1 : Int32) else (0 : Int32)))) := ⟨_, rfl⟩
    have pre10 : Lead p e below G (s₁.setTop (mkF m 33 #[.val (.int p0), .val (.int p1), .val (.int p2), .val (.int p3), .val (.int p4), .val (.int p5)] [(.int v10)])) := by rw [hv10]; exact pre9
    obtain ⟨fs, hr, hrun, hended, hW, hsame⟩ := X0.leave (v := some (.int (nar .boolean v10))) (fun h => by rw [Bd.returns] at h; cases h)
    have preF : Lead p e below (s₁.setTop (entryFrame m #[(.int p0), (.int p1), (.int p2), (.int p3), (.int p4), (.int p5)] 6)) (s₁.setTop (mkF m 33 #[.val (.int p0), .val (.int p1), .val (.int p2), .val (.int p3), .val (.int p4), .val (.int p5)] [(.int v10)])) := by rw [← hG]; exact pre10
    refine ⟨_, _, preF _ ?_, hrun, hended, _, _, rfl, ?_, ⟨_, rfl⟩, hW, hsame.mono (by decide) (by decide)⟩
    · show Steps p.tables e below (s₁.setTop (mkF m 33 #[.val (.int p0), .val (.int p1), .val (.int p2), .val (.int p3), .val (.int p4), .val (.int p5)] [(.int v10)])) _
      exact retN X0 hx (t := .boolean) Bd.returns (by simp) (hb hby d9_33) hr
    · show Q9 Z p0 p1 p2 p3 p4 p5 h0 n0 _ s₁.heap _
      rw [e0]
      have hv_ : (nar .boolean v10) = F9 p0 p1 p2 p3 p4 p5 := (aux9_11 p0 p1 p2 p3 p4 p5 v10 hv10 hs2_2)
      exact ⟨congrArg (fun z => some (Value.int z)) hv_, N0, rfl⟩
  · have pre12 : Lead p e below G (s₁.setTop (mkF m 8 #[.val (.int p0), .val (.int p1), .val (.int p2), .val (.int p3), .val (.int p4), .val (.int p5)] [(.int p5), (.int p0)])) := fun t k => by
      refine pre1 t ?_
      show Steps p.tables e below (s₁.setTop (mkF m 2 #[.val (.int p0), .val (.int p1), .val (.int p2), .val (.int p3), .val (.int p4), .val (.int p5)] [(.int p4)])) _
      refine XS.ifNo X0.here hx rfl (hb hby d9_2) rfl ((if0 _ _).trans (feq hs2_2).1) ?_
      show Steps p.tables e below (s₁.setTop (mkF m 5 #[.val (.int p0), .val (.int p1), .val (.int p2), .val (.int p3), .val (.int p4), .val (.int p5)] [])) _
      refine XS.iloadN X0.here hx rfl (hb hby d9_5) rfl ?_
      refine XS.iload X0.here hx rfl (hb hby d9_6) rfl ?_
      exact k
    by_cases hs8_13 : p0 = p5
    · obtain ⟨fs, hr, hrun, hended, hW, hsame⟩ := X0.leave (v := some (.int (nar .boolean (0 : Int32)))) (fun h => by rw [Bd.returns] at h; cases h)
      have preF : Lead p e below (s₁.setTop (entryFrame m #[(.int p0), (.int p1), (.int p2), (.int p3), (.int p4), (.int p5)] 6)) (s₁.setTop (mkF m 8 #[.val (.int p0), .val (.int p1), .val (.int p2), .val (.int p3), .val (.int p4), .val (.int p5)] [(.int p5), (.int p0)])) := by rw [← hG]; exact pre12
      refine ⟨_, _, preF _ ?_, hrun, hended, _, _, rfl, ?_, ⟨_, rfl⟩, hW, hsame.mono (by decide) (by decide)⟩
      · show Steps p.tables e below (s₁.setTop (mkF m 8 #[.val (.int p0), .val (.int p1), .val (.int p2), .val (.int p3), .val (.int p4), .val (.int p5)] [(.int p5), (.int p0)])) _
        refine XS.icmpNo X0.here hx rfl (hb hby d9_8) rfl (teq hs8_13).2 ?_
        show Steps p.tables e below (s₁.setTop (mkF m 11 #[.val (.int p0), .val (.int p1), .val (.int p2), .val (.int p3), .val (.int p4), .val (.int p5)] [])) _
        refine XS.iconst X0.here hx rfl (hb hby d9_11) ?_
        exact retN X0 hx (t := .boolean) Bd.returns (by simp) (hb hby d9_12) hr
      · show Q9 Z p0 p1 p2 p3 p4 p5 h0 n0 _ s₁.heap _
        rw [e0]
        have hv_ : (nar .boolean (0 : Int32)) = F9 p0 p1 p2 p3 p4 p5 := (aux9_14 p0 p1 p2 p3 p4 p5 hs2_2 hs8_13)
        exact ⟨congrArg (fun z => some (Value.int z)) hv_, N0, rfl⟩
    · have pre21 : Lead p e below G (s₁.setTop (mkF m 33 #[.val (.int p0), .val (.int p1), .val (.int p2), .val (.int p3), .val (.int p4), .val (.int p5)] [(.int (if p0 = p1 then (1 : Int32) else (if p0 = p2 then (1 : Int32) else (if p0 = p3 then (1 : Int32) else (0 : Int32)))))])) := fun t k => by
        refine pre12 t ?_
        show Steps p.tables e below (s₁.setTop (mkF m 8 #[.val (.int p0), .val (.int p1), .val (.int p2), .val (.int p3), .val (.int p4), .val (.int p5)] [(.int p5), (.int p0)])) _
        refine XS.icmpYes X0.here hx rfl (pc0 := 8) (pc' := 13) rfl (hb hby d9_8) rfl (feq hs8_13).2 (by decide) (by decide) ?_
        refine XS.iloadN X0.here hx rfl (hb hby d9_13) rfl ?_
        show Steps p.tables e below (s₁.setTop (mkF m 14 #[.val (.int p0), .val (.int p1), .val (.int p2), .val (.int p3), .val (.int p4), .val (.int p5)] [(.int p0)])) _
        refine XS.iloadN X0.here hx rfl (hb hby d9_14) rfl ?_
        show Steps p.tables e below (s₁.setTop (mkF m 15 #[.val (.int p0), .val (.int p1), .val (.int p2), .val (.int p3), .val (.int p4), .val (.int p5)] [(.int p1), (.int p0)])) _
        have j20 : ∀ t, Steps p.tables e below (s₁.setTop (mkF m 33 #[.val (.int p0), .val (.int p1), .val (.int p2), .val (.int p3), .val (.int p4), .val (.int p5)] [(.int (if p0 = p1 then (1 : Int32) else (if p0 = p2 then (1 : Int32) else (if p0 = p3 then (1 : Int32) else (0 : Int32)))))])) t → Steps p.tables e below (s₁.setTop (mkF m 15 #[.val (.int p0), .val (.int p1), .val (.int p2), .val (.int p3), .val (.int p4), .val (.int p5)] [(.int p1), (.int p0)])) t := fun t k => by
          by_cases hc15_15 : p0 = p1
          · simp only [if_pos hc15_15] at k
            refine XS.icmpYes X0.here hx rfl (pc0 := 15) (pc' := 28) rfl (hb hby d9_15) rfl (teq hc15_15).1 (by decide) (by decide) ?_
            refine XS.iconst X0.here hx rfl (hb hby d9_28) ?_
            refine XS.goto X0.here hx rfl (pc0 := 29) (pc' := 33) rfl (hb hby d9_29) (by decide) (by decide) ?_
            show Steps p.tables e below (s₁.setTop (mkF m 33 #[.val (.int p0), .val (.int p1), .val (.int p2), .val (.int p3), .val (.int p4), .val (.int p5)] [(.int (1 : Int32))])) _
            exact k
          · simp only [if_neg hc15_15] at k
            refine XS.icmpNo X0.here hx rfl (hb hby d9_15) rfl (feq hc15_15).1 ?_
            refine XS.iloadN X0.here hx rfl (hb hby d9_18) rfl ?_
            refine XS.iloadN X0.here hx rfl (hb hby d9_19) rfl ?_
            show Steps p.tables e below (s₁.setTop (mkF m 20 #[.val (.int p0), .val (.int p1), .val (.int p2), .val (.int p3), .val (.int p4), .val (.int p5)] [(.int p2), (.int p0)])) _
            have j19 : ∀ t, Steps p.tables e below (s₁.setTop (mkF m 33 #[.val (.int p0), .val (.int p1), .val (.int p2), .val (.int p3), .val (.int p4), .val (.int p5)] [(.int (if p0 = p2 then (1 : Int32) else (if p0 = p3 then (1 : Int32) else (0 : Int32))))])) t → Steps p.tables e below (s₁.setTop (mkF m 20 #[.val (.int p0), .val (.int p1), .val (.int p2), .val (.int p3), .val (.int p4), .val (.int p5)] [(.int p2), (.int p0)])) t := fun t k => by
              by_cases hc20_16 : p0 = p2
              · simp only [if_pos hc20_16] at k
                refine XS.icmpYes X0.here hx rfl (pc0 := 20) (pc' := 28) rfl (hb hby d9_20) rfl (teq hc20_16).1 (by decide) (by decide) ?_
                show Steps p.tables e below (s₁.setTop (mkF m 28 #[.val (.int p0), .val (.int p1), .val (.int p2), .val (.int p3), .val (.int p4), .val (.int p5)] [])) _
                refine XS.iconst X0.here hx rfl (hb hby d9_28) ?_
                refine XS.goto X0.here hx rfl (pc0 := 29) (pc' := 33) rfl (hb hby d9_29) (by decide) (by decide) ?_
                exact k
              · simp only [if_neg hc20_16] at k
                refine XS.icmpNo X0.here hx rfl (hb hby d9_20) rfl (feq hc20_16).1 ?_
                show Steps p.tables e below (s₁.setTop (mkF m 23 #[.val (.int p0), .val (.int p1), .val (.int p2), .val (.int p3), .val (.int p4), .val (.int p5)] [])) _
                refine XS.iloadN X0.here hx rfl (hb hby d9_23) rfl ?_
                refine XS.iloadN X0.here hx rfl (hb hby d9_24) rfl ?_
                show Steps p.tables e below (s₁.setTop (mkF m 25 #[.val (.int p0), .val (.int p1), .val (.int p2), .val (.int p3), .val (.int p4), .val (.int p5)] [(.int p3), (.int p0)])) _
                have j18 : ∀ t, Steps p.tables e below (s₁.setTop (mkF m 33 #[.val (.int p0), .val (.int p1), .val (.int p2), .val (.int p3), .val (.int p4), .val (.int p5)] [(.int (if p0 = p3 then (1 : Int32) else (0 : Int32)))])) t → Steps p.tables e below (s₁.setTop (mkF m 25 #[.val (.int p0), .val (.int p1), .val (.int p2), .val (.int p3), .val (.int p4), .val (.int p5)] [(.int p3), (.int p0)])) t := fun t k => by
                  by_cases hc25_17 : p0 = p3
                  · simp only [if_pos hc25_17] at k
                    refine XS.icmpNo X0.here hx rfl (hb hby d9_25) rfl (teq hc25_17).2 ?_
                    refine XS.iconst X0.here hx rfl (hb hby d9_28) ?_
                    show Steps p.tables e below (s₁.setTop (mkF m 29 #[.val (.int p0), .val (.int p1), .val (.int p2), .val (.int p3), .val (.int p4), .val (.int p5)] [(.int (1 : Int32))])) _
                    refine XS.goto X0.here hx rfl (pc0 := 29) (pc' := 33) rfl (hb hby d9_29) (by decide) (by decide) ?_
                    exact k
                  · simp only [if_neg hc25_17] at k
                    refine XS.icmpYes X0.here hx rfl (pc0 := 25) (pc' := 32) rfl (hb hby d9_25) rfl (feq hc25_17).2 (by decide) (by decide) ?_
                    refine XS.iconst X0.here hx rfl (hb hby d9_32) ?_
                    show Steps p.tables e below (s₁.setTop (mkF m 33 #[.val (.int p0), .val (.int p1), .val (.int p2), .val (.int p3), .val (.int p4), .val (.int p5)] [(.int (0 : Int32))])) _
                    exact k
                refine j18 _ ?_
                show Steps p.tables e below (s₁.setTop (mkF m 33 #[.val (.int p0), .val (.int p1), .val (.int p2), .val (.int p3), .val (.int p4), .val (.int p5)] [(.int (if p0 = p3 then (1 : Int32) else (0 : Int32)))])) _
                exact k
            refine j19 _ ?_
            show Steps p.tables e below (s₁.setTop (mkF m 33 #[.val (.int p0), .val (.int p1), .val (.int p2), .val (.int p3), .val (.int p4), .val (.int p5)] [(.int (if p0 = p2 then (1 : Int32) else (if p0 = p3 then (1 : Int32) else (0 : Int32))))])) _
            exact k
        refine j20 _ ?_
        show Steps p.tables e below (s₁.setTop (mkF m 33 #[.val (.int p0), .val (.int p1), .val (.int p2), .val (.int p3), .val (.int p4), .val (.int p5)] [(.int (if p0 = p1 then (1 : Int32) else (if p0 = p2 then (1 : Int32) else (if p0 = p3 then (1 : Int32) else (0 : Int32)))))])) _
        exact k
      obtain ⟨v22, hv22⟩ : ∃ z : Int32, z = (if p0 = p1 then (1 : Int32) else (if p0 = p2 then (1 : Int32) else (if p0 = p3 then (1 : Int32) else (0 : Int32)))) := ⟨_, rfl⟩
      have pre22 : Lead p e below G (s₁.setTop (mkF m 33 #[.val (.int p0), .val (.int p1), .val (.int p2), .val (.int p3), .val (.int p4), .val (.int p5)] [(.int v22)])) := by rw [hv22]; exact pre21
      obtain ⟨fs, hr, hrun, hended, hW, hsame⟩ := X0.leave (v := some (.int (nar .boolean v22))) (fun h => by rw [Bd.returns] at h; cases h)
      have preF : Lead p e below (s₁.setTop (entryFrame m #[(.int p0), (.int p1), (.int p2), (.int p3), (.int p4), (.int p5)] 6)) (s₁.setTop (mkF m 33 #[.val (.int p0), .val (.int p1), .val (.int p2), .val (.int p3), .val (.int p4), .val (.int p5)] [(.int v22)])) := by rw [← hG]; exact pre22
      refine ⟨_, _, preF _ ?_, hrun, hended, _, _, rfl, ?_, ⟨_, rfl⟩, hW, hsame.mono (by decide) (by decide)⟩
      · show Steps p.tables e below (s₁.setTop (mkF m 33 #[.val (.int p0), .val (.int p1), .val (.int p2), .val (.int p3), .val (.int p4), .val (.int p5)] [(.int v22)])) _
        exact retN X0 hx (t := .boolean) Bd.returns (by simp) (hb hby d9_33) hr
      · show Q9 Z p0 p1 p2 p3 p4 p5 h0 n0 _ s₁.heap _
        rw [e0]
        have hv_ : (nar .boolean v22) = F9 p0 p1 p2 p3 p4 p5 := (aux9_23 p0 p1 p2 p3 p4 p5 v22 hv22 hs2_2 hs8_13)
        exact ⟨congrArg (fun z => some (Value.int z)) hv_, N0, rfl⟩
theorem d6_0 : decode prog_12_method_11_code 0 = .ok (.iload_n 0, 1) := by decide +kernel
theorem d6_1 : decode prog_12_method_11_code 1 = .ok (.ldc 42, 2) := by decide +kernel
theorem d6_3 : decode prog_12_method_11_code 3 = .ok (.imul, 1) := by decide +kernel
theorem d6_4 : decode prog_12_method_11_code 4 = .ok (.istore_n 2, 1) := by decide +kernel
theorem d6_5 : decode prog_12_method_11_code 5 = .ok (.iload_n 2, 1) := by decide +kernel
theorem d6_6 : decode prog_12_method_11_code 6 = .ok (.iload_n 2, 1) := by decide +kernel
theorem d6_7 : decode prog_12_method_11_code 7 = .ok (.bipush 16, 2) := by decide +kernel
theorem d6_9 : decode prog_12_method_11_code 9 = .ok (.iushr, 1) := by decide +kernel
theorem d6_10 : decode prog_12_method_11_code 10 = .ok (.ixor, 1) := by decide +kernel
theorem d6_11 : decode prog_12_method_11_code 11 = .ok (.iload_n 1, 1) := by decide +kernel
theorem d6_12 : decode prog_12_method_11_code 12 = .ok (.iand, 1) := by decide +kernel
theorem d6_13 : decode prog_12_method_11_code 13 = .ok (.ireturn, 1) := by decide +kernel
def F6 (p0 : Int32) (p1 : Int32) : Int32 := (((p0 * (-1640531527 : Int32)) ^^^ (((p0 * (-1640531527 : Int32)).toUInt32 >>> ((16 : Int32) &&& 31).toUInt32).toInt32)) &&& p1)
theorem aux6_1 (p0 : Int32) (p1 : Int32)   : (((p0 * (-1640531527 : Int32)) ^^^ (((p0 * (-1640531527 : Int32)).toUInt32 >>> ((16 : Int32) &&& 31).toUInt32).toInt32)) &&& p1) = F6 p0 p1 := by
  skip
  rfl
theorem pn_com_example_processionary_processionary_automata_IntSet : plainName "com/example/processionary/processionary/automata/IntSet" = true := by first | (simp [plainName, overriddenIn]; done) | decide +kernel
theorem ef_6 (m : MethodId) (p0 : Int32) (p1 : Int32) : entryFrame m #[(.int p0), (.int p1)] 3 = mkF m 0 #[.val (.int p0), .val (.int p1), .unset] [] := by first | (simp [entryFrame, mkF, argsToLocals, Value.category]; done) | rfl
def Q6 (Z : State) (p0 : Int32) (p1 : Int32)  (h0 : Heap) (n0 : Nat) (v : Option Value) (h : Heap) (L : List Loc) : Prop := v = some (.int (F6 p0 p1)) ∧ Fr n0 L ∧ h = h0
set_option maxRecDepth 65536 in
set_option maxHeartbeats 40000000 in
theorem rm6 (l : Launch) (Z : State) (a0 : Array Value) (hw : ∀ d ∈ tables_1, d.before a0 Z = true) (ws : List Jvm.Cond) (p0 : Int32) (p1 : Int32)  (h0 : Heap) (n0 : Nat) (Z0 : n0 ≤ h0.size)  :
    MetFree l (⟨"com/example/processionary/processionary/automata/IntSet", "slot", "(II)I"⟩ : MethodName) (head1 (Jvm.Cond.code (⟨"com/example/processionary/processionary/automata/IntSet", "slot", "(II)I"⟩ : MethodName) prog_12_method_11_code 3 (some .int) :: ws) ({ frames := 0, cells := 0, slots := 0, locals := 0 } : Room)) (fun a U => a = #[(.int p0), (.int p1)] ∧ Z.Warmed39 U.vm ∧ U.heap = h0) (fun _ _ _ _ _ => True) (fun _ U o U' => ∃ v L, o = .returned v ∧ Q6 Z p0 p1 h0 n0 v U'.heap L ∧ FrameEnd U o U' L ({ frames := 0, cells := 0, slots := 0, locals := 0 } : Room).cells ({ frames := 0, cells := 0, slots := 0, locals := 0 } : Room).slots) := by
  refine MetFree.of_bodySF (plainFor_of_name pn_com_example_processionary_processionary_automata_IntSet) hisR ?_
  intro p e s m args below meth c s₁ Bd hml0 hP hK
  obtain ⟨rfl, hZ, hh⟩ := hP
  have hx := Bd.exec
  have hby := Bd.bytes
  have hml : c.maxLocals = 3 := hml0
  have hown : s.vm.findClass "com/example/processionary/processionary/automata/IntSet" = some m.cls := findClass_of_methodNamed Bd.named
  have hnm := (name_of_methodNamed Bd.named Bd.method).1
  have X0 : Stand p l e ({ frames := 0, cells := 0, slots := 0, locals := 0 } : Room) s m #[(.int p0), (.int p1)] below meth c s₁ [] 0 0 := Stand.of_body Bd
  have e0 : s₁.heap = h0 := by rw [← hh, Bd.state]; rfl
  have N0 := Fr.nil n0
  have K0 : Keep h0 h0 [] := Keep.refl _ _
  obtain ⟨G, hG⟩ : ∃ z, z = s₁.setTop (entryFrame m #[(.int p0), (.int p1)] 3) := ⟨_, rfl⟩
  have pre0 : Lead p e below G (s₁.setTop (mkF m 0 #[.val (.int p0), .val (.int p1), .unset] [])) := fun t k => by rw [hG]; exact castTop (ef_6 m p0 p1) k
  obtain ⟨fs, hr, hrun, hended, hW, hsame⟩ := X0.leave (v := some (.int (((p0 * (-1640531527 : Int32)) ^^^ (((p0 * (-1640531527 : Int32)).toUInt32 >>> ((16 : Int32) &&& 31).toUInt32).toInt32)) &&& p1))) (fun h => by rw [Bd.returns] at h; cases h)
  have preF : Lead p e below (s₁.setTop (entryFrame m #[(.int p0), (.int p1)] 3)) (s₁.setTop (mkF m 0 #[.val (.int p0), .val (.int p1), .unset] [])) := by rw [← hG]; exact pre0
  refine ⟨_, _, preF _ ?_, hrun, hended, _, _, rfl, ?_, ⟨_, rfl⟩, hW, hsame.mono (by decide) (by decide)⟩
  · show Steps p.tables e below (s₁.setTop (mkF m 0 #[.val (.int p0), .val (.int p1), .unset] [])) _
    refine XS.iloadN X0.here hx rfl (hb hby d6_0) rfl ?_
    refine X0.ldcInt hx hown (mvT hZ (hw _ (List.mem_of_getElem? (i := 31) rfl))) (g := (mkF m 1 #[.val (.int p0), .val (.int p1), .unset] [(.int p0)])) rfl (hb hby d6_1) _ ?_
    show Steps p.tables e below (s₁.setTop (mkF m 3 #[.val (.int p0), .val (.int p1), .unset] [(.int (-1640531527 : Int32)), (.int p0)])) _
    refine XS.imul X0.here hx rfl (hb hby d6_3) rfl ?_
    refine XS.istoreN X0.here hx rfl (hb hby d6_4) rfl (l' := #[.val (.int p0), .val (.int p1), .val (.int (p0 * (-1640531527 : Int32)))]) rfl ?_
    show Steps p.tables e below (s₁.setTop (mkF m 5 #[.val (.int p0), .val (.int p1), .val (.int (p0 * (-1640531527 : Int32)))] [])) _
    refine XS.iloadN X0.here hx rfl (hb hby d6_5) rfl ?_
    refine XS.iloadN X0.here hx rfl (hb hby d6_6) rfl ?_
    refine XS.bipush X0.here hx rfl (hb hby d6_7) ?_
    show Steps p.tables e below (s₁.setTop (mkF m 9 #[.val (.int p0), .val (.int p1), .val (.int (p0 * (-1640531527 : Int32)))] [(.int (16 : Int32)), (.int (p0 * (-1640531527 : Int32))), (.int (p0 * (-1640531527 : Int32)))])) _
    refine XS.iushr X0.here hx rfl (hb hby d6_9) rfl ?_
    refine XS.ixor X0.here hx rfl (hb hby d6_10) rfl ?_
    refine XS.iloadN X0.here hx rfl (hb hby d6_11) rfl ?_
    show Steps p.tables e below (s₁.setTop (mkF m 12 #[.val (.int p0), .val (.int p1), .val (.int (p0 * (-1640531527 : Int32)))] [(.int p1), (.int ((p0 * (-1640531527 : Int32)) ^^^ (((p0 * (-1640531527 : Int32)).toUInt32 >>> ((16 : Int32) &&& 31).toUInt32).toInt32)))])) _
    refine XS.iand X0.here hx rfl (hb hby d6_12) rfl ?_
    exact retI X0 hx Bd.returns (hb hby d6_13) hr
  · show Q6 Z p0 p1 h0 n0 _ s₁.heap _
    rw [e0]
    have hv_ : (((p0 * (-1640531527 : Int32)) ^^^ (((p0 * (-1640531527 : Int32)).toUInt32 >>> ((16 : Int32) &&& 31).toUInt32).toInt32)) &&& p1) = F6 p0 p1 := (aux6_1 p0 p1)
    exact ⟨congrArg (fun z => some (Value.int z)) hv_, N0, rfl⟩
theorem d11_0 : decode prog_12_method_10_code 0 = .ok (.iload_n 0, 1) := by decide +kernel
theorem d11_1 : decode prog_12_method_10_code 1 = .ok (.iload_n 1, 1) := by decide +kernel
theorem d11_2 : decode prog_12_method_10_code 2 = .ok (.if_icmp .gt 21, 3) := by decide +kernel
theorem d11_5 : decode prog_12_method_10_code 5 = .ok (.iload_n 2, 1) := by decide +kernel
theorem d11_6 : decode prog_12_method_10_code 6 = .ok (.iload_n 0, 1) := by decide +kernel
theorem d11_7 : decode prog_12_method_10_code 7 = .ok (.if_icmp .le 8, 3) := by decide +kernel
theorem d11_10 : decode prog_12_method_10_code 10 = .ok (.iload_n 2, 1) := by decide +kernel
theorem d11_11 : decode prog_12_method_10_code 11 = .ok (.iload_n 1, 1) := by decide +kernel
theorem d11_12 : decode prog_12_method_10_code 12 = .ok (.if_icmp .le 7, 3) := by decide +kernel
theorem d11_15 : decode prog_12_method_10_code 15 = .ok (.iconst 1, 1) := by decide +kernel
theorem d11_16 : decode prog_12_method_10_code 16 = .ok (.goto 22, 3) := by decide +kernel
theorem d11_19 : decode prog_12_method_10_code 19 = .ok (.iconst 0, 1) := by decide +kernel
theorem d11_20 : decode prog_12_method_10_code 20 = .ok (.goto 18, 3) := by decide +kernel
theorem d11_23 : decode prog_12_method_10_code 23 = .ok (.iload_n 2, 1) := by decide +kernel
theorem d11_24 : decode prog_12_method_10_code 24 = .ok (.iload_n 0, 1) := by decide +kernel
theorem d11_25 : decode prog_12_method_10_code 25 = .ok (.if_icmp .gt 12, 3) := by decide +kernel
theorem d11_28 : decode prog_12_method_10_code 28 = .ok (.iload_n 2, 1) := by decide +kernel
theorem d11_29 : decode prog_12_method_10_code 29 = .ok (.iload_n 1, 1) := by decide +kernel
theorem d11_30 : decode prog_12_method_10_code 30 = .ok (.if_icmp .le 7, 3) := by decide +kernel
theorem d11_33 : decode prog_12_method_10_code 33 = .ok (.iconst 1, 1) := by decide +kernel
theorem d11_34 : decode prog_12_method_10_code 34 = .ok (.goto 4, 3) := by decide +kernel
theorem d11_37 : decode prog_12_method_10_code 37 = .ok (.iconst 0, 1) := by decide +kernel
theorem d11_38 : decode prog_12_method_10_code 38 = .ok (.ireturn, 1) := by decide +kernel
def F11 (p0 : Int32) (p1 : Int32) (p2 : Int32) : Int32 := let v12 : Int32 := (if p1 < p0 then (if p0 < p2 then (0 : Int32) else (if p1 < p2 then (1 : Int32) else (0 : Int32))) else (if p0 < p2 then (if p1 < p2 then (1 : Int32) else (0 : Int32)) else (1 : Int32))); (nar .boolean v12)
theorem aux11_13 (p0 : Int32) (p1 : Int32) (p2 : Int32) (v12 : Int32) (hv12 : v12 = (if p1 < p0 then (if p0 < p2 then (0 : Int32) else (if p1 < p2 then (1 : Int32) else (0 : Int32))) else (if p0 < p2 then (if p1 < p2 then (1 : Int32) else (0 : Int32)) else (1 : Int32))))  : (nar .boolean v12) = F11 p0 p1 p2 := by
  subst hv12
  rfl
theorem ef_11 (m : MethodId) (p0 : Int32) (p1 : Int32) (p2 : Int32) : entryFrame m #[(.int p0), (.int p1), (.int p2)] 3 = mkF m 0 #[.val (.int p0), .val (.int p1), .val (.int p2)] [] := by first | (simp [entryFrame, mkF, argsToLocals, Value.category]; done) | rfl
def Q11 (Z : State) (p0 : Int32) (p1 : Int32) (p2 : Int32)  (h0 : Heap) (n0 : Nat) (v : Option Value) (h : Heap) (L : List Loc) : Prop := v = some (.int (F11 p0 p1 p2)) ∧ Fr n0 L ∧ h = h0
set_option maxRecDepth 65536 in
set_option maxHeartbeats 40000000 in
theorem rm11 (l : Launch) (Z : State) (a0 : Array Value) (hw : ∀ d ∈ tables_1, d.before a0 Z = true) (ws : List Jvm.Cond) (p0 : Int32) (p1 : Int32) (p2 : Int32)  (h0 : Heap) (n0 : Nat) (Z0 : n0 ≤ h0.size)  :
    MetFree l (⟨"com/example/processionary/processionary/automata/IntSet", "fillsGap", "(III)Z"⟩ : MethodName) (head1 (Jvm.Cond.code (⟨"com/example/processionary/processionary/automata/IntSet", "fillsGap", "(III)Z"⟩ : MethodName) prog_12_method_10_code 3 (some .boolean) :: ws) ({ frames := 0, cells := 0, slots := 0, locals := 0 } : Room)) (fun a U => a = #[(.int p0), (.int p1), (.int p2)] ∧ Z.Warmed39 U.vm ∧ U.heap = h0) (fun _ _ _ _ _ => True) (fun _ U o U' => ∃ v L, o = .returned v ∧ Q11 Z p0 p1 p2 h0 n0 v U'.heap L ∧ FrameEnd U o U' L ({ frames := 0, cells := 0, slots := 0, locals := 0 } : Room).cells ({ frames := 0, cells := 0, slots := 0, locals := 0 } : Room).slots) := by
  refine MetFree.of_bodySF (plainFor_of_name pn_com_example_processionary_processionary_automata_IntSet) hisR ?_
  intro p e s m args below meth c s₁ Bd hml0 hP hK
  obtain ⟨rfl, hZ, hh⟩ := hP
  have hx := Bd.exec
  have hby := Bd.bytes
  have hml : c.maxLocals = 3 := hml0
  have hown : s.vm.findClass "com/example/processionary/processionary/automata/IntSet" = some m.cls := findClass_of_methodNamed Bd.named
  have hnm := (name_of_methodNamed Bd.named Bd.method).1
  have X0 : Stand p l e ({ frames := 0, cells := 0, slots := 0, locals := 0 } : Room) s m #[(.int p0), (.int p1), (.int p2)] below meth c s₁ [] 0 0 := Stand.of_body Bd
  have e0 : s₁.heap = h0 := by rw [← hh, Bd.state]; rfl
  have N0 := Fr.nil n0
  have K0 : Keep h0 h0 [] := Keep.refl _ _
  obtain ⟨G, hG⟩ : ∃ z, z = s₁.setTop (entryFrame m #[(.int p0), (.int p1), (.int p2)] 3) := ⟨_, rfl⟩
  have pre0 : Lead p e below G (s₁.setTop (mkF m 0 #[.val (.int p0), .val (.int p1), .val (.int p2)] [])) := fun t k => by rw [hG]; exact castTop (ef_11 m p0 p1 p2) k
  have pre11 : Lead p e below G (s₁.setTop (mkF m 38 #[.val (.int p0), .val (.int p1), .val (.int p2)] [(.int (if p1 < p0 then (if p0 < p2 then (0 : Int32) else (if p1 < p2 then (1 : Int32) else (0 : Int32))) else (if p0 < p2 then (if p1 < p2 then (1 : Int32) else (0 : Int32)) else (1 : Int32))))])) := fun t k => by
    refine pre0 t ?_
    show Steps p.tables e below (s₁.setTop (mkF m 0 #[.val (.int p0), .val (.int p1), .val (.int p2)] [])) _
    refine XS.iloadN X0.here hx rfl (hb hby d11_0) rfl ?_
    refine XS.iloadN X0.here hx rfl (hb hby d11_1) rfl ?_
    show Steps p.tables e below (s₁.setTop (mkF m 2 #[.val (.int p0), .val (.int p1), .val (.int p2)] [(.int p1), (.int p0)])) _
    have j10 : ∀ t, Steps p.tables e below (s₁.setTop (mkF m 38 #[.val (.int p0), .val (.int p1), .val (.int p2)] [(.int (if p1 < p0 then (if p0 < p2 then (0 : Int32) else (if p1 < p2 then (1 : Int32) else (0 : Int32))) else (if p0 < p2 then (if p1 < p2 then (1 : Int32) else (0 : Int32)) else (1 : Int32))))])) t → Steps p.tables e below (s₁.setTop (mkF m 2 #[.val (.int p0), .val (.int p1), .val (.int p2)] [(.int p1), (.int p0)])) t := fun t k => by
      by_cases hc2_1 : p1 < p0
      · simp only [if_pos hc2_1] at k
        refine XS.icmpYes X0.here hx rfl (pc0 := 2) (pc' := 23) rfl (hb hby d11_2) rfl (tlt hc2_1).2.2.1 (by decide) (by decide) ?_
        show Steps p.tables e below (s₁.setTop (mkF m 23 #[.val (.int p0), .val (.int p1), .val (.int p2)] [])) _
        refine XS.iloadN X0.here hx rfl (hb hby d11_23) rfl ?_
        refine XS.iloadN X0.here hx rfl (hb hby d11_24) rfl ?_
        show Steps p.tables e below (s₁.setTop (mkF m 25 #[.val (.int p0), .val (.int p1), .val (.int p2)] [(.int p0), (.int p2)])) _
        have j5 : ∀ t, Steps p.tables e below (s₁.setTop (mkF m 38 #[.val (.int p0), .val (.int p1), .val (.int p2)] [(.int (if p0 < p2 then (0 : Int32) else (if p1 < p2 then (1 : Int32) else (0 : Int32))))])) t → Steps p.tables e below (s₁.setTop (mkF m 25 #[.val (.int p0), .val (.int p1), .val (.int p2)] [(.int p0), (.int p2)])) t := fun t k => by
          by_cases hc25_2 : p0 < p2
          · simp only [if_pos hc25_2] at k
            refine XS.icmpYes X0.here hx rfl (pc0 := 25) (pc' := 37) rfl (hb hby d11_25) rfl (tlt hc25_2).2.2.1 (by decide) (by decide) ?_
            refine XS.iconst X0.here hx rfl (hb hby d11_37) ?_
            show Steps p.tables e below (s₁.setTop (mkF m 38 #[.val (.int p0), .val (.int p1), .val (.int p2)] [(.int (0 : Int32))])) _
            exact k
          · simp only [if_neg hc25_2] at k
            refine XS.icmpNo X0.here hx rfl (hb hby d11_25) rfl (flt hc25_2).2.2.1 ?_
            refine XS.iloadN X0.here hx rfl (hb hby d11_28) rfl ?_
            refine XS.iloadN X0.here hx rfl (hb hby d11_29) rfl ?_
            show Steps p.tables e below (s₁.setTop (mkF m 30 #[.val (.int p0), .val (.int p1), .val (.int p2)] [(.int p1), (.int p2)])) _
            have j4 : ∀ t, Steps p.tables e below (s₁.setTop (mkF m 38 #[.val (.int p0), .val (.int p1), .val (.int p2)] [(.int (if p1 < p2 then (1 : Int32) else (0 : Int32)))])) t → Steps p.tables e below (s₁.setTop (mkF m 30 #[.val (.int p0), .val (.int p1), .val (.int p2)] [(.int p1), (.int p2)])) t := fun t k => by
              by_cases hc30_3 : p1 < p2
              · simp only [if_pos hc30_3] at k
                refine XS.icmpNo X0.here hx rfl (hb hby d11_30) rfl (tlt hc30_3).2.2.2 ?_
                show Steps p.tables e below (s₁.setTop (mkF m 33 #[.val (.int p0), .val (.int p1), .val (.int p2)] [])) _
                refine XS.iconst X0.here hx rfl (hb hby d11_33) ?_
                refine XS.goto X0.here hx rfl (pc0 := 34) (pc' := 38) rfl (hb hby d11_34) (by decide) (by decide) ?_
                exact k
              · simp only [if_neg hc30_3] at k
                refine XS.icmpYes X0.here hx rfl (pc0 := 30) (pc' := 37) rfl (hb hby d11_30) rfl (flt hc30_3).2.2.2 (by decide) (by decide) ?_
                show Steps p.tables e below (s₁.setTop (mkF m 37 #[.val (.int p0), .val (.int p1), .val (.int p2)] [])) _
                refine XS.iconst X0.here hx rfl (hb hby d11_37) ?_
                exact k
            refine j4 _ ?_
            show Steps p.tables e below (s₁.setTop (mkF m 38 #[.val (.int p0), .val (.int p1), .val (.int p2)] [(.int (if p1 < p2 then (1 : Int32) else (0 : Int32)))])) _
            exact k
        refine j5 _ ?_
        show Steps p.tables e below (s₁.setTop (mkF m 38 #[.val (.int p0), .val (.int p1), .val (.int p2)] [(.int (if p0 < p2 then (0 : Int32) else (if p1 < p2 then (1 : Int32) else (0 : Int32))))])) _
        exact k
      · simp only [if_neg hc2_1] at k
        refine XS.icmpNo X0.here hx rfl (hb hby d11_2) rfl (flt hc2_1).2.2.1 ?_
        refine XS.iloadN X0.here hx rfl (hb hby d11_5) rfl ?_
        show Steps p.tables e below (s₁.setTop (mkF m 6 #[.val (.int p0), .val (.int p1), .val (.int p2)] [(.int p2)])) _
        refine XS.iloadN X0.here hx rfl (hb hby d11_6) rfl ?_
        show Steps p.tables e below (s₁.setTop (mkF m 7 #[.val (.int p0), .val (.int p1), .val (.int p2)] [(.int p0), (.int p2)])) _
        have j9 : ∀ t, Steps p.tables e below (s₁.setTop (mkF m 38 #[.val (.int p0), .val (.int p1), .val (.int p2)] [(.int (if p0 < p2 then (if p1 < p2 then (1 : Int32) else (0 : Int32)) else (1 : Int32)))])) t → Steps p.tables e below (s₁.setTop (mkF m 7 #[.val (.int p0), .val (.int p1), .val (.int p2)] [(.int p0), (.int p2)])) t := fun t k => by
          by_cases hc7_6 : p0 < p2
          · simp only [if_pos hc7_6] at k
            refine XS.icmpNo X0.here hx rfl (hb hby d11_7) rfl (tlt hc7_6).2.2.2 ?_
            refine XS.iloadN X0.here hx rfl (hb hby d11_10) rfl ?_
            refine XS.iloadN X0.here hx rfl (hb hby d11_11) rfl ?_
            show Steps p.tables e below (s₁.setTop (mkF m 12 #[.val (.int p0), .val (.int p1), .val (.int p2)] [(.int p1), (.int p2)])) _
            have j8 : ∀ t, Steps p.tables e below (s₁.setTop (mkF m 38 #[.val (.int p0), .val (.int p1), .val (.int p2)] [(.int (if p1 < p2 then (1 : Int32) else (0 : Int32)))])) t → Steps p.tables e below (s₁.setTop (mkF m 12 #[.val (.int p0), .val (.int p1), .val (.int p2)] [(.int p1), (.int p2)])) t := fun t k => by
              by_cases hc12_7 : p1 < p2
              · simp only [if_pos hc12_7] at k
                refine XS.icmpNo X0.here hx rfl (hb hby d11_12) rfl (tlt hc12_7).2.2.2 ?_
                show Steps p.tables e below (s₁.setTop (mkF m 15 #[.val (.int p0), .val (.int p1), .val (.int p2)] [])) _
                refine XS.iconst X0.here hx rfl (hb hby d11_15) ?_
                refine XS.goto X0.here hx rfl (pc0 := 16) (pc' := 38) rfl (hb hby d11_16) (by decide) (by decide) ?_
                exact k
              · simp only [if_neg hc12_7] at k
                refine XS.icmpYes X0.here hx rfl (pc0 := 12) (pc' := 19) rfl (hb hby d11_12) rfl (flt hc12_7).2.2.2 (by decide) (by decide) ?_
                show Steps p.tables e below (s₁.setTop (mkF m 19 #[.val (.int p0), .val (.int p1), .val (.int p2)] [])) _
                refine XS.iconst X0.here hx rfl (hb hby d11_19) ?_
                refine XS.goto X0.here hx rfl (pc0 := 20) (pc' := 38) rfl (hb hby d11_20) (by decide) (by decide) ?_
                exact k
            refine j8 _ ?_
            show Steps p.tables e below (s₁.setTop (mkF m 38 #[.val (.int p0), .val (.int p1), .val (.int p2)] [(.int (if p1 < p2 then (1 : Int32) else (0 : Int32)))])) _
            exact k
          · simp only [if_neg hc7_6] at k
            refine XS.icmpYes X0.here hx rfl (pc0 := 7) (pc' := 15) rfl (hb hby d11_7) rfl (flt hc7_6).2.2.2 (by decide) (by decide) ?_
            show Steps p.tables e below (s₁.setTop (mkF m 15 #[.val (.int p0), .val (.int p1), .val (.int p2)] [])) _
            refine XS.iconst X0.here hx rfl (hb hby d11_15) ?_
            refine XS.goto X0.here hx rfl (pc0 := 16) (pc' := 38) rfl (hb hby d11_16) (by decide) (by decide) ?_
            exact k
        refine j9 _ ?_
        show Steps p.tables e below (s₁.setTop (mkF m 38 #[.val (.int p0), .val (.int p1), .val (.int p2)] [(.int (if p0 < p2 then (if p1 < p2 then (1 : Int32) else (0 : Int32)) else (1 : Int32)))])) _
        exact k
    refine j10 _ ?_
    show Steps p.tables e below (s₁.setTop (mkF m 38 #[.val (.int p0), .val (.int p1), .val (.int p2)] [(.int (if p1 < p0 then (if p0 < p2 then (0 : Int32) else (if p1 < p2 then (1 : Int32) else (0 : Int32))) else (if p0 < p2 then (if p1 < p2 then (1 : Int32) else (0 : Int32)) else (1 : Int32))))])) _
    exact k
  obtain ⟨v12, hv12⟩ : ∃ z : Int32, z = (if p1 < p0 then (if p0 < p2 then (0 : Int32) else (if p1 < p2 then (1 : Int32) else (0 : Int32))) else (if p0 < p2 then (if p1 < p2 then (1 : Int32) else (0 : Int32)) else (1 : Int32))) := ⟨_, rfl⟩
  have pre12 : Lead p e below G (s₁.setTop (mkF m 38 #[.val (.int p0), .val (.int p1), .val (.int p2)] [(.int v12)])) := by rw [hv12]; exact pre11
  obtain ⟨fs, hr, hrun, hended, hW, hsame⟩ := X0.leave (v := some (.int (nar .boolean v12))) (fun h => by rw [Bd.returns] at h; cases h)
  have preF : Lead p e below (s₁.setTop (entryFrame m #[(.int p0), (.int p1), (.int p2)] 3)) (s₁.setTop (mkF m 38 #[.val (.int p0), .val (.int p1), .val (.int p2)] [(.int v12)])) := by rw [← hG]; exact pre12
  refine ⟨_, _, preF _ ?_, hrun, hended, _, _, rfl, ?_, ⟨_, rfl⟩, hW, hsame.mono (by decide) (by decide)⟩
  · show Steps p.tables e below (s₁.setTop (mkF m 38 #[.val (.int p0), .val (.int p1), .val (.int p2)] [(.int v12)])) _
    exact retN X0 hx (t := .boolean) Bd.returns (by simp) (hb hby d11_38) hr
  · show Q11 Z p0 p1 p2 h0 n0 _ s₁.heap _
    rw [e0]
    have hv_ : (nar .boolean v12) = F11 p0 p1 p2 := (aux11_13 p0 p1 p2 v12 hv12)
    exact ⟨congrArg (fun z => some (Value.int z)) hv_, N0, rfl⟩
theorem own_max (x : Int32) : (x &&& (2147483647 : Int32)).toInt = x.toInt % 2 ^ 31 := Jvm.Kit.i32_mask x _ (k := 31) (by decide) (by decide)
theorem own_rem (a k : Int32) (ha : 0 ≤ a.toInt) (hk : 0 < k.toInt) : (a - a / k * k).toInt = a.toInt % k.toInt := by
  have b1 := Int32.le_toInt a; have b2 := Int32.toInt_lt a
  have d : (a / k).toInt = a.toInt / k.toInt := by rw [Jvm.Kit.i32_div (by omega), Int.tdiv_eq_ediv_of_nonneg ha]
  have q0 : 0 ≤ a.toInt / k.toInt := Int.ediv_nonneg ha (by omega)
  have q1 : a.toInt / k.toInt * k.toInt ≤ a.toInt := Int.ediv_mul_le _ (by omega)
  have q2 : 0 ≤ a.toInt / k.toInt * k.toInt := Int.mul_nonneg q0 (by omega)
  have m : (a / k * k).toInt = a.toInt / k.toInt * k.toInt := by rw [Jvm.Kit.i32_mul, d] <;> rw [d] <;> omega
  rw [Jvm.Kit.i32_sub (by omega) (by omega), m, Int.emod_def, Int.mul_comm]
theorem own_nar0 : nar .boolean (0 : Int32) = 0 := by decide
theorem own_nar1 : nar .boolean (1 : Int32) = 1 := by decide
theorem own_nat {a : Int32} {k : Nat} (h : a.toInt ≤ k) : a.toNatClampNeg ≤ k := by
  show a.toInt.toNat ≤ k
  omega
def TL (g : Nat → Int32) : Nat → List Int32
  | 0 => []
  | k + 1 => if g k = -1 then TL g k else TL g k ++ [g k]
theorem tl_ext {g g' : Nat → Int32} : ∀ L, (∀ k, k < L → g k = g' k) → TL g L = TL g' L
  | 0, _ => rfl
  | L + 1, h => by
    show (if g L = -1 then TL g L else TL g L ++ [g L]) = (if g' L = -1 then TL g' L else TL g' L ++ [g' L])
    rw [tl_ext L (fun k hk => h k (by omega)), h L (by omega)]
theorem tl_upd (g : Nat → Int32) (i : Nat) (v : Int32) (hv : v ≠ -1) : ∀ L, i < L → List.Perm (TL (updF g i v) L) (v :: TL (updF g i (-1)) L)
  | 0, h => absurd h (Nat.not_lt_zero _)
  | L + 1, h => by
    show List.Perm (if (updF g i v) L = -1 then TL (updF g i v) L else TL (updF g i v) L ++ [(updF g i v) L]) (v :: (if (updF g i (-1)) L = -1 then TL (updF g i (-1)) L else TL (updF g i (-1)) L ++ [(updF g i (-1)) L]))
    by_cases e : L = i
    · subst e
      have e1 : (updF g L v) L = v := if_pos rfl
      have e2 : (updF g L (-1)) L = -1 := if_pos rfl
      rw [e1, e2, if_neg hv, if_pos rfl, tl_ext (g := updF g L v) (g' := updF g L (-1)) L (fun k hk => by unfold updF; rw [if_neg (by omega), if_neg (by omega)])]
      exact List.perm_append_singleton _ _
    · have e1 : (updF g i v) L = g L := if_neg e
      have e2 : (updF g i (-1)) L = g L := if_neg e
      rw [e1, e2]
      have ih := tl_upd g i v hv L (by omega)
      by_cases q : g L = -1
      · rw [if_pos q, if_pos q]; exact ih
      · rw [if_neg q, if_neg q]; exact ih.append_right [g L]
theorem tl_mem (g : Nat → Int32) (v : Int32) : ∀ L, v ∈ TL g L ↔ v ≠ -1 ∧ ∃ k, k < L ∧ g k = v
  | 0 => by simp [TL]
  | L + 1 => by
    have ih := tl_mem g v L
    show v ∈ (if g L = -1 then TL g L else TL g L ++ [g L]) ↔ _
    by_cases q : g L = -1
    · rw [if_pos q, ih]
      constructor
      · rintro ⟨h1, k, h2, h3⟩; exact ⟨h1, k, by omega, h3⟩
      · rintro ⟨h1, k, h2, h3⟩
        refine ⟨h1, k, ?_, h3⟩
        have : k ≠ L := fun e => by subst e; exact h1 (h3.symm.trans q)
        omega
    · rw [if_neg q, List.mem_append, List.mem_singleton, ih]
      constructor
      · rintro (⟨h1, k, h2, h3⟩ | h)
        · exact ⟨h1, k, by omega, h3⟩
        · subst h; exact ⟨q, L, by omega, rfl⟩
      · rintro ⟨h1, k, h2, h3⟩
        by_cases e : k = L
        · subst e; exact Or.inr h3.symm
        · exact Or.inl ⟨h1, k, by omega, h3⟩
theorem tl_full (g : Nat → Int32) : ∀ L, (∀ k, k < L → g k ≠ -1) → (TL g L).length = L
  | 0, _ => rfl
  | L + 1, h => by
    show (if g L = -1 then TL g L else TL g L ++ [g L]).length = L + 1
    rw [if_neg (h L (by omega)), List.length_append, tl_full g L (fun k hk => h k (by omega))]; rfl
theorem tl_le (g : Nat → Int32) : ∀ L, (TL g L).length ≤ L
  | 0 => Nat.le_refl _
  | L + 1 => by
    have ih := tl_le g L
    show (if g L = -1 then TL g L else TL g L ++ [g L]).length ≤ L + 1
    split
    · omega
    · rw [List.length_append]; simp; omega
theorem tl_empty (g : Nat → Int32) (L : Nat) (h : (TL g L).length < L) : ∃ e, e < L ∧ g e = -1 := by
  apply Classical.byContradiction
  intro c
  have := tl_full g L (fun k hk q => c ⟨k, hk, q⟩)
  omega
/-- an empty place is filled -/
theorem tl_put (g : Nat → Int32) (i L : Nat) (v : Int32) (hv : v ≠ -1) (hi : i < L) (he : g i = -1) : List.Perm (TL (updF g i v) L) (v :: TL g L) := by
  have e : TL (updF g i (-1)) L = TL g L := tl_ext L (fun k hk => by
    unfold updF
    by_cases q : k = i
    · rw [if_pos q, q, he]
    · rw [if_neg q])
  rw [← e]; exact tl_upd g i v hv L hi
/-- a filled place is emptied -/
theorem tl_take (g : Nat → Int32) (i L : Nat) (hi : i < L) (he : g i ≠ -1) : List.Perm (TL g L) (g i :: TL (updF g i (-1)) L) := by
  have e : TL (updF g i (g i)) L = TL g L := tl_ext L (fun k hk => by
    unfold updF
    by_cases q : k = i
    · rw [if_pos q, q]
    · rw [if_neg q])
  rw [← e]; exact tl_upd g i (g i) he L hi
/-- the hole moves -/
theorem tl_shift (g : Nat → Int32) (i j L : Nat) (hi : i < L) (hj : j < L) (hij : i ≠ j) (he : g j ≠ -1) : List.Perm (TL (updF (updF g i (g j)) j (-1)) L) (TL (updF g i (-1)) L) := by
  have a : TL (updF (updF g i (g j)) j (-1)) L = TL (updF (updF g j (-1)) i (g j)) L := tl_ext L (fun k hk => by
    unfold updF
    by_cases q : k = j
    · subst q; rw [if_pos rfl, if_neg (Ne.symm hij), if_pos rfl]
    · rw [if_neg q, if_neg q])
  have b : List.Perm (TL (updF (updF g j (-1)) i (g j)) L) (g j :: TL (updF (updF g j (-1)) i (-1)) L) := tl_upd _ i (g j) he L hi
  have c : List.Perm (TL (updF g i (-1)) L) ((updF g i (-1)) j :: TL (updF (updF g i (-1)) j (-1)) L) := tl_take (updF g i (-1)) j L hj (by unfold updF; rw [if_neg (Ne.symm hij)]; exact he)
  have d : (updF g i (-1)) j = g j := if_neg (Ne.symm hij)
  have e : TL (updF (updF g j (-1)) i (-1)) L = TL (updF (updF g i (-1)) j (-1)) L := tl_ext L (fun k hk => by
    unfold updF
    by_cases q : k = j
    · subst q; rw [if_pos rfl, if_neg (Ne.symm hij), if_pos rfl]
    · rw [if_neg q, if_neg q])
  rw [a]
  rw [d, ← e] at c
  exact b.trans c.symm
/-! probing -/
def PR (g : Nat → Int32) (L : Nat) (hm : Int32 → Nat) : Prop := ∀ i, i < L → g i ≠ -1 → ∀ k, k < (i + L - hm (g i)) % L → g ((hm (g i) + k) % L) ≠ -1
theorem pr_absent {g : Nat → Int32} {L : Nat} {hm : Int32 → Nat} {m : Int32} {t : Nat} (hL : L = 4 ∨ L = 8) (hh : hm m < L) (p : PR g L hm) (ht : t < L) (hv : ∀ k, k < t → g ((hm m + k) % L) ≠ -1 ∧ g ((hm m + k) % L) ≠ m) (he : g ((hm m + t) % L) = -1) (hm1 : m ≠ -1) : m ∉ TL g L := by
  intro hin
  obtain ⟨-, i, hi, gi⟩ := (tl_mem g m L).mp hin
  have d : (hm m + (i + L - hm m) % L) % L = i := by rcases hL with rfl | rfl <;> omega
  have dl : (i + L - hm m) % L < L := by rcases hL with rfl | rfl <;> omega
  by_cases c : (i + L - hm m) % L < t
  · have q := (hv _ c).2
    rw [d] at q; exact q gi
  · by_cases c2 : (i + L - hm m) % L = t
    · rw [← c2, d, gi] at he; exact hm1 he
    · have q := p i hi (by rw [gi]; exact hm1) t (by rw [gi]; omega)
      rw [gi] at q; exact q he
theorem pr_put {g : Nat → Int32} {L : Nat} {hm : Int32 → Nat} {m : Int32} {t : Nat} (hL : L = 4 ∨ L = 8) (hh : hm m < L) (p : PR g L hm) (ht : t < L) (hv : ∀ k, k < t → g ((hm m + k) % L) ≠ -1) (he : g ((hm m + t) % L) = -1) (hm1 : m ≠ -1) : PR (updF g ((hm m + t) % L) m) L hm := by
  intro i hi gi k hk
  have keep : ∀ x, g x ≠ -1 → (updF g ((hm m + t) % L) m) x ≠ -1 := fun x hx => by
    unfold updF
    by_cases q : x = (hm m + t) % L
    · rw [if_pos q]; exact hm1
    · rw [if_neg q]; exact hx
  by_cases e : i = (hm m + t) % L
  · have v : (updF g ((hm m + t) % L) m) i = m := if_pos e
    rw [v] at hk ⊢
    have : (i + L - hm m) % L = t := by subst e; rcases hL with rfl | rfl <;> omega
    rw [this] at hk
    exact keep _ (hv k hk)
  · have v : (updF g ((hm m + t) % L) m) i = g i := if_neg e
    rw [v] at hk gi ⊢
    exact keep _ (p i hi gi k hk)
theorem pr_lt {g : Nat → Int32} {L : Nat} {hm : Int32 → Nat} {m : Int32} {t : Nat} (hL : L = 4 ∨ L = 8) (hh : hm m < L) (hv : ∀ k, k < t → g ((hm m + k) % L) ≠ -1) (he : ∃ e, e < L ∧ g e = -1) : t < L := by
  obtain ⟨e, h1, h2⟩ := he
  apply Classical.byContradiction
  intro c
  have d : (hm m + (e + L - hm m) % L) % L = e := by rcases hL with rfl | rfl <;> omega
  have q := hv ((e + L - hm m) % L) (by rcases hL with rfl | rfl <;> omega)
  rw [d] at q; exact q h2
theorem pr_new (L : Nat) (hm : Int32 → Nat) (g : Nat → Int32) (h : ∀ k, k < L → g k = -1) : PR g L hm := fun i hi gi => absurd (h i hi) gi
theorem tl_new (g : Nat → Int32) : ∀ L, (∀ k, k < L → g k = -1) → TL g L = []
  | 0, _ => rfl
  | L + 1, h => by
    show (if g L = -1 then TL g L else TL g L ++ [g L]) = []
    rw [if_pos (h L (by omega)), tl_new g L (fun k hk => h k (by omega))]

theorem own_inc {iv n : Int32} (q : iv < n) (h : 0 ≤ iv.toInt) : (iv + 1).toInt = iv.toInt + 1 := by
  have c1 : (1 : Int32).toInt = 1 := by decide
  have b := Int32.toInt_lt n
  rw [Int32.lt_iff_toInt_lt] at q
  rw [Jvm.Kit.i32_add (by omega) (by omega), c1]
theorem own_nonneg {n : Int32} (h : ¬ n < 0) : 0 ≤ n.toInt := by rw [Int32.lt_iff_toInt_lt, Int32.toInt_zero] at h; omega
theorem own_i0 {n : Int32} (h : ¬ n < 0) : 0 ≤ (0 : Int32).toInt ∧ (0 : Int32).toInt ≤ n.toInt := ⟨by decide, by rw [Int32.toInt_zero]; exact own_nonneg h⟩
theorem own_nx {iv n : Int32} (q : iv < n) (h : 0 ≤ iv.toInt ∧ iv.toInt ≤ n.toInt) : 0 ≤ (iv + 1).toInt ∧ (iv + 1).toInt ≤ n.toInt := by
  rw [own_inc q h.1]; rw [Int32.lt_iff_toInt_lt] at q; omega
theorem own_dec {iv n : Int32} (q : iv < n) (h : 0 ≤ iv.toInt ∧ iv.toInt ≤ n.toInt) : (n.toInt - (iv + 1).toInt).toNat < (n.toInt - iv.toInt).toNat := by
  rw [own_inc q h.1]; rw [Int32.lt_iff_toInt_lt] at q; omega
theorem own_bd {iv n : Int32} (h : 0 ≤ iv.toInt) (q : iv < n) : ¬ iv < 0 ∧ iv < n := ⟨by rw [Int32.lt_iff_toInt_lt, Int32.toInt_zero]; omega, q⟩
theorem own_fl {iv n v : Int32} {gr : Nat → Int32} (q : iv < n) (h : 0 ≤ iv.toInt) (hd : ∀ j, j < iv.toInt.toNat → gr j = v) : ∀ j, j < (iv + 1).toInt.toNat → (updF gr iv.toNatClampNeg v) j = v := by
  intro j hj
  rw [own_inc q h] at hj
  unfold updF
  by_cases e : j = iv.toNatClampNeg
  · rw [if_pos e]
  · have e' : ¬ j = iv.toInt.toNat := e
    rw [if_neg e]; exact hd j (by omega)
theorem own_fn {iv n v : Int32} {gr : Nat → Int32} (q : ¬ iv < n) (h : 0 ≤ iv.toInt ∧ iv.toInt ≤ n.toInt) (hd : ∀ j, j < iv.toInt.toNat → gr j = v) : ∀ j, j < n.toInt.toNat → gr j = v := by
  rw [Int32.lt_iff_toInt_lt] at q
  intro j hj; exact hd j (by omega)
/-! the table of length 4 or 8, its home places and its probe roads -/
def HM (L m : Int32) : Nat := (F6 m (L - 1)).toInt.toNat
def L48 (L : Int32) : Prop := L.toInt = 4 ∨ L.toInt = 8
theorem own_lcase {L : Int32} (h : L48 L) : L = 4 ∨ L = 8 := h.elim (fun h => Or.inl (Int32.toInt_inj.mp (by rw [h]; decide))) (fun h => Or.inr (Int32.toInt_inj.mp (by rw [h]; decide)))
theorem own_msk {L : Int32} (h : L48 L) (x : Int32) : (x &&& (L - 1)).toInt = x.toInt % L.toInt := by
  rcases own_lcase h with rfl | rfl
  · have := Jvm.Kit.i32_mask x ((4 : Int32) - 1) (k := 2) (by decide) (by decide)
    rw [this]; rfl
  · have := Jvm.Kit.i32_mask x ((8 : Int32) - 1) (k := 3) (by decide) (by decide)
    rw [this]; rfl
theorem own_mr {L : Int32} (h : L48 L) (x : Int32) : 0 ≤ (x &&& (L - 1)).toInt ∧ (x &&& (L - 1)).toInt < L.toInt := by
  rw [own_msk h]; rcases h with h | h <;> rw [h] <;> omega
theorem own_hmr {L : Int32} (h : L48 L) (m : Int32) : 0 ≤ (F6 m (L - 1)).toInt ∧ (F6 m (L - 1)).toInt < L.toInt := own_mr h _
theorem own_hm {L : Int32} (h : L48 L) (m : Int32) : HM L m < L.toInt.toNat := by
  have := own_hmr h m; unfold HM; omega
theorem own_ln {L : Int32} (h : L48 L) : L.toInt.toNat = 4 ∨ L.toInt.toNat = 8 := by rcases h with h | h <;> rw [h] <;> decide
theorem own_step {L i : Int32} (h : L48 L) (hi : 0 ≤ i.toInt ∧ i.toInt < L.toInt) : ((i + 1) &&& (L - 1)).toInt.toNat = (i.toInt.toNat + 1) % L.toInt.toNat := by
  have c1 : (1 : Int32).toInt = 1 := by decide
  rw [own_msk h, Jvm.Kit.i32_add (by rcases h with h | h <;> omega) (by rcases h with h | h <;> omega), c1]
  obtain ⟨h1, h2⟩ := hi
  rcases h with h | h <;> rw [h] at h2 ⊢
  · show _ = _ % 4
    omega
  · show _ = _ % 8
    omega
/-- how far the place i lies behind m's home -/
def PT (L m i : Int32) : Nat := (i.toInt.toNat + L.toInt.toNat - HM L m) % L.toInt.toNat
theorem own_ptl {L : Int32} (h : L48 L) (m i : Int32) : PT L m i < L.toInt.toNat := Nat.mod_lt _ (by rcases own_ln h with h | h <;> omega)
theorem own_pti {L : Int32} (h : L48 L) (m : Int32) {i : Int32} (hi : 0 ≤ i.toInt ∧ i.toInt < L.toInt) : (HM L m + PT L m i) % L.toInt.toNat = i.toInt.toNat := by
  have a := own_hm h m
  have b : i.toInt.toNat < L.toInt.toNat := by omega
  unfold PT
  rcases own_ln h with e | e <;> rw [e] at a b ⊢ <;> omega
theorem own_ptn {L m i : Int32} (h : L48 L) (hi : 0 ≤ i.toInt ∧ i.toInt < L.toInt) (ht : PT L m i + 1 < L.toInt.toNat) : PT L m ((i + 1) &&& (L - 1)) = PT L m i + 1 := by
  have a := own_hm h m
  have b : i.toInt.toNat < L.toInt.toNat := by omega
  unfold PT at ht ⊢
  rw [own_step h hi]
  rcases own_ln h with e | e <;> rw [e] at a b ht ⊢ <;> omega
/-- i is a place, and none before it on m's road is empty -/
def VT (g : Nat → Int32) (L m i : Int32) : Prop := (0 ≤ i.toInt ∧ i.toInt < L.toInt) ∧ ∀ k, k < PT L m i → g ((HM L m + k) % L.toInt.toNat) ≠ -1
def VM (g : Nat → Int32) (L m i : Int32) : Prop := ∀ k, k < PT L m i → g ((HM L m + k) % L.toInt.toNat) ≠ m
theorem own_pt0 {L : Int32} (h : L48 L) (m : Int32) : PT L m (F6 m (L - 1)) = 0 := by
  unfold PT
  show (HM L m + L.toInt.toNat - HM L m) % L.toInt.toNat = 0
  rw [Nat.add_sub_cancel_left, Nat.mod_self]
theorem vt0 {L : Int32} (h : L48 L) (g : Nat → Int32) (m : Int32) : VT g L m (F6 m (L - 1)) := ⟨own_hmr h m, fun k hk => by rw [own_pt0 h] at hk; exact absurd hk (Nat.not_lt_zero k)⟩
theorem vm0 {L : Int32} (h : L48 L) (g : Nat → Int32) (m : Int32) : VM g L m (F6 m (L - 1)) := fun k hk => by rw [own_pt0 h] at hk; exact absurd hk (Nat.not_lt_zero k)
theorem own_pt1 {g : Nat → Int32} {L m i : Int32} (h : L48 L) (v : VT g L m i) (q : ¬ g i.toNatClampNeg = -1) (he : (TL g L.toInt.toNat).length < L.toInt.toNat) : PT L m i + 1 < L.toInt.toNat := by
  refine pr_lt (own_ln h) (own_hm h m) (fun k hk => ?_) (tl_empty g _ he)
  by_cases e : k < PT L m i
  · exact v.2 k e
  · have e' : k = PT L m i := by omega
    rw [e', own_pti h m v.1]; exact q
theorem vt1 {g : Nat → Int32} {L m i : Int32} (h : L48 L) (v : VT g L m i) (q : ¬ g i.toNatClampNeg = -1) (he : (TL g L.toInt.toNat).length < L.toInt.toNat) : VT g L m ((i + 1) &&& (L - 1)) := by
  refine ⟨own_mr h _, fun k hk => ?_⟩
  rw [own_ptn h v.1 (own_pt1 h v q he)] at hk
  by_cases e : k < PT L m i
  · exact v.2 k e
  · have e' : k = PT L m i := by omega
    rw [e', own_pti h m v.1]; exact q
theorem vm1 {g : Nat → Int32} {L m i : Int32} (h : L48 L) (v : VT g L m i) (w : VM g L m i) (q : ¬ g i.toNatClampNeg = -1) (q' : ¬ g i.toNatClampNeg = m) (he : (TL g L.toInt.toNat).length < L.toInt.toNat) : VM g L m ((i + 1) &&& (L - 1)) := by
  intro k hk
  rw [own_ptn h v.1 (own_pt1 h v q he)] at hk
  by_cases e : k < PT L m i
  · exact w k e
  · have e' : k = PT L m i := by omega
    rw [e', own_pti h m v.1]; exact q'
theorem vd1 {g : Nat → Int32} {L m i : Int32} (h : L48 L) (v : VT g L m i) (q : ¬ g i.toNatClampNeg = -1) (he : (TL g L.toInt.toNat).length < L.toInt.toNat) : L.toInt.toNat - PT L m ((i + 1) &&& (L - 1)) < L.toInt.toNat - PT L m i := by
  have a := own_pt1 h v q he
  rw [own_ptn h v.1 a]; omega
theorem vb {g : Nat → Int32} {L m i : Int32} (v : VT g L m i) : ¬ i < 0 ∧ i < L := by
  have a := v.1
  rw [Int32.lt_iff_toInt_lt, Int32.lt_iff_toInt_lt, Int32.toInt_zero]; omega
/-- an empty place ends m's road: m is not in -/
theorem vt_absent {g : Nat → Int32} {L m i : Int32} (h : L48 L) (p : PR g L.toInt.toNat (HM L)) (v : VT g L m i) (w : VM g L m i) (q : g i.toNatClampNeg = -1) (hm : m ≠ -1) : m ∉ TL g L.toInt.toNat :=
  pr_absent (own_ln h) (own_hm h m) p (own_ptl h m i) (fun k hk => ⟨v.2 k hk, w k hk⟩) (by rw [own_pti h m v.1]; exact q) hm
theorem vt_pr {g : Nat → Int32} {L m i : Int32} (h : L48 L) (p : PR g L.toInt.toNat (HM L)) (v : VT g L m i) (q : g i.toNatClampNeg = -1) (hm : m ≠ -1) : PR (updF g i.toNatClampNeg m) L.toInt.toNat (HM L) := by
  have := pr_put (own_ln h) (own_hm h m) p (own_ptl h m i) v.2 (by rw [own_pti h m v.1]; exact q) hm
  rw [own_pti h m v.1] at this; exact this
theorem vt_il {g : Nat → Int32} {L m i : Int32} (v : VT g L m i) : i.toNatClampNeg < L.toInt.toNat := by have := v.1; show i.toInt.toNat < _; omega
theorem vt_put {g : Nat → Int32} {L m i : Int32} (v : VT g L m i) (q : g i.toNatClampNeg = -1) (hm : m ≠ -1) : List.Perm (TL (updF g i.toNatClampNeg m) L.toInt.toNat) (m :: TL g L.toInt.toNat) := tl_put g _ _ m hm (vt_il v) q
theorem vt_in {g : Nat → Int32} {L m i : Int32} (v : VT g L m i) (q : g i.toNatClampNeg = m) (hm : m ≠ -1) : m ∈ TL g L.toInt.toNat := (tl_mem g m _).mpr ⟨hm, _, vt_il v, q⟩
/-- the set: length, probe roads, no member twice, the count -/
def IS (g : Nat → Int32) (L n : Int32) : Prop := (L.toInt = 4 ∨ (L.toInt = 8 ∧ 2 ≤ n.toInt)) ∧ PR g L.toInt.toNat (HM L) ∧ (TL g L.toInt.toNat).Nodup ∧ n.toInt = ((TL g L.toInt.toNat).length : Int)
theorem IS.l48 {g : Nat → Int32} {L n : Int32} (h : IS g L n) : L48 L := h.1.elim Or.inl (fun q => Or.inr q.1)
theorem IS.lt {g : Nat → Int32} {L n : Int32} (h : IS g L n) (hn : n.toInt ≤ 3) : (TL g L.toInt.toNat).length < L.toInt.toNat := by
  obtain ⟨a, -, -, d⟩ := h
  rcases a with a | ⟨a, -⟩ <;> rw [a] at d ⊢ <;> omega
/-- resize, one place -/
theorem own_rs0 {ga gr : Nat → Int32} {j : Nat} {R : List Int32} (q : ga j = -1) (hp : List.Perm R (TL ga j)) : List.Perm R (TL ga (j + 1)) := by
  show List.Perm R (if ga j = -1 then TL ga j else TL ga j ++ [ga j])
  rw [if_pos q]; exact hp
theorem own_rs1 {ga : Nat → Int32} {j : Nat} {R R' : List Int32} (q : ¬ ga j = -1) (hp : List.Perm R (TL ga j)) (h2 : List.Perm R' (ga j :: R)) : List.Perm R' (TL ga (j + 1)) := by
  show List.Perm R' (if ga j = -1 then TL ga j else TL ga j ++ [ga j])
  rw [if_neg q]
  exact h2.trans ((hp.cons _).trans (List.perm_append_singleton _ _).symm)
theorem own_tj {ga : Nat → Int32} {jv nl : Int32} {R : List Int32} (q : jv < nl) (h : 0 ≤ jv.toInt) (hp : List.Perm R (TL ga (jv.toInt.toNat + 1))) : List.Perm R (TL ga (jv + 1).toInt.toNat) := by
  rw [own_inc q h, show (jv.toInt + 1).toNat = jv.toInt.toNat + 1 by omega]; exact hp
theorem own_tend {ga : Nat → Int32} {jv nl : Int32} {R : List Int32} (q : ¬ jv < nl) (h : 0 ≤ jv.toInt ∧ jv.toInt ≤ nl.toInt) (hp : List.Perm R (TL ga jv.toInt.toNat)) : List.Perm R (TL ga nl.toInt.toNat) := by
  rw [Int32.lt_iff_toInt_lt] at q
  rw [show nl.toInt = jv.toInt by omega]; exact hp
theorem own_rl {ga gr : Nat → Int32} {jv nl p : Int32} (hn : nl.toInt = 4) (hp : p.toInt = 8) (hi : 0 ≤ jv.toInt ∧ jv.toInt ≤ nl.toInt) (h : List.Perm (TL gr p.toInt.toNat) (TL ga jv.toInt.toNat)) : (TL gr p.toInt.toNat).length < p.toInt.toNat := by
  rw [h.length_eq]
  have := tl_le ga jv.toInt.toNat
  omega
/-! add -/
theorem own_2n {n : Int32} (h0 : 0 ≤ n.toInt) (h : n.toInt ≤ 2) : ((2 : Int32) * (n + 1)).toInt = 2 * (n.toInt + 1) := by
  have c1 : (1 : Int32).toInt = 1 := by decide
  have c2 : (2 : Int32).toInt = 2 := by decide
  have a : (n + 1).toInt = n.toInt + 1 := by rw [Jvm.Kit.i32_add (by omega) (by omega), c1]
  rw [Jvm.Kit.i32_mul (by rw [c2]; omega) (by rw [c2]; omega), a, c2]
theorem own_a4 {g : Nat → Int32} {L n : Int32} (hS : IS g L n) (hn : n.toInt ≤ 2) (q : L < (2 : Int32) * (n + 1)) : L.toInt = 4 ∧ n.toInt = 2 := by
  obtain ⟨a, -, -, d⟩ := hS
  rw [Int32.lt_iff_toInt_lt, own_2n (by omega) hn] at q
  rcases a with a | a <;> omega
theorem own_d8 {L : Int32} (h : L.toInt = 4) : ((2 : Int32) * L).toInt = 8 := by
  have : L = 4 := Int32.toInt_inj.mp (by rw [h]; decide)
  subst this; decide
theorem own_is8 {g gb : Nat → Int32} {L n : Int32} (hS : IS g L n) (hn : n.toInt ≤ 2) (q : L < (2 : Int32) * (n + 1)) (fin : PR gb ((2 : Int32) * L).toInt.toNat (HM ((2 : Int32) * L)) ∧ List.Perm (TL gb ((2 : Int32) * L).toInt.toNat) (TL g L.toInt.toNat)) : IS gb ((2 : Int32) * L) n := by
  obtain ⟨a, b⟩ := own_a4 hS hn q
  exact ⟨Or.inr ⟨own_d8 a, by omega⟩, fin.1, fin.2.nodup_iff.mpr hS.2.2.1, by rw [fin.2.length_eq]; exact hS.2.2.2⟩
theorem own_n1 {g : Nat → Int32} {L n : Int32} (hS : IS g L n) (hn : n.toInt ≤ 2) : (n + 1).toInt = n.toInt + 1 := by
  have c1 : (1 : Int32).toInt = 1 := by decide
  have := hS.2.2.2
  rw [Jvm.Kit.i32_add (by omega) (by omega), c1]
theorem own_isput {g : Nat → Int32} {L n m i : Int32} (hS : IS g L n) (hn : n.toInt ≤ 2) (v : VT g L m i) (w : VM g L m i) (q : g i.toNatClampNeg = -1) (hm : ¬ m = -1) : IS (updF g i.toNatClampNeg m) L (n + 1) := by
  have p := vt_put v q hm
  have e := own_n1 hS hn
  refine ⟨?_, vt_pr hS.l48 hS.2.1 v q hm, p.nodup_iff.mpr (List.nodup_cons.mpr ⟨vt_absent hS.l48 hS.2.1 v w q hm, hS.2.2.1⟩), ?_⟩
  · rcases hS.1 with h | ⟨h, h'⟩
    · exact Or.inl h
    · exact Or.inr ⟨h, by omega⟩
  · rw [e, hS.2.2.2, p.length_eq]; rfl
def ARel (g : Nat → Int32) (L m : Int32) (g2 : Nat → Int32) (L2 : Int32) : Prop := (m ∈ TL g L.toInt.toNat ∧ List.Perm (TL g2 L2.toInt.toNat) (TL g L.toInt.toNat)) ∨ (m ∉ TL g L.toInt.toNat ∧ List.Perm (TL g2 L2.toInt.toNat) (m :: TL g L.toInt.toNat))
theorem own_ar0 {g g2 : Nat → Int32} {L L2 m i : Int32} (pm : List.Perm (TL g2 L2.toInt.toNat) (TL g L.toInt.toNat)) (v : VT g2 L2 m i) (q : g2 i.toNatClampNeg = m) (hm : ¬ m = -1) : ARel g L m g2 L2 := Or.inl ⟨pm.mem_iff.mp (vt_in v q hm), pm⟩
theorem own_ar1 {g g2 : Nat → Int32} {L L2 n m i : Int32} (hS : IS g2 L2 n) (pm : List.Perm (TL g2 L2.toInt.toNat) (TL g L.toInt.toNat)) (v : VT g2 L2 m i) (w : VM g2 L2 m i) (q : g2 i.toNatClampNeg = -1) (hm : ¬ m = -1) : ARel g L m (updF g2 i.toNatClampNeg m) L2 :=
  Or.inr ⟨fun h => vt_absent hS.l48 hS.2.1 v w q hm (pm.mem_iff.mpr h), (vt_put v q hm).trans (pm.cons m)⟩
/-! remove -/
def FE (g : Nat → Int32) : Nat → Nat
  | 0 => 0
  | k + 1 => if g k = -1 then k else FE g k
theorem fe_spec (g : Nat → Int32) : ∀ L, (∃ e, e < L ∧ g e = -1) → FE g L < L ∧ g (FE g L) = -1
  | 0, h => by obtain ⟨e, h, -⟩ := h; exact absurd h (Nat.not_lt_zero e)
  | L + 1, h => by
    show (if g L = -1 then L else FE g L) < L + 1 ∧ g (if g L = -1 then L else FE g L) = -1
    by_cases q : g L = -1
    · rw [if_pos q]; exact ⟨Nat.lt_succ_self L, q⟩
    · rw [if_neg q]
      obtain ⟨e, h1, h2⟩ := h
      have : e ≠ L := fun x => by subst x; exact q h2
      have := fe_spec g L ⟨e, by omega, h2⟩
      exact ⟨by omega, this.2⟩
def DS (L e x : Nat) : Nat := (e + L - x) % L
theorem ds1 {L e x : Nat} (hL : L = 4 ∨ L = 8) (hx : x < L) (he : e < L) (hne : x ≠ e) : DS L e ((x + 1) % L) + 1 = DS L e x := by
  unfold DS; rcases hL with rfl | rfl <;> omega
theorem ds0 {L e : Nat} (hL : L = 4 ∨ L = 8) (he : e < L) : DS L e e = 0 := by
  unfold DS; rcases hL with rfl | rfl <;> omega
/-- the hole iv, the place nv behind it, and an empty place further on -/
def SH (ga gr : Nat → Int32) (L m iv nv : Int32) : Prop := (0 ≤ iv.toInt ∧ iv.toInt < L.toInt) ∧ (0 ≤ nv.toInt ∧ nv.toInt < L.toInt) ∧ FE ga L.toInt.toNat < L.toInt.toNat ∧ gr (FE ga L.toInt.toNat) = -1 ∧ DS L.toInt.toNat (FE ga L.toInt.toNat) nv.toInt.toNat < DS L.toInt.toNat (FE ga L.toInt.toNat) iv.toInt.toNat ∧ List.Perm (m :: TL (updF gr iv.toNatClampNeg (-1)) L.toInt.toNat) (TL ga L.toInt.toNat)
theorem sh0 {g : Nat → Int32} {L m i : Int32} (h : L48 L) (v : VT g L m i) (q : g i.toNatClampNeg = m) (hm : ¬ m = -1) (he : (TL g L.toInt.toNat).length < L.toInt.toNat) : SH g g L m i ((i + 1) &&& (L - 1)) := by
  obtain ⟨a, b⟩ := fe_spec g _ (tl_empty g _ he)
  have il : i.toInt.toNat < L.toInt.toNat := vt_il v
  have ne : i.toInt.toNat ≠ FE g L.toInt.toNat := fun e => by rw [← e] at b; exact hm (q.symm.trans b)
  have d := ds1 (own_ln h) il a ne
  refine ⟨v.1, own_mr h _, a, b, ?_, ?_⟩
  · rw [own_step h v.1]; omega
  · have t := tl_take g i.toNatClampNeg _ (vt_il v) (by rw [q]; exact hm)
    rw [q] at t; exact t.symm
theorem shb {ga gr : Nat → Int32} {L m iv nv : Int32} (s : SH ga gr L m iv nv) : ¬ nv < 0 ∧ nv < L := by
  have a := s.2.1
  rw [Int32.lt_iff_toInt_lt, Int32.lt_iff_toInt_lt, Int32.toInt_zero]; omega
theorem shi {ga gr : Nat → Int32} {L m iv nv : Int32} (s : SH ga gr L m iv nv) : ¬ iv < 0 ∧ iv < L := by
  have a := s.1
  rw [Int32.lt_iff_toInt_lt, Int32.lt_iff_toInt_lt, Int32.toInt_zero]; omega
theorem shn {ga gr : Nat → Int32} {L m iv nv : Int32} (s : SH ga gr L m iv nv) (q : ¬ gr nv.toNatClampNeg = -1) : nv.toInt.toNat ≠ FE ga L.toInt.toNat := fun e => by
  have b := s.2.2.2.1
  rw [← e] at b; exact q b
theorem shd {ga gr : Nat → Int32} {L m iv nv : Int32} (h : L48 L) (s : SH ga gr L m iv nv) (q : ¬ gr nv.toNatClampNeg = -1) : DS L.toInt.toNat (FE ga L.toInt.toNat) ((nv + 1) &&& (L - 1)).toInt.toNat < DS L.toInt.toNat (FE ga L.toInt.toNat) nv.toInt.toNat := by
  have d := ds1 (own_ln h) (show nv.toInt.toNat < L.toInt.toNat by have := s.2.1; omega) s.2.2.1 (shn s q)
  rw [own_step h s.2.1]; omega
theorem sh1 {ga gr : Nat → Int32} {L m iv nv : Int32} (h : L48 L) (s : SH ga gr L m iv nv) (q : ¬ gr nv.toNatClampNeg = -1) : SH ga gr L m iv ((nv + 1) &&& (L - 1)) := by
  have d := shd h s q
  obtain ⟨a, b, c, e, f, p⟩ := s
  exact ⟨a, own_mr h _, c, e, by omega, p⟩
theorem sh2 {ga gr : Nat → Int32} {L m iv nv : Int32} (h : L48 L) (s : SH ga gr L m iv nv) (q : ¬ gr nv.toNatClampNeg = -1) : SH ga (updF gr iv.toNatClampNeg (gr nv.toNatClampNeg)) L m nv ((nv + 1) &&& (L - 1)) := by
  have d := shd h s q
  obtain ⟨a, b, c, e, f, p⟩ := s
  have hL := own_ln h
  have n1 : iv.toInt.toNat ≠ nv.toInt.toNat := fun x => by rw [x] at f; omega
  have n2 : ¬ FE ga L.toInt.toNat = iv.toInt.toNat := fun x => by rw [← x, ds0 hL c] at f; omega
  refine ⟨b, own_mr h _, c, ?_, d, ?_⟩
  · show (if FE ga L.toInt.toNat = iv.toInt.toNat then _ else gr (FE ga L.toInt.toNat)) = -1
    rw [if_neg n2]; exact e
  · exact ((tl_shift gr iv.toInt.toNat nv.toInt.toNat _ (by omega) (by omega) n1 q).cons m).trans p
theorem own_m1 {g : Nat → Int32} {L n m : Int32} (hS : IS g L n) (hn : n.toInt ≤ 3) : (n - 1).toInt = n.toInt - 1 := by
  have c1 : (1 : Int32).toInt = 1 := by decide
  have := hS.2.2.2
  rw [Jvm.Kit.i32_sub (by omega) (by omega), c1]
def RRel (g : Nat → Int32) (L n m : Int32) (g2 : Nat → Int32) (n2 : Int32) : Prop := (m ∉ TL g L.toInt.toNat ∧ TL g2 L.toInt.toNat = TL g L.toInt.toNat ∧ n2.toInt = n.toInt) ∨ (List.Perm (m :: TL g2 L.toInt.toNat) (TL g L.toInt.toNat) ∧ n2.toInt = n.toInt - 1)
theorem own_rr1 {g gr : Nat → Int32} {L n m iv nv : Int32} (hS : IS g L n) (hn : n.toInt ≤ 3) (s : SH g gr L m iv nv) : RRel g L n m (updF gr iv.toNatClampNeg (-1)) (n - 1) := Or.inr ⟨s.2.2.2.2.2, own_m1 (m := m) hS hn⟩
theorem own_no8 {g : Nat → Int32} {L n : Int32} (hS : IS g L n) (hn : n.toInt ≤ 3) (h4 : (4 : Int32) < L) : ¬ ((8 : Int32) * (n - 1)) < L := by
  have e := own_m1 (m := 0) hS hn
  have c8 : (8 : Int32).toInt = 8 := by decide
  have c4 : (4 : Int32).toInt = 4 := by decide
  have := hS.2.2.2
  rw [Int32.lt_iff_toInt_lt, c4] at h4
  have hh : L.toInt = 8 ∧ 2 ≤ n.toInt := hS.1.elim (fun x => by omega) id
  rw [Int32.lt_iff_toInt_lt, Jvm.Kit.i32_mul (by rw [c8]; omega) (by rw [c8]; omega), c8, e]; omega
/-! members -/
theorem tl_mono (g : Nat → Int32) : ∀ {j L : Nat}, j ≤ L → (TL g j).length ≤ (TL g L).length
  | j, 0, h => by rw [show j = 0 by omega]; exact Nat.le_refl _
  | j, L + 1, h => by
    by_cases e : j = L + 1
    · rw [e]; exact Nat.le_refl _
    · refine Nat.le_trans (tl_mono g (show j ≤ L by omega)) ?_
      show _ ≤ (if g L = -1 then TL g L else TL g L ++ [g L]).length
      split
      · exact Nat.le_refl _
      · rw [List.length_append]; omega
def MB (ga gr : Nat → Int32) (jv cv : Int32) : Prop := cv.toInt = ((TL ga jv.toInt.toNat).length : Int) ∧ ∀ k, k < (TL ga jv.toInt.toNat).length → (TL ga jv.toInt.toNat)[k]? = some (gr k)
theorem mb0 (ga gr : Nat → Int32) : MB ga gr 0 0 := ⟨rfl, fun k hk => absurd hk (Nat.not_lt_zero k)⟩
theorem own_jn {jv nl : Int32} (q : jv < nl) (h : 0 ≤ jv.toInt) : (jv + 1).toInt.toNat = jv.toInt.toNat + 1 := by rw [own_inc q h]; omega
theorem mb1 {ga gr : Nat → Int32} {jv nl cv : Int32} (q : jv < nl) (h : 0 ≤ jv.toInt) (M : MB ga gr jv cv) (e : ga jv.toNatClampNeg = -1) : MB ga gr (jv + 1) cv := by
  have t : TL ga (jv + 1).toInt.toNat = TL ga jv.toInt.toNat := by rw [own_jn q h]; exact if_pos e
  unfold MB; rw [t]; exact M
theorem mb_len {ga : Nat → Int32} {jv nl : Int32} (q : jv < nl) (h : 0 ≤ jv.toInt) (e : ¬ ga jv.toNatClampNeg = -1) : TL ga (jv + 1).toInt.toNat = TL ga jv.toInt.toNat ++ [ga jv.toNatClampNeg] := by rw [own_jn q h]; exact if_neg e
theorem mbl {ga gr : Nat → Int32} {jv nl cv sn : Int32} (q : jv < nl) (h : 0 ≤ jv.toInt) (M : MB ga gr jv cv) (e : ¬ ga jv.toNatClampNeg = -1) (hc : sn.toInt = ((TL ga nl.toInt.toNat).length : Int)) : 0 ≤ cv.toInt ∧ cv.toInt < sn.toInt := by
  have a := tl_mono ga (show (jv + 1).toInt.toNat ≤ nl.toInt.toNat by rw [own_jn q h]; rw [Int32.lt_iff_toInt_lt] at q; omega)
  rw [mb_len q h e, List.length_append] at a
  have b := M.1
  have c : [ga jv.toNatClampNeg].length = 1 := rfl
  omega
theorem mbb {ga gr : Nat → Int32} {jv nl cv sn : Int32} (q : jv < nl) (h : 0 ≤ jv.toInt) (M : MB ga gr jv cv) (e : ¬ ga jv.toNatClampNeg = -1) (hc : sn.toInt = ((TL ga nl.toInt.toNat).length : Int)) : ¬ cv < 0 ∧ cv < sn := by
  have a := mbl q h M e hc
  rw [Int32.lt_iff_toInt_lt, Int32.lt_iff_toInt_lt, Int32.toInt_zero]; omega
theorem mb2 {ga gr : Nat → Int32} {jv nl cv sn : Int32} (q : jv < nl) (h : 0 ≤ jv.toInt) (M : MB ga gr jv cv) (e : ¬ ga jv.toNatClampNeg = -1) (hc : sn.toInt = ((TL ga nl.toInt.toNat).length : Int)) : MB ga (updF gr cv.toNatClampNeg (ga jv.toNatClampNeg)) (jv + 1) (cv + 1) := by
  have a := mbl q h M e hc
  have i := own_inc (Int32.lt_iff_toInt_lt.mpr a.2) a.1
  unfold MB
  rw [mb_len q h e, List.length_append, i]
  have c : [ga jv.toNatClampNeg].length = 1 := rfl
  have b := M.1
  refine ⟨by omega, fun k hk => ?_⟩
  unfold updF
  by_cases x : k = cv.toNatClampNeg
  · rw [if_pos x]
    have x' : k = (TL ga jv.toInt.toNat).length := by rw [x]; show cv.toInt.toNat = _; omega
    rw [x', List.getElem?_append_right (Nat.le_refl _), Nat.sub_self]; rfl
  · have x' : ¬ k = cv.toInt.toNat := x
    rw [if_neg x, List.getElem?_append_left (by omega)]
    exact M.2 k (by omega)
theorem mbf {ga gr : Nat → Int32} {jv nl cv sn : Int32} (q : ¬ jv < nl) (h : 0 ≤ jv.toInt ∧ jv.toInt ≤ nl.toInt) (M : MB ga gr jv cv) (hc : sn.toInt = ((TL ga nl.toInt.toNat).length : Int)) : ∀ k, k < sn.toInt.toNat → (TL ga nl.toInt.toNat)[k]? = some (gr k) := by
  rw [Int32.lt_iff_toInt_lt] at q
  have e : nl.toInt = jv.toInt := by omega
  rw [e] at hc ⊢
  intro k hk
  exact M.2 k (by omega)
/-! the law -/
theorem own_pk (a b : Int32) : ¬ F1 a b = -1 := by
  have h : ∀ x : Int32, ¬ (x &&& (2147483647 : Int32)) = -1 := fun x e => by
    have := congrArg Int32.toInt e
    rw [own_max, show (-1 : Int32).toInt = -1 by decide] at this; omega
  have h7 : ∀ x : Int32, ¬ (x &&& (7 : Int32)) = -1 := fun x e => by
    have := congrArg Int32.toInt e
    rw [Jvm.Kit.i32_mask x 7 (k := 3) (by decide) (by decide), show (-1 : Int32).toInt = -1 by decide] at this; omega
  unfold F1
  show ¬ (if b = 0 then _ else _) = (-1 : Int32)
  split
  · exact h a
  · exact h7 a
def LS (g : Nat → Int32) (L n : Int32) (X : List Int32) : Prop := IS g L n ∧ (∀ v, v ∈ TL g L.toInt.toNat ↔ v ∈ X) ∧ n.toInt ≤ (X.length : Int)
theorem ls0 {g : Nat → Int32} (h : ∀ k, k < 4 → g k = -1) : LS g 4 0 [] := by
  have t : TL g (4 : Int32).toInt.toNat = [] := tl_new g 4 h
  refine ⟨⟨Or.inl (by decide), pr_new _ _ _ h, ?_, ?_⟩, ?_, by decide⟩
  · rw [t]; exact List.nodup_nil
  · rw [t]; rfl
  · rw [t]; exact fun v => Iff.rfl
theorem ls1 {g g2 : Nat → Int32} {L L2 n n2 m : Int32} {X : List Int32} (s : LS g L n X) (i : IS g2 L2 n2) (r : ARel g L m g2 L2) : LS g2 L2 n2 (m :: X) := by
  obtain ⟨a, b, c⟩ := s
  have d1 := a.2.2.2
  have d2 := i.2.2.2
  refine ⟨i, fun v => ?_, ?_⟩
  · rcases r with ⟨r1, r2⟩ | ⟨r1, r2⟩
    · rw [r2.mem_iff, b, List.mem_cons]
      exact ⟨Or.inr, fun h => h.elim (fun h => by subst h; exact (b v).mp r1) id⟩
    · rw [r2.mem_iff, List.mem_cons, List.mem_cons, b]
  · rw [List.length_cons]
    rcases r with ⟨r1, r2⟩ | ⟨r1, r2⟩
    · rw [r2.length_eq] at d2; omega
    · rw [r2.length_eq, List.length_cons] at d2; omega
theorem LS.le {g : Nat → Int32} {L n : Int32} {X : List Int32} (s : LS g L n X) {k : Int} (h : (X.length : Int) ≤ k) : n.toInt ≤ k := Int.le_trans s.2.2 h
def FM (g : Nat → Int32) (L n x0 x1 x2 dr x3 : Int32) : Prop := L48 L ∧ n.toInt = ((TL g L.toInt.toNat).length : Int) ∧ n.toInt ≤ 3 ∧ (TL g L.toInt.toNat).Nodup ∧ ∀ v, v ∈ TL g L.toInt.toNat ↔ (v = x0 ∨ v = x1 ∨ v = x2) ∧ ¬ (¬ dr = 0 ∧ v = x3)
theorem own_x3 (x0 x1 x2 v : Int32) : v ∈ [x2, x1, x0] ↔ (v = x0 ∨ v = x1 ∨ v = x2) := by
  simp only [List.mem_cons, List.not_mem_nil, or_false]
  exact ⟨fun h => h.elim (fun h => Or.inr (Or.inr h)) (fun h => h.elim (fun h => Or.inr (Or.inl h)) Or.inl), fun h => h.elim (fun h => Or.inr (Or.inr h)) (fun h => h.elim (fun h => Or.inr (Or.inl h)) Or.inl)⟩
theorem fm0 {g : Nat → Int32} {L n x0 x1 x2 dr x3 : Int32} (s : LS g L n [x2, x1, x0]) (h : dr = 0) : FM g L n x0 x1 x2 dr x3 :=
  ⟨s.1.l48, s.1.2.2.2, s.2.2, s.1.2.2.1, fun v => by rw [s.2.1, own_x3]; exact ⟨fun a => ⟨a, fun b => b.1 h⟩, fun a => a.1⟩⟩
theorem fm1 {g g2 : Nat → Int32} {L n n2 x0 x1 x2 dr x3 : Int32} (s : LS g L n [x2, x1, x0]) (h : ¬ dr = 0) (r : RRel g L n x3 g2 n2) : FM g2 L n2 x0 x1 x2 dr x3 := by
  have d := s.1.2.2.2
  have le := s.2.2
  rcases r with ⟨r1, r2, r3⟩ | ⟨r1, r2⟩
  · refine ⟨s.1.l48, by rw [r2]; omega, by rw [r3]; exact le, by rw [r2]; exact s.1.2.2.1, fun v => ?_⟩
    rw [r2, s.2.1, own_x3]
    refine ⟨fun a => ⟨a, fun b => ?_⟩, fun a => a.1⟩
    rw [s.2.1, own_x3] at r1
    exact r1 (b.2 ▸ a)
  · have len := r1.length_eq
    rw [List.length_cons] at len
    have nd := r1.nodup_iff.mpr s.1.2.2.1
    rw [List.nodup_cons] at nd
    refine ⟨s.1.l48, by omega, ?_, nd.2, fun v => ?_⟩
    · have : (([x2, x1, x0] : List Int32).length : Int) = 3 := rfl
      omega
    · have e := (r1.mem_iff (a := v)).trans ((s.2.1 v).trans (own_x3 x0 x1 x2 v))
      rw [List.mem_cons] at e
      constructor
      · intro a; exact ⟨e.mp (Or.inr a), fun b => nd.1 (b.2 ▸ a)⟩
      · rintro ⟨a, b⟩
        exact (e.mpr a).elim (fun q => absurd ⟨h, q⟩ b) id

theorem d4_5 : decode jdk_65_method_103_code 5 = .ok (.iload_n 2, 1) := by decide +kernel
theorem d4_6 : decode jdk_65_method_103_code 6 = .ok (.iload_n 3, 1) := by decide +kernel
theorem d4_7 : decode jdk_65_method_103_code 7 = .ok (.if_icmp .ge 13, 3) := by decide +kernel
theorem d4_10 : decode jdk_65_method_103_code 10 = .ok (.aload_n 0, 1) := by decide +kernel
theorem d4_11 : decode jdk_65_method_103_code 11 = .ok (.iload_n 2, 1) := by decide +kernel
theorem d4_12 : decode jdk_65_method_103_code 12 = .ok (.iload_n 1, 1) := by decide +kernel
theorem d4_13 : decode jdk_65_method_103_code 13 = .ok (.iastore, 1) := by decide +kernel
theorem d4_14 : decode jdk_65_method_103_code 14 = .ok (.iinc 2 1, 3) := by decide +kernel
theorem d4_17 : decode jdk_65_method_103_code 17 = .ok (.goto (-12), 3) := by decide +kernel
set_option maxRecDepth 65536 in
set_option maxHeartbeats 40000000 in
theorem lp4_5 (l : Launch) (Z : State) (a0 : Array Value) (hw : ∀ d ∈ tables_1, d.before a0 Z = true) {p : Program} {e : Env} {s : State} {m : MethodId} {below : List Frame} {meth : Method} {c : Code} (o0 : Addr) (p1 : Int32) (nl : Int32) (ga : Nat → Int32)  (n0 : Nat) (hx : p.tables.exec = Jvm.exec) (hZ : Z.Warmed39 s.vm) (hby : c.code = jdk_65_method_103_code) (hml : c.maxLocals = 4) (hown : s.vm.findClass "java/util/Arrays" = some m.cls) (Q0_G : n0 ≤ o0) (hnn : ¬ nl < 0) :
    ∀ (d : Nat) (iv : Int32) (gr : Nat → Int32) (T0 : State) (M0 : List Loc) (h0 : Heap), n0 ≤ h0.size → (nl.toInt - iv.toInt).toNat = d → (0 ≤ iv.toInt ∧ iv.toInt ≤ nl.toInt) → (∀ j, j < iv.toInt.toNat → gr j = p1) → Stand p l e ({ frames := 0, cells := 0, slots := 0, locals := 0 } : Room) s m #[(.ref o0), (.int p1)] below meth c T0 M0 0 0 → T0.heap = h0 → Fr n0 M0 → JV Value.int Z h0 o0 .int nl gr → (∃ (iv_ : Int32) (gr_ : Nat → Int32) (T' : State) (M' : List Loc) (h' : Heap), (∀ j, j < nl.toInt.toNat → gr_ j = p1) ∧ Stand p l e ({ frames := 0, cells := 0, slots := 0, locals := 0 } : Room) s m #[(.ref o0), (.int p1)] below meth c T' M' 0 0 ∧ T'.heap = h' ∧ Fr n0 M' ∧ Keep h0 h' [o0] ∧ JV Value.int Z h' o0 .int nl gr_ ∧ Lead p e below (T0.setTop (mkF m 5 #[.val (.ref o0), .val (.int p1), .val (.int iv), .val (.int nl)] [])) (T'.setTop (mkF m 20 #[.val (.ref o0), .val (.int p1), .val (.int iv_), .val (.int nl)] []))) := by
  intro d
  induction d using Nat.strongRecOn with
  | ind d ih =>
    intro iv gr T0 M0 h0 Z0 hd hi hdn X0 e0 N0 P0_V
    have K0 : Keep h0 h0 [o0] := Keep.refl _ _
    obtain ⟨G, hG⟩ : ∃ z, z = T0.setTop (mkF m 5 #[.val (.ref o0), .val (.int p1), .val (.int iv), .val (.int nl)] []) := ⟨_, rfl⟩
    rw [← hG]
    have pre0 : Lead p e below G (T0.setTop (mkF m 5 #[.val (.ref o0), .val (.int p1), .val (.int iv), .val (.int nl)] [])) := fun t k => by rw [hG]; exact k
    have pre1 : Lead p e below G (T0.setTop (mkF m 7 #[.val (.ref o0), .val (.int p1), .val (.int iv), .val (.int nl)] [(.int nl), (.int iv)])) := fun t k => by
      refine pre0 t ?_
      show Steps p.tables e below (T0.setTop (mkF m 5 #[.val (.ref o0), .val (.int p1), .val (.int iv), .val (.int nl)] [])) _
      refine XS.iloadN X0.here hx rfl (hb hby d4_5) rfl ?_
      show Steps p.tables e below (T0.setTop (mkF m 6 #[.val (.ref o0), .val (.int p1), .val (.int iv), .val (.int nl)] [(.int iv)])) _
      refine XS.iloadN X0.here hx rfl (hb hby d4_6) rfl ?_
      exact k
    by_cases hs7_2 : iv < nl
    · have pre3 : Lead p e below G (T0.setTop (mkF m 13 #[.val (.ref o0), .val (.int p1), .val (.int iv), .val (.int nl)] [(.int p1), (.int iv), (.ref o0)])) := fun t k => by
        refine pre1 t ?_
        show Steps p.tables e below (T0.setTop (mkF m 7 #[.val (.ref o0), .val (.int p1), .val (.int iv), .val (.int nl)] [(.int nl), (.int iv)])) _
        refine XS.icmpNo X0.here hx rfl (hb hby d4_7) rfl (tlt hs7_2).2.1 ?_
        refine XS.aloadN X0.here hx rfl (hb hby d4_10) rfl rfl ?_
        show Steps p.tables e below (T0.setTop (mkF m 11 #[.val (.ref o0), .val (.int p1), .val (.int iv), .val (.int nl)] [(.ref o0)])) _
        refine XS.iloadN X0.here hx rfl (hb hby d4_11) rfl ?_
        refine XS.iloadN X0.here hx rfl (hb hby d4_12) rfl ?_
        exact k
      obtain ⟨cl4, Ar4, hin4, -⟩ := P0_V.in (j := iv) (own_bd hi.1 hs7_2)
      obtain ⟨T4, h4, X4, e4, W4, st4⟩ := stI X0 hx hZ e0 Ar4 (j := iv) hin4 (g := (mkF m 13 #[.val (.ref o0), .val (.int p1), .val (.int iv), .val (.int nl)] [(.int p1), (.int iv), (.ref o0)])) rfl rfl (hb hby d4_13)
      have N4 := Fr.snoc X4 N0 Q0_G
      have K4 : Keep h0 h4 [o0] := K0.wr W4 (Or.inl (List.mem_of_getElem? (i := 0) rfl))
      obtain ⟨M4, Y4, N4⟩ : ∃ M, Stand p l e ({ frames := 0, cells := 0, slots := 0, locals := 0 } : Room) s m #[(.ref o0), (.int p1)] below meth c T4 M 0 0 ∧ Fr n0 M := ⟨_, X4, N4⟩
      have V4 : JV Value.int Z h4 o0 .int nl (updF gr (iv).toNatClampNeg p1) := P0_V.set W4
      have pre4 : Lead p e below G (T4.setTop (mkF m 14 #[.val (.ref o0), .val (.int p1), .val (.int iv), .val (.int nl)] [])) := fun t k => pre3 t (st4 _ k)
      have pre5 : Lead p e below G (T4.setTop (mkF m 5 #[.val (.ref o0), .val (.int p1), .val (.int (iv + (1 : Int32))), .val (.int nl)] [])) := fun t k => by
        refine pre4 t ?_
        show Steps p.tables e below (T4.setTop (mkF m 14 #[.val (.ref o0), .val (.int p1), .val (.int iv), .val (.int nl)] [])) _
        refine XS.iinc Y4.here hx rfl (hb hby d4_14) rfl (l' := #[.val (.ref o0), .val (.int p1), .val (.int (iv + (1 : Int32))), .val (.int nl)]) rfl ?_
        show Steps p.tables e below (T4.setTop (mkF m 17 #[.val (.ref o0), .val (.int p1), .val (.int (iv + (1 : Int32))), .val (.int nl)] [])) _
        refine XS.goto Y4.here hx rfl (pc0 := 17) (pc' := 5) rfl (hb hby d4_17) (by decide) (by decide) ?_
        exact k
      obtain ⟨iv_6, gr_6, T6, M6, h6, q6_0, X6, e6, N6, K6, f6_0, ld6⟩ := ih ((nl.toInt - (iv + (1 : Int32)).toInt).toNat) (hd ▸ own_dec hs7_2 hi) (iv + (1 : Int32)) (updF gr (iv).toNatClampNeg p1) _ _ _ (Nat.le_trans Z0 K4.1) rfl (show 0 ≤ (iv + (1 : Int32)).toInt ∧ (iv + (1 : Int32)).toInt ≤ nl.toInt from own_nx hs7_2 hi) (show ∀ j, j < (iv + (1 : Int32)).toInt.toNat → (updF gr (iv).toNatClampNeg p1) j = p1 from own_fl hs7_2 hi.1 hdn) Y4 e4 N4 V4
      exact ⟨iv_6, gr_6, T6, M6, h6, (show ∀ j, j < nl.toInt.toNat → gr_6 j = p1 from q6_0), X6, e6, N6, K4.trans K6 (fun x hx => Or.inl hx), f6_0, fun t k => pre5 t (ld6 t k)⟩
    · have pre7 : Lead p e below G (T0.setTop (mkF m 20 #[.val (.ref o0), .val (.int p1), .val (.int iv), .val (.int nl)] [])) := fun t k => by
        refine pre1 t ?_
        show Steps p.tables e below (T0.setTop (mkF m 7 #[.val (.ref o0), .val (.int p1), .val (.int iv), .val (.int nl)] [(.int nl), (.int iv)])) _
        refine XS.icmpYes X0.here hx rfl (pc0 := 7) (pc' := 20) rfl (hb hby d4_7) rfl (flt hs7_2).2.1 (by decide) (by decide) ?_
        exact k
      exact ⟨iv, gr, T0, _, _, (show ∀ j, j < nl.toInt.toNat → gr j = p1 from own_fn hs7_2 hi hdn), X0, e0, N0, K0, P0_V, pre7⟩
theorem d4_0 : decode jdk_65_method_103_code 0 = .ok (.iconst 0, 1) := by decide +kernel
theorem d4_1 : decode jdk_65_method_103_code 1 = .ok (.istore_n 2, 1) := by decide +kernel
theorem d4_2 : decode jdk_65_method_103_code 2 = .ok (.aload_n 0, 1) := by decide +kernel
theorem d4_3 : decode jdk_65_method_103_code 3 = .ok (.arraylength, 1) := by decide +kernel
theorem d4_4 : decode jdk_65_method_103_code 4 = .ok (.istore_n 3, 1) := by decide +kernel
theorem d4_20 : decode jdk_65_method_103_code 20 = .ok (.return_, 1) := by decide +kernel
theorem pn_java_util_Arrays : plainName "java/util/Arrays" = true := by first | (simp [plainName, overriddenIn]; done) | decide +kernel
theorem ef_4 (m : MethodId) (o0 : Addr) (p1 : Int32) : entryFrame m #[(.ref o0), (.int p1)] 4 = mkF m 0 #[.val (.ref o0), .val (.int p1), .unset, .unset] [] := by first | (simp [entryFrame, mkF, argsToLocals, Value.category]; done) | rfl
def Q4 (Z : State) (o0 : Addr) (p1 : Int32) (nl : Int32) (ga : Nat → Int32) (h0 : Heap) (n0 : Nat) (v : Option Value) (h : Heap) (L : List Loc) : Prop := ∃ gr : Nat → Int32, v = none ∧ Fr n0 L ∧ Keep h0 h [o0] ∧ JV Value.int Z h o0 .int nl gr ∧ (∀ j, j < nl.toInt.toNat → gr j = p1)
set_option maxRecDepth 65536 in
set_option maxHeartbeats 40000000 in
theorem rm4 (l : Launch) (Z : State) (a0 : Array Value) (hw : ∀ d ∈ tables_1, d.before a0 Z = true) (ws : List Jvm.Cond) (o0 : Addr) (p1 : Int32) (nl : Int32) (ga : Nat → Int32) (h0 : Heap) (n0 : Nat) (Z0 : n0 ≤ h0.size) (P0_V : JV Value.int Z h0 o0 .int nl ga) (P1_G : n0 ≤ o0) (hnn : (¬ nl < 0)) :
    MetFree l (⟨"java/util/Arrays", "fill", "([II)V"⟩ : MethodName) (head1 (Jvm.Cond.code (⟨"java/util/Arrays", "fill", "([II)V"⟩ : MethodName) jdk_65_method_103_code 4 none :: ws) ({ frames := 0, cells := 0, slots := 0, locals := 0 } : Room)) (fun a U => a = #[(.ref o0), (.int p1)] ∧ Z.Warmed39 U.vm ∧ U.heap = h0) (fun _ _ _ _ _ => True) (fun _ U o U' => ∃ v L, o = .returned v ∧ Q4 Z o0 p1 nl ga h0 n0 v U'.heap L ∧ FrameEnd U o U' L ({ frames := 0, cells := 0, slots := 0, locals := 0 } : Room).cells ({ frames := 0, cells := 0, slots := 0, locals := 0 } : Room).slots) := by
  refine MetFree.of_bodySF (plainFor_of_name pn_java_util_Arrays) hisR ?_
  intro p e s m args below meth c s₁ Bd hml0 hP hK
  obtain ⟨rfl, hZ, hh⟩ := hP
  have hx := Bd.exec
  have hby := Bd.bytes
  have hml : c.maxLocals = 4 := hml0
  have hown : s.vm.findClass "java/util/Arrays" = some m.cls := findClass_of_methodNamed Bd.named
  have hnm := (name_of_methodNamed Bd.named Bd.method).1
  have X0 : Stand p l e ({ frames := 0, cells := 0, slots := 0, locals := 0 } : Room) s m #[(.ref o0), (.int p1)] below meth c s₁ [] 0 0 := Stand.of_body Bd
  have e0 : s₁.heap = h0 := by rw [← hh, Bd.state]; rfl
  have N0 := Fr.nil n0
  have K0 : Keep h0 h0 [o0] := Keep.refl _ _
  obtain ⟨G, hG⟩ : ∃ z, z = s₁.setTop (entryFrame m #[(.ref o0), (.int p1)] 4) := ⟨_, rfl⟩
  have pre0 : Lead p e below G (s₁.setTop (mkF m 0 #[.val (.ref o0), .val (.int p1), .unset, .unset] [])) := fun t k => by rw [hG]; exact castTop (ef_4 m o0 p1) k
  have pre1 : Lead p e below G (s₁.setTop (mkF m 3 #[.val (.ref o0), .val (.int p1), .val (.int (0 : Int32)), .unset] [(.ref o0)])) := fun t k => by
    refine pre0 t ?_
    show Steps p.tables e below (s₁.setTop (mkF m 0 #[.val (.ref o0), .val (.int p1), .unset, .unset] [])) _
    refine XS.iconst X0.here hx rfl (hb hby d4_0) ?_
    show Steps p.tables e below (s₁.setTop (mkF m 1 #[.val (.ref o0), .val (.int p1), .unset, .unset] [(.int (0 : Int32))])) _
    refine XS.istoreN X0.here hx rfl (hb hby d4_1) rfl (l' := #[.val (.ref o0), .val (.int p1), .val (.int (0 : Int32)), .unset]) rfl ?_
    refine XS.aloadN X0.here hx rfl (hb hby d4_2) rfl rfl ?_
    exact k
  obtain ⟨cl2, Ar2, len2⟩ := P0_V.len
  have st2 := X0.arraylength hx (by rw [e0]; exact Ar2.1) (State.isArrayOf_alike hZ.alike Ar2.2.1) (g := (mkF m 3 #[.val (.ref o0), .val (.int p1), .val (.int (0 : Int32)), .unset] [(.ref o0)])) rfl rfl (hb hby d4_3)
  rw [len2] at st2
  have pre2 : Lead p e below G (s₁.setTop (mkF m 4 #[.val (.ref o0), .val (.int p1), .val (.int (0 : Int32)), .unset] [(.int nl)])) := fun t k => pre1 t (st2 _ k)
  have pre3 : Lead p e below G (s₁.setTop (mkF m 5 #[.val (.ref o0), .val (.int p1), .val (.int (0 : Int32)), .val (.int nl)] [])) := fun t k => by
    refine pre2 t ?_
    show Steps p.tables e below (s₁.setTop (mkF m 4 #[.val (.ref o0), .val (.int p1), .val (.int (0 : Int32)), .unset] [(.int nl)])) _
    refine XS.istoreN X0.here hx rfl (hb hby d4_4) rfl (l' := #[.val (.ref o0), .val (.int p1), .val (.int (0 : Int32)), .val (.int nl)]) rfl ?_
    show Steps p.tables e below (s₁.setTop (mkF m 5 #[.val (.ref o0), .val (.int p1), .val (.int (0 : Int32)), .val (.int nl)] [])) _
    exact k
  obtain ⟨iv_4, gr_4, T4, M4, h4, q4_0, Y4, e4, N4, K4c, f4_0, ld4⟩ := lp4_5 l Z a0 hw o0 p1 nl ga n0 hx hZ hby hml hown P1_G (show ¬ nl < 0 from hnn) _ (0 : Int32) ga _ _ _ (Nat.le_trans Z0 K0.1) rfl (show 0 ≤ (0 : Int32).toInt ∧ (0 : Int32).toInt ≤ nl.toInt from own_i0 hnn) (show ∀ j, j < (0 : Int32).toInt.toNat → ga j = p1 from fun j hj => absurd hj (Nat.not_lt_zero j)) X0 e0 N0 P0_V
  have K4 : Keep h0 h4 [o0] := K0.trans K4c (allS (Or.inl (List.mem_of_getElem? (i := 0) rfl)) all0)
  have pre4_20 : Lead p e below G (T4.setTop (mkF m 20 #[.val (.ref o0), .val (.int p1), .val (.int iv_4), .val (.int nl)] [])) := fun t k => pre3 t (ld4 t k)
  obtain ⟨fs, hr, hrun, hended, hW, hsame⟩ := Y4.leave (v := none) (fun _ => rfl)
  have preF : Lead p e below (s₁.setTop (entryFrame m #[(.ref o0), (.int p1)] 4)) (T4.setTop (mkF m 20 #[.val (.ref o0), .val (.int p1), .val (.int iv_4), .val (.int nl)] [])) := by rw [← hG]; exact pre4_20
  refine ⟨_, _, preF _ ?_, hrun, hended, _, _, rfl, ?_, ⟨_, rfl⟩, hW, hsame.mono (by decide) (by decide)⟩
  · show Steps p.tables e below (T4.setTop (mkF m 20 #[.val (.ref o0), .val (.int p1), .val (.int iv_4), .val (.int nl)] [])) _
    exact Y4.returnOut hx Bd.returns (hb hby d4_20) hr
  · show Q4 Z o0 p1 nl ga h0 n0 _ T4.heap _
    rw [e4]
    exact ⟨gr_4, rfl, N4, K4, f4_0, q4_0⟩
theorem pd__28__5b_II_29_V : parseMethodDescriptor "([II)V" = some ⟨[(.array .int), .int], none⟩ := by decide +kernel
theorem d2_0 : decode prog_12_method_1_code 0 = .ok (.aload_n 0, 1) := by decide +kernel
theorem d2_1 : decode prog_12_method_1_code 1 = .ok (.invokespecial 1, 3) := by decide +kernel
theorem d2_4 : decode prog_12_method_1_code 4 = .ok (.aload_n 0, 1) := by decide +kernel
theorem d2_5 : decode prog_12_method_1_code 5 = .ok (.iconst 4, 1) := by decide +kernel
theorem d2_6 : decode prog_12_method_1_code 6 = .ok (.newarray .int, 2) := by decide +kernel
theorem d2_8 : decode prog_12_method_1_code 8 = .ok (.putfield 7, 3) := by decide +kernel
theorem d2_11 : decode prog_12_method_1_code 11 = .ok (.aload_n 0, 1) := by decide +kernel
theorem d2_12 : decode prog_12_method_1_code 12 = .ok (.getfield 7, 3) := by decide +kernel
theorem d2_15 : decode prog_12_method_1_code 15 = .ok (.iconst (-1), 1) := by decide +kernel
theorem d2_16 : decode prog_12_method_1_code 16 = .ok (.invokestatic 13, 3) := by decide +kernel
theorem d2_19 : decode prog_12_method_1_code 19 = .ok (.return_, 1) := by decide +kernel
theorem ef_2 (m : MethodId) (o0 : Addr) : entryFrame m #[(.ref o0)] 1 = mkF m 0 #[.val (.ref o0)] [] := by first | (simp [entryFrame, mkF, argsToLocals, Value.category]; done) | rfl
def Q2 (Z : State) (o0 : Addr)  (h0 : Heap) (n0 : Nat) (v : Option Value) (h : Heap) (L : List Loc) : Prop := ∃ wb : Addr, ∃ gr : Nat → Int32, v = none ∧ Fr n0 L ∧ Keep h0 h [o0] ∧ Exa Z h o0 "com/example/processionary/processionary/automata/IntSet" ∧ Fld Z h o0 "com/example/processionary/processionary/automata/IntSet" "slots" "[I" (.ref wb) ∧ Fld Z h o0 "com/example/processionary/processionary/automata/IntSet" "size" "I" (.int (0 : Int32)) ∧ h0.size ≤ wb ∧ JV Value.int Z h wb .int (4 : Int32) gr ∧ (∀ j, j < 4 → gr j = -1)
set_option maxRecDepth 65536 in
set_option maxHeartbeats 40000000 in
theorem rm2 (l : Launch) (Z : State) (a0 : Array Value) (hw : ∀ d ∈ tables_1, d.before a0 Z = true) (ws : List Jvm.Cond) (o0 : Addr)  (h0 : Heap) (n0 : Nat) (Z0 : n0 ≤ h0.size) (P0_E : Exa Z h0 o0 "com/example/processionary/processionary/automata/IntSet") (P1_G : n0 ≤ o0) (P2_F : Fld Z h0 o0 "com/example/processionary/processionary/automata/IntSet" "slots" "[I" .null) (P3_F : Fld Z h0 o0 "com/example/processionary/processionary/automata/IntSet" "size" "I" (.int (0 : Int32))) :
    MetFree l (⟨"com/example/processionary/processionary/automata/IntSet", "<init>", "()V"⟩ : MethodName) (head1 (Jvm.Cond.code (⟨"com/example/processionary/processionary/automata/IntSet", "<init>", "()V"⟩ : MethodName) prog_12_method_1_code 1 none :: ws) ({ frames := 1, cells := 1, slots := 4, locals := 15 } : Room)) (fun a U => a = #[(.ref o0)] ∧ Z.Warmed39 U.vm ∧ U.heap = h0) (fun _ _ _ _ _ => True) (fun _ U o U' => ∃ v L, o = .returned v ∧ Q2 Z o0 h0 n0 v U'.heap L ∧ FrameEnd U o U' L ({ frames := 1, cells := 1, slots := 4, locals := 15 } : Room).cells ({ frames := 1, cells := 1, slots := 4, locals := 15 } : Room).slots) := by
  refine MetFree.of_bodySF (plainFor_of_name pn_com_example_processionary_processionary_automata_IntSet) hisR ?_
  intro p e s m args below meth c s₁ Bd hml0 hP hK
  obtain ⟨rfl, hZ, hh⟩ := hP
  have hx := Bd.exec
  have hby := Bd.bytes
  have hml : c.maxLocals = 1 := hml0
  have hown : s.vm.findClass "com/example/processionary/processionary/automata/IntSet" = some m.cls := findClass_of_methodNamed Bd.named
  have hnm := (name_of_methodNamed Bd.named Bd.method).1
  have X0 : Stand p l e ({ frames := 1, cells := 1, slots := 4, locals := 15 } : Room) s m #[(.ref o0)] below meth c s₁ [] 0 0 := Stand.of_body Bd
  have e0 : s₁.heap = h0 := by rw [← hh, Bd.state]; rfl
  have N0 := Fr.nil n0
  have K0 : Keep h0 h0 [o0] := Keep.refl _ _
  obtain ⟨G, hG⟩ : ∃ z, z = s₁.setTop (entryFrame m #[(.ref o0)] 1) := ⟨_, rfl⟩
  have pre0 : Lead p e below G (s₁.setTop (mkF m 0 #[.val (.ref o0)] [])) := fun t k => by rw [hG]; exact castTop (ef_2 m o0) k
  have pre1 : Lead p e below G (s₁.setTop (mkF m 1 #[.val (.ref o0)] [(.ref o0)])) := fun t k => by
    refine pre0 t ?_
    show Steps p.tables e below (s₁.setTop (mkF m 0 #[.val (.ref o0)] [])) _
    refine XS.aloadN X0.here hx rfl (hb hby d2_0) rfl rfl ?_
    exact k
  obtain ⟨T2, X2, e2, st2⟩ := initO X0 hx hZ hown (hw _ (List.mem_of_getElem? (i := 11) rfl)) (hw _ (List.mem_of_getElem? (i := 12) rfl)) (hw _ (List.mem_of_getElem? (i := 13) rfl)) e0 (g := (mkF m 1 #[.val (.ref o0)] [(.ref o0)])) rfl (by rw [hml]; rfl) rfl (hb hby d2_1) (by decide) (W := 0) (by show 2 * 0 + _ ≤ _; exact Nat.le_of_eq rfl) (by decide)
  have pre2 : Lead p e below G (T2.setTop (mkF m 4 #[.val (.ref o0)] [])) := fun t k => pre1 t (st2 _ k)
  have pre3 : Lead p e below G (T2.setTop (mkF m 6 #[.val (.ref o0)] [(.int (4 : Int32)), (.ref o0)])) := fun t k => by
    refine pre2 t ?_
    show Steps p.tables e below (T2.setTop (mkF m 4 #[.val (.ref o0)] [])) _
    refine XS.aloadN X2.here hx rfl (hb hby d2_4) rfl rfl ?_
    refine XS.iconst X2.here hx rfl (hb hby d2_5) ?_
    show Steps p.tables e below (T2.setTop (mkF m 6 #[.val (.ref o0)] [(.int (4 : Int32)), (.ref o0)])) _
    exact k
  obtain ⟨T4, h4, k4, X4, e4, E4, A4, st4⟩ := newP X2 hx hZ (hw _ (List.mem_of_getElem? (i := 14) rfl)) e2 (g := (mkF m 6 #[.val (.ref o0)] [(.int (4 : Int32)), (.ref o0)])) rfl (hb hby d2_6) rfl (by decide) (cap := 4) (by decide) (by decide) (by decide) (by decide)
  obtain ⟨b4, g4⟩ : ∃ z, z = h0.size := ⟨_, rfl⟩
  rw [← g4] at A4 st4
  have ne4_o0 : o0 ≠ b4 := Nat.ne_of_lt (Nat.lt_of_lt_of_le P0_E.lt (Nat.le_of_eq g4.symm))
  have sz4 : h0.size ≤ b4 := Nat.le_trans K0.1 (Nat.le_of_eq g4.symm)
  have ge4 : n0 ≤ b4 := Nat.le_trans Z0 sz4
  have K4 : Keep h0 h4 [o0] := K0.ext E4
  have V4 : JV Value.int Z h4 b4 .int (4 : Int32) (fun _ => (0 : Int32)) := JV.new A4 (by decide) _ rfl
  have pre4 : Lead p e below G (T4.setTop (mkF m 8 #[.val (.ref o0)] [(.ref b4), (.ref o0)])) := fun t k => pre3 t (st4 _ k)
  have f6 : Fld Z h4 o0 "com/example/processionary/processionary/automata/IntSet" "slots" "[I" .null := (P2_F.ext E4)
  have f7 : Exa Z h4 o0 "com/example/processionary/processionary/automata/IntSet" := (P0_E.ext E4)
  obtain ⟨T5, h5, X5, e5, W5, st5⟩ := putF X4 hx hZ hown (host := "") (Or.inl (hw _ (List.mem_of_getElem? (i := 15) rfl))) Via.refl e4 f6 f7 (Or.inl (hw _ (List.mem_of_getElem? (i := 16) rfl))) (hw _ (List.mem_of_getElem? (i := 6) rfl)) (ty := (.array .int)) (by decide) rfl rfl (g := (mkF m 8 #[.val (.ref o0)] [(.ref b4), (.ref o0)])) rfl rfl (hb hby d2_8)
  have N5 := Fr.snoc X5 N0 P1_G
  have K5 : Keep h0 h5 [o0] := K4.wr W5 (Or.inl (List.mem_of_getElem? (i := 0) rfl))
  obtain ⟨M5, Y5, N5⟩ : ∃ M, Stand p l e ({ frames := 1, cells := 1, slots := 4, locals := 15 } : Room) s m #[(.ref o0)] below meth c T5 M 1 4 ∧ Fr n0 M := ⟨_, X5, N5⟩
  have Fw5 : Fld Z h5 o0 "com/example/processionary/processionary/automata/IntSet" "slots" "[I" (.ref b4) := f6.same W5
  have pre5 : Lead p e below G (T5.setTop (mkF m 11 #[.val (.ref o0)] [])) := fun t k => pre4 t (st5 _ k)
  have pre8 : Lead p e below G (T5.setTop (mkF m 12 #[.val (.ref o0)] [(.ref o0)])) := fun t k => by
    refine pre5 t ?_
    show Steps p.tables e below (T5.setTop (mkF m 11 #[.val (.ref o0)] [])) _
    refine XS.aloadN Y5.here hx rfl (hb hby d2_11) rfl rfl ?_
    exact k
  obtain ⟨T9, X9, e9, st9⟩ := getF Y5 hx hZ hown (host := "") (Or.inl (hw _ (List.mem_of_getElem? (i := 15) rfl))) Via.refl e5 Fw5 (g := (mkF m 12 #[.val (.ref o0)] [(.ref o0)])) rfl rfl (hb hby d2_12)
  have pre9 : Lead p e below G (T9.setTop (mkF m 15 #[.val (.ref o0)] [(.ref b4)])) := fun t k => pre8 t (st9 _ k)
  have pre10 : Lead p e below G (T9.setTop (mkF m 16 #[.val (.ref o0)] [(.int (-1 : Int32)), (.ref b4)])) := fun t k => by
    refine pre9 t ?_
    show Steps p.tables e below (T9.setTop (mkF m 15 #[.val (.ref o0)] [(.ref b4)])) _
    refine XS.iconst X9.here hx rfl (hb hby d2_15) ?_
    exact k
  have f12 : JV Value.int Z h5 b4 .int (4 : Int32) (fun _ => (0 : Int32)) := (V4.other W5 (Ne.symm ne4_o0))
  obtain ⟨_, _, ⟨T11, L11, k11, n11⟩, -, X11, ⟨Lc11, hQ11, l11, y11, z11⟩, st11⟩ := Jvm.LawKit.callS X9 hx (y := (⟨"java/util/Arrays", "fill", "([II)V"⟩ : MethodName)) hown (mvT hZ (hw _ (List.mem_of_getElem? (i := 17) rfl))) (mvT hZ (hw _ (List.mem_of_getElem? (i := 18) rfl))) (mvT hZ (hw _ (List.mem_of_getElem? (i := 19) rfl))) (mvT hZ (hw _ (List.mem_of_getElem? (i := 20) rfl))) (by decide) (backOf (W := 0) (rm4 l Z a0 hw [] b4 (-1 : Int32) (4 : Int32) (fun _ => (0 : Int32)) h5 n0 (Nat.le_trans Z0 K5.1) f12 ge4 (show ¬ (4 : Int32) < 0 from (by decide))) hZ (hw _ (List.mem_of_getElem? (i := 20) rfl)) (hw _ (List.mem_of_getElem? (i := 19) rfl)) (by decide) (by decide)) (g := (mkF m 16 #[.val (.ref o0)] [(.int (-1 : Int32)), (.ref b4)])) rfl (by rw [hml]; rfl) (argsL := [(.ref b4), (.int (-1 : Int32))]) (rest := []) (lenOf pd__28__5b_II_29_V rfl) rfl (by show 2 * 0 + _ ≤ _; exact Nat.le_of_eq rfl) (hb hby d2_16) (fun _ _ => ⟨rfl, e9, (by decide : 1 + 0 ≤ _), (by decide : 4 + 0 ≤ _)⟩)
  dsimp only [Pt.U, Pt.locs, Pt.cells, Pt.slots] at X11 l11 y11 z11 st11 hQ11
  subst l11 y11 z11
  obtain ⟨gr_11, rfl, N11q, K11c, c11_0, c11_1⟩ := hQ11
  have N11 := Fr.app N5 N11q
  have K11 : Keep h0 T11.heap [o0] := K5.trans K11c (allS (Or.inr sz4) all0)
  obtain ⟨M11, Y11, N11⟩ : ∃ M, Stand p l e ({ frames := 1, cells := 1, slots := 4, locals := 15 } : Room) s m #[(.ref o0)] below meth c T11 M 1 4 ∧ Fr n0 M := ⟨_, X11, N11⟩
  have pre11 : Lead p e below G (T11.setTop (mkF m 19 #[.val (.ref o0)] [])) := fun t k => pre10 t (st11 _ k)
  obtain ⟨fs, hr, hrun, hended, hW, hsame⟩ := Y11.leave (v := none) (fun _ => rfl)
  have preF : Lead p e below (s₁.setTop (entryFrame m #[(.ref o0)] 1)) (T11.setTop (mkF m 19 #[.val (.ref o0)] [])) := by rw [← hG]; exact pre11
  refine ⟨_, _, preF _ ?_, hrun, hended, _, _, rfl, ?_, ⟨_, rfl⟩, hW, hsame.mono (by decide) (by decide)⟩
  · show Steps p.tables e below (T11.setTop (mkF m 19 #[.val (.ref o0)] [])) _
    exact Y11.returnOut hx Bd.returns (hb hby d2_19) hr
  · show Q2 Z o0 h0 n0 _ T11.heap _
    have f13 : Exa Z T11.heap o0 "com/example/processionary/processionary/automata/IntSet" := ((f7.wr W5).keep K11c)
    have f14 : Fld Z T11.heap o0 "com/example/processionary/processionary/automata/IntSet" "slots" "[I" (.ref b4) := (Fw5.keep K11c (ninS ne4_o0 nin0))
    have f15 : Fld Z T11.heap o0 "com/example/processionary/processionary/automata/IntSet" "size" "I" (.int (0 : Int32)) := (((P3_F.ext E4).other W5 (Or.inr (slot_ne (Or.inl (hw _ (List.mem_of_getElem? (i := 27) rfl))) (Or.inl (hw _ (List.mem_of_getElem? (i := 16) rfl))) (by decide) (t := .int) (t' := (.array .int)) (by decide) (by decide)))).keep K11c (ninS ne4_o0 nin0))
    exact ⟨b4, gr_11, rfl, N11, K11, f13, f14, f15, sz4, c11_0, c11_1⟩
theorem pd__28_II_29_I : parseMethodDescriptor "(II)I" = some ⟨[.int, .int], some .int⟩ := by decide +kernel
theorem d7_67 : decode prog_12_method_9_code 67 = .ok (.aload_n 0, 1) := by decide +kernel
theorem d7_68 : decode prog_12_method_9_code 68 = .ok (.getfield 7, 3) := by decide +kernel
theorem d7_71 : decode prog_12_method_9_code 71 = .ok (.iload 8, 2) := by decide +kernel
theorem d7_73 : decode prog_12_method_9_code 73 = .ok (.iaload, 1) := by decide +kernel
theorem d7_74 : decode prog_12_method_9_code 74 = .ok (.iconst (-1), 1) := by decide +kernel
theorem d7_75 : decode prog_12_method_9_code 75 = .ok (.if_icmp .eq 14, 3) := by decide +kernel
theorem d7_78 : decode prog_12_method_9_code 78 = .ok (.iload 8, 2) := by decide +kernel
theorem d7_80 : decode prog_12_method_9_code 80 = .ok (.iconst 1, 1) := by decide +kernel
theorem d7_81 : decode prog_12_method_9_code 81 = .ok (.iadd, 1) := by decide +kernel
theorem d7_82 : decode prog_12_method_9_code 82 = .ok (.iload_n 3, 1) := by decide +kernel
theorem d7_83 : decode prog_12_method_9_code 83 = .ok (.iand, 1) := by decide +kernel
theorem d7_84 : decode prog_12_method_9_code 84 = .ok (.istore 8, 2) := by decide +kernel
theorem d7_86 : decode prog_12_method_9_code 86 = .ok (.goto (-19), 3) := by decide +kernel
set_option maxRecDepth 65536 in
set_option maxHeartbeats 40000000 in
theorem lp7_67 (l : Launch) (Z : State) (a0 : Array Value) (hw : ∀ d ∈ tables_1, d.before a0 Z = true) {p : Program} {e : Env} {s : State} {m : MethodId} {below : List Frame} {meth : Method} {c : Code} (o0 : Addr) (p1 : Int32) (sa : Addr) (sn : Int32) (nl : Int32) (ga : Nat → Int32) (mk : Int32) (jv : Int32) (mv : Int32) (nb : Addr) (gr : Nat → Int32) (n0 : Nat) (hx : p.tables.exec = Jvm.exec) (hZ : Z.Warmed39 s.vm) (hby : c.code = prog_12_method_9_code) (hml : c.maxLocals = 9) (hown : s.vm.findClass "com/example/processionary/processionary/automata/IntSet" = some m.cls) (hp8 : p1.toInt = 8) (hmk : mk = (p1 - (1 : Int32))) (hel : (TL gr p1.toInt.toNat).length < p1.toInt.toNat) :
    ∀ (d : Nat) (iv : Int32) (T0 : State) (M0 : List Loc) (h0 : Heap), n0 ≤ h0.size → p1.toInt.toNat - PT p1 mv iv = d → (VT gr p1 mv iv) → Stand p l e ({ frames := 1, cells := 1, slots := 8, locals := 15 } : Room) s m #[(.ref o0), (.int p1)] below meth c T0 M0 1 8 → T0.heap = h0 → Fr n0 M0 → Exa Z h0 o0 "com/example/processionary/processionary/automata/IntSet" → Fld Z h0 o0 "com/example/processionary/processionary/automata/IntSet" "slots" "[I" (.ref nb) → JV Value.int Z h0 nb .int p1 gr → (∃ (iv_ : Int32) (T' : State) (M' : List Loc) (h' : Heap), (gr iv_.toNatClampNeg = -1) ∧ (VT gr p1 mv iv_) ∧ Stand p l e ({ frames := 1, cells := 1, slots := 8, locals := 15 } : Room) s m #[(.ref o0), (.int p1)] below meth c T' M' 1 8 ∧ T'.heap = h' ∧ Fr n0 M' ∧ Keep h0 h' [] ∧ Exa Z h' o0 "com/example/processionary/processionary/automata/IntSet" ∧ Fld Z h' o0 "com/example/processionary/processionary/automata/IntSet" "slots" "[I" (.ref nb) ∧ JV Value.int Z h' nb .int p1 gr ∧ Lead p e below (T0.setTop (mkF m 67 #[.val (.ref o0), .val (.int p1), .val (.ref sa), .val (.int mk), .val (.ref sa), .val (.int nl), .val (.int jv), .val (.int mv), .val (.int iv)] [])) (T'.setTop (mkF m 89 #[.val (.ref o0), .val (.int p1), .val (.ref sa), .val (.int mk), .val (.ref sa), .val (.int nl), .val (.int jv), .val (.int mv), .val (.int iv_)] []))) := by
  intro d
  induction d using Nat.strongRecOn with
  | ind d ih =>
    intro iv T0 M0 h0 Z0 hd hv X0 e0 N0 P0_E P1_F P2_V
    have K0 : Keep h0 h0 [] := Keep.refl _ _
    obtain ⟨G, hG⟩ : ∃ z, z = T0.setTop (mkF m 67 #[.val (.ref o0), .val (.int p1), .val (.ref sa), .val (.int mk), .val (.ref sa), .val (.int nl), .val (.int jv), .val (.int mv), .val (.int iv)] []) := ⟨_, rfl⟩
    rw [← hG]
    have pre0 : Lead p e below G (T0.setTop (mkF m 67 #[.val (.ref o0), .val (.int p1), .val (.ref sa), .val (.int mk), .val (.ref sa), .val (.int nl), .val (.int jv), .val (.int mv), .val (.int iv)] [])) := fun t k => by rw [hG]; exact k
    have pre1 : Lead p e below G (T0.setTop (mkF m 68 #[.val (.ref o0), .val (.int p1), .val (.ref sa), .val (.int mk), .val (.ref sa), .val (.int nl), .val (.int jv), .val (.int mv), .val (.int iv)] [(.ref o0)])) := fun t k => by
      refine pre0 t ?_
      show Steps p.tables e below (T0.setTop (mkF m 67 #[.val (.ref o0), .val (.int p1), .val (.ref sa), .val (.int mk), .val (.ref sa), .val (.int nl), .val (.int jv), .val (.int mv), .val (.int iv)] [])) _
      refine XS.aloadN X0.here hx rfl (hb hby d7_67) rfl rfl ?_
      show Steps p.tables e below (T0.setTop (mkF m 68 #[.val (.ref o0), .val (.int p1), .val (.ref sa), .val (.int mk), .val (.ref sa), .val (.int nl), .val (.int jv), .val (.int mv), .val (.int iv)] [(.ref o0)])) _
      exact k
    obtain ⟨T2, X2, e2, st2⟩ := getF X0 hx hZ hown (host := "") (Or.inl (hw _ (List.mem_of_getElem? (i := 15) rfl))) Via.refl e0 P1_F (g := (mkF m 68 #[.val (.ref o0), .val (.int p1), .val (.ref sa), .val (.int mk), .val (.ref sa), .val (.int nl), .val (.int jv), .val (.int mv), .val (.int iv)] [(.ref o0)])) rfl rfl (hb hby d7_68)
    have pre2 : Lead p e below G (T2.setTop (mkF m 71 #[.val (.ref o0), .val (.int p1), .val (.ref sa), .val (.int mk), .val (.ref sa), .val (.int nl), .val (.int jv), .val (.int mv), .val (.int iv)] [(.ref nb)])) := fun t k => pre1 t (st2 _ k)
    have pre3 : Lead p e below G (T2.setTop (mkF m 73 #[.val (.ref o0), .val (.int p1), .val (.ref sa), .val (.int mk), .val (.ref sa), .val (.int nl), .val (.int jv), .val (.int mv), .val (.int iv)] [(.int iv), (.ref nb)])) := fun t k => by
      refine pre2 t ?_
      show Steps p.tables e below (T2.setTop (mkF m 71 #[.val (.ref o0), .val (.int p1), .val (.ref sa), .val (.int mk), .val (.ref sa), .val (.int nl), .val (.int jv), .val (.int mv), .val (.int iv)] [(.ref nb)])) _
      refine XS.iload X2.here hx rfl (hb hby d7_71) rfl ?_
      exact k
    obtain ⟨cl4, Ar4, hin4, hat4⟩ := P2_V.in (j := iv) (vb hv)
    have st4 := X2.iaload hx (j := iv) (v := (.int (gr (iv).toNatClampNeg))) (by rw [e2]; exact Ar4.1) (State.isArrayOf_alike hZ.alike Ar4.2.1) Ar4.2.2 hin4 hat4 (g := (mkF m 73 #[.val (.ref o0), .val (.int p1), .val (.ref sa), .val (.int mk), .val (.ref sa), .val (.int nl), .val (.int jv), .val (.int mv), .val (.int iv)] [(.int iv), (.ref nb)])) rfl rfl (hb hby d7_73)
    have pre4 : Lead p e below G (T2.setTop (mkF m 74 #[.val (.ref o0), .val (.int p1), .val (.ref sa), .val (.int mk), .val (.ref sa), .val (.int nl), .val (.int jv), .val (.int mv), .val (.int iv)] [(.int (gr (iv).toNatClampNeg))])) := fun t k => pre3 t (st4 _ k)
    have pre5 : Lead p e below G (T2.setTop (mkF m 75 #[.val (.ref o0), .val (.int p1), .val (.ref sa), .val (.int mk), .val (.ref sa), .val (.int nl), .val (.int jv), .val (.int mv), .val (.int iv)] [(.int (-1 : Int32)), (.int (gr (iv).toNatClampNeg))])) := fun t k => by
      refine pre4 t ?_
      show Steps p.tables e below (T2.setTop (mkF m 74 #[.val (.ref o0), .val (.int p1), .val (.ref sa), .val (.int mk), .val (.ref sa), .val (.int nl), .val (.int jv), .val (.int mv), .val (.int iv)] [(.int (gr (iv).toNatClampNeg))])) _
      refine XS.iconst X2.here hx rfl (hb hby d7_74) ?_
      exact k
    by_cases hs75_6 : (gr (iv).toNatClampNeg) = (-1 : Int32)
    · have pre7 : Lead p e below G (T2.setTop (mkF m 89 #[.val (.ref o0), .val (.int p1), .val (.ref sa), .val (.int mk), .val (.ref sa), .val (.int nl), .val (.int jv), .val (.int mv), .val (.int iv)] [])) := fun t k => by
        refine pre5 t ?_
        show Steps p.tables e below (T2.setTop (mkF m 75 #[.val (.ref o0), .val (.int p1), .val (.ref sa), .val (.int mk), .val (.ref sa), .val (.int nl), .val (.int jv), .val (.int mv), .val (.int iv)] [(.int (-1 : Int32)), (.int (gr (iv).toNatClampNeg))])) _
        refine XS.icmpYes X2.here hx rfl (pc0 := 75) (pc' := 89) rfl (hb hby d7_75) rfl (teq hs75_6).1 (by decide) (by decide) ?_
        show Steps p.tables e below (T2.setTop (mkF m 89 #[.val (.ref o0), .val (.int p1), .val (.ref sa), .val (.int mk), .val (.ref sa), .val (.int nl), .val (.int jv), .val (.int mv), .val (.int iv)] [])) _
        exact k
      exact ⟨iv, T2, _, _, (show gr iv.toNatClampNeg = -1 from hs75_6), (show VT gr p1 mv iv from hv), X2, e2, N0, K0, P0_E, P1_F, P2_V, pre7⟩
    · have pre8 : Lead p e below G (T2.setTop (mkF m 67 #[.val (.ref o0), .val (.int p1), .val (.ref sa), .val (.int mk), .val (.ref sa), .val (.int nl), .val (.int jv), .val (.int mv), .val (.int ((iv + (1 : Int32)) &&& mk))] [])) := fun t k => by
        refine pre5 t ?_
        show Steps p.tables e below (T2.setTop (mkF m 75 #[.val (.ref o0), .val (.int p1), .val (.ref sa), .val (.int mk), .val (.ref sa), .val (.int nl), .val (.int jv), .val (.int mv), .val (.int iv)] [(.int (-1 : Int32)), (.int (gr (iv).toNatClampNeg))])) _
        refine XS.icmpNo X2.here hx rfl (hb hby d7_75) rfl (feq hs75_6).1 ?_
        refine XS.iload X2.here hx rfl (hb hby d7_78) rfl ?_
        refine XS.iconst X2.here hx rfl (hb hby d7_80) ?_
        show Steps p.tables e below (T2.setTop (mkF m 81 #[.val (.ref o0), .val (.int p1), .val (.ref sa), .val (.int mk), .val (.ref sa), .val (.int nl), .val (.int jv), .val (.int mv), .val (.int iv)] [(.int (1 : Int32)), (.int iv)])) _
        refine XS.iadd X2.here hx rfl (hb hby d7_81) rfl ?_
        refine XS.iloadN X2.here hx rfl (hb hby d7_82) rfl ?_
        refine XS.iand X2.here hx rfl (hb hby d7_83) rfl ?_
        show Steps p.tables e below (T2.setTop (mkF m 84 #[.val (.ref o0), .val (.int p1), .val (.ref sa), .val (.int mk), .val (.ref sa), .val (.int nl), .val (.int jv), .val (.int mv), .val (.int iv)] [(.int ((iv + (1 : Int32)) &&& mk))])) _
        refine XS.istore X2.here hx rfl (hb hby d7_84) rfl (l' := #[.val (.ref o0), .val (.int p1), .val (.ref sa), .val (.int mk), .val (.ref sa), .val (.int nl), .val (.int jv), .val (.int mv), .val (.int ((iv + (1 : Int32)) &&& mk))]) rfl ?_
        refine XS.goto X2.here hx rfl (pc0 := 86) (pc' := 67) rfl (hb hby d7_86) (by decide) (by decide) ?_
        exact k
      obtain ⟨iv_9, T9, M9, h9, q9_0, q9_1, X9, e9, N9, K9, f9_0, f9_1, f9_2, ld9⟩ := ih (p1.toInt.toNat - PT p1 mv ((iv + (1 : Int32)) &&& mk)) (hd ▸ (by subst hmk; skip; exact vd1 (Or.inr hp8) hv hs75_6 hel)) ((iv + (1 : Int32)) &&& mk) _ _ _ (Nat.le_trans Z0 K0.1) rfl (show VT gr p1 mv ((iv + (1 : Int32)) &&& mk) from (by subst hmk; skip; exact vt1 (Or.inr hp8) hv hs75_6 hel)) X2 e2 N0 P0_E P1_F P2_V
      exact ⟨iv_9, T9, M9, h9, (show gr iv_9.toNatClampNeg = -1 from q9_0), (show VT gr p1 mv iv_9 from q9_1), X9, e9, N9, K0.trans K9 (fun x hx => Or.inl hx), f9_0, f9_1, f9_2, fun t k => pre8 t (ld9 t k)⟩
theorem d7_39 : decode prog_12_method_9_code 39 = .ok (.iload 6, 2) := by decide +kernel
theorem d7_41 : decode prog_12_method_9_code 41 = .ok (.iload 5, 2) := by decide +kernel
theorem d7_43 : decode prog_12_method_9_code 43 = .ok (.if_icmp .ge 61, 3) := by decide +kernel
theorem d7_46 : decode prog_12_method_9_code 46 = .ok (.aload 4, 2) := by decide +kernel
theorem d7_48 : decode prog_12_method_9_code 48 = .ok (.iload 6, 2) := by decide +kernel
theorem d7_50 : decode prog_12_method_9_code 50 = .ok (.iaload, 1) := by decide +kernel
theorem d7_51 : decode prog_12_method_9_code 51 = .ok (.istore 7, 2) := by decide +kernel
theorem d7_53 : decode prog_12_method_9_code 53 = .ok (.iload 7, 2) := by decide +kernel
theorem d7_55 : decode prog_12_method_9_code 55 = .ok (.iconst (-1), 1) := by decide +kernel
theorem d7_56 : decode prog_12_method_9_code 56 = .ok (.if_icmp .eq 42, 3) := by decide +kernel
theorem d7_59 : decode prog_12_method_9_code 59 = .ok (.iload 7, 2) := by decide +kernel
theorem d7_61 : decode prog_12_method_9_code 61 = .ok (.iload_n 3, 1) := by decide +kernel
theorem d7_62 : decode prog_12_method_9_code 62 = .ok (.invokestatic 23, 3) := by decide +kernel
theorem d7_65 : decode prog_12_method_9_code 65 = .ok (.istore 8, 2) := by decide +kernel
theorem d7_89 : decode prog_12_method_9_code 89 = .ok (.aload_n 0, 1) := by decide +kernel
theorem d7_90 : decode prog_12_method_9_code 90 = .ok (.getfield 7, 3) := by decide +kernel
theorem d7_93 : decode prog_12_method_9_code 93 = .ok (.iload 8, 2) := by decide +kernel
theorem d7_95 : decode prog_12_method_9_code 95 = .ok (.iload 7, 2) := by decide +kernel
theorem d7_97 : decode prog_12_method_9_code 97 = .ok (.iastore, 1) := by decide +kernel
theorem d7_98 : decode prog_12_method_9_code 98 = .ok (.iinc 6 1, 3) := by decide +kernel
theorem d7_101 : decode prog_12_method_9_code 101 = .ok (.goto (-62), 3) := by decide +kernel
set_option maxRecDepth 65536 in
set_option maxHeartbeats 40000000 in
theorem lp7_39 (l : Launch) (Z : State) (a0 : Array Value) (hw : ∀ d ∈ tables_1, d.before a0 Z = true) {p : Program} {e : Env} {s : State} {m : MethodId} {below : List Frame} {meth : Method} {c : Code} (o0 : Addr) (p1 : Int32) (sa : Addr) (sn : Int32) (nl : Int32) (ga : Nat → Int32) (mk : Int32) (nb : Addr) (n0 : Nat) (hx : p.tables.exec = Jvm.exec) (hZ : Z.Warmed39 s.vm) (hby : c.code = prog_12_method_9_code) (hml : c.maxLocals = 9) (hown : s.vm.findClass "com/example/processionary/processionary/automata/IntSet" = some m.cls) (Q0_G : n0 ≤ nb) (Q1_NE : o0 ≠ nb) (Q2_NE : sa ≠ nb) (hn4 : nl.toInt = 4) (hp8 : p1.toInt = 8) (hmk : mk = (p1 - (1 : Int32))) :
    ∀ (d : Nat) (jv : Int32) (gr : Nat → Int32) (sl7 : Slot) (sl8 : Slot) (T0 : State) (M0 : List Loc) (h0 : Heap), n0 ≤ h0.size → (nl.toInt - jv.toInt).toNat = d → One sl7 → One sl8 → (0 ≤ jv.toInt ∧ jv.toInt ≤ nl.toInt) → (PR gr p1.toInt.toNat (HM p1)) → (List.Perm (TL gr p1.toInt.toNat) (TL ga jv.toInt.toNat)) → Stand p l e ({ frames := 1, cells := 1, slots := 8, locals := 15 } : Room) s m #[(.ref o0), (.int p1)] below meth c T0 M0 1 8 → T0.heap = h0 → Fr n0 M0 → Exa Z h0 o0 "com/example/processionary/processionary/automata/IntSet" → Fld Z h0 o0 "com/example/processionary/processionary/automata/IntSet" "slots" "[I" (.ref nb) → JV Value.int Z h0 sa .int nl ga → JV Value.int Z h0 nb .int p1 gr → (∃ (jv_ : Int32) (gr_ : Nat → Int32) (sl7_ : Slot) (sl8_ : Slot) (T' : State) (M' : List Loc) (h' : Heap), (PR gr_ p1.toInt.toNat (HM p1) ∧ List.Perm (TL gr_ p1.toInt.toNat) (TL ga nl.toInt.toNat)) ∧ One sl7_ ∧ One sl8_ ∧ Stand p l e ({ frames := 1, cells := 1, slots := 8, locals := 15 } : Room) s m #[(.ref o0), (.int p1)] below meth c T' M' 1 8 ∧ T'.heap = h' ∧ Fr n0 M' ∧ Keep h0 h' [nb] ∧ Exa Z h' o0 "com/example/processionary/processionary/automata/IntSet" ∧ Fld Z h' o0 "com/example/processionary/processionary/automata/IntSet" "slots" "[I" (.ref nb) ∧ JV Value.int Z h' sa .int nl ga ∧ JV Value.int Z h' nb .int p1 gr_ ∧ Lead p e below (T0.setTop (mkF m 39 #[.val (.ref o0), .val (.int p1), .val (.ref sa), .val (.int mk), .val (.ref sa), .val (.int nl), .val (.int jv), sl7, sl8] [])) (T'.setTop (mkF m 104 #[.val (.ref o0), .val (.int p1), .val (.ref sa), .val (.int mk), .val (.ref sa), .val (.int nl), .val (.int jv_), sl7_, sl8_] []))) := by
  intro d
  induction d using Nat.strongRecOn with
  | ind d ih =>
    intro jv gr sl7 sl8 T0 M0 h0 Z0 hd hsl7 hsl8 hi hpr hpm X0 e0 N0 P0_E P1_F P2_V P3_V
    have K0 : Keep h0 h0 [nb] := Keep.refl _ _
    obtain ⟨G, hG⟩ : ∃ z, z = T0.setTop (mkF m 39 #[.val (.ref o0), .val (.int p1), .val (.ref sa), .val (.int mk), .val (.ref sa), .val (.int nl), .val (.int jv), sl7, sl8] []) := ⟨_, rfl⟩
    rw [← hG]
    have pre0 : Lead p e below G (T0.setTop (mkF m 39 #[.val (.ref o0), .val (.int p1), .val (.ref sa), .val (.int mk), .val (.ref sa), .val (.int nl), .val (.int jv), sl7, sl8] [])) := fun t k => by rw [hG]; exact k
    have pre1 : Lead p e below G (T0.setTop (mkF m 43 #[.val (.ref o0), .val (.int p1), .val (.ref sa), .val (.int mk), .val (.ref sa), .val (.int nl), .val (.int jv), sl7, sl8] [(.int nl), (.int jv)])) := fun t k => by
      refine pre0 t ?_
      show Steps p.tables e below (T0.setTop (mkF m 39 #[.val (.ref o0), .val (.int p1), .val (.ref sa), .val (.int mk), .val (.ref sa), .val (.int nl), .val (.int jv), sl7, sl8] [])) _
      refine XS.iload X0.here hx rfl (hb hby d7_39) rfl ?_
      show Steps p.tables e below (T0.setTop (mkF m 41 #[.val (.ref o0), .val (.int p1), .val (.ref sa), .val (.int mk), .val (.ref sa), .val (.int nl), .val (.int jv), sl7, sl8] [(.int jv)])) _
      refine XS.iload X0.here hx rfl (hb hby d7_41) rfl ?_
      exact k
    by_cases hs43_2 : jv < nl
    · have pre3 : Lead p e below G (T0.setTop (mkF m 50 #[.val (.ref o0), .val (.int p1), .val (.ref sa), .val (.int mk), .val (.ref sa), .val (.int nl), .val (.int jv), sl7, sl8] [(.int jv), (.ref sa)])) := fun t k => by
        refine pre1 t ?_
        show Steps p.tables e below (T0.setTop (mkF m 43 #[.val (.ref o0), .val (.int p1), .val (.ref sa), .val (.int mk), .val (.ref sa), .val (.int nl), .val (.int jv), sl7, sl8] [(.int nl), (.int jv)])) _
        refine XS.icmpNo X0.here hx rfl (hb hby d7_43) rfl (tlt hs43_2).2.1 ?_
        refine XS.aload X0.here hx rfl (hb hby d7_46) rfl rfl ?_
        show Steps p.tables e below (T0.setTop (mkF m 48 #[.val (.ref o0), .val (.int p1), .val (.ref sa), .val (.int mk), .val (.ref sa), .val (.int nl), .val (.int jv), sl7, sl8] [(.ref sa)])) _
        refine XS.iload X0.here hx rfl (hb hby d7_48) rfl ?_
        exact k
      obtain ⟨cl4, Ar4, hin4, hat4⟩ := P2_V.in (j := jv) (own_bd hi.1 hs43_2)
      have st4 := X0.iaload hx (j := jv) (v := (.int (ga (jv).toNatClampNeg))) (by rw [e0]; exact Ar4.1) (State.isArrayOf_alike hZ.alike Ar4.2.1) Ar4.2.2 hin4 hat4 (g := (mkF m 50 #[.val (.ref o0), .val (.int p1), .val (.ref sa), .val (.int mk), .val (.ref sa), .val (.int nl), .val (.int jv), sl7, sl8] [(.int jv), (.ref sa)])) rfl rfl (hb hby d7_50)
      have pre4 : Lead p e below G (T0.setTop (mkF m 51 #[.val (.ref o0), .val (.int p1), .val (.ref sa), .val (.int mk), .val (.ref sa), .val (.int nl), .val (.int jv), sl7, sl8] [(.int (ga (jv).toNatClampNeg))])) := fun t k => pre3 t (st4 _ k)
      have pre5 : Lead p e below G (T0.setTop (mkF m 56 #[.val (.ref o0), .val (.int p1), .val (.ref sa), .val (.int mk), .val (.ref sa), .val (.int nl), .val (.int jv), .val (.int (ga (jv).toNatClampNeg)), sl8] [(.int (-1 : Int32)), (.int (ga (jv).toNatClampNeg))])) := fun t k => by
        refine pre4 t ?_
        show Steps p.tables e below (T0.setTop (mkF m 51 #[.val (.ref o0), .val (.int p1), .val (.ref sa), .val (.int mk), .val (.ref sa), .val (.int nl), .val (.int jv), sl7, sl8] [(.int (ga (jv).toNatClampNeg))])) _
        refine XS.istore X0.here hx rfl (hb hby d7_51) rfl (l' := #[.val (.ref o0), .val (.int p1), .val (.ref sa), .val (.int mk), .val (.ref sa), .val (.int nl), .val (.int jv), .val (.int (ga (jv).toNatClampNeg)), sl8]) (XS.store1 (o := sl7) rfl hsl7 rfl) ?_
        refine XS.iload X0.here hx rfl (hb hby d7_53) rfl ?_
        show Steps p.tables e below (T0.setTop (mkF m 55 #[.val (.ref o0), .val (.int p1), .val (.ref sa), .val (.int mk), .val (.ref sa), .val (.int nl), .val (.int jv), .val (.int (ga (jv).toNatClampNeg)), sl8] [(.int (ga (jv).toNatClampNeg))])) _
        refine XS.iconst X0.here hx rfl (hb hby d7_55) ?_
        exact k
      by_cases hs56_6 : (ga (jv).toNatClampNeg) = (-1 : Int32)
      · have pre7 : Lead p e below G (T0.setTop (mkF m 39 #[.val (.ref o0), .val (.int p1), .val (.ref sa), .val (.int mk), .val (.ref sa), .val (.int nl), .val (.int (jv + (1 : Int32))), .val (.int (ga (jv).toNatClampNeg)), sl8] [])) := fun t k => by
          refine pre5 t ?_
          show Steps p.tables e below (T0.setTop (mkF m 56 #[.val (.ref o0), .val (.int p1), .val (.ref sa), .val (.int mk), .val (.ref sa), .val (.int nl), .val (.int jv), .val (.int (ga (jv).toNatClampNeg)), sl8] [(.int (-1 : Int32)), (.int (ga (jv).toNatClampNeg))])) _
          refine XS.icmpYes X0.here hx rfl (pc0 := 56) (pc' := 98) rfl (hb hby d7_56) rfl (teq hs56_6).1 (by decide) (by decide) ?_
          refine XS.iinc X0.here hx rfl (hb hby d7_98) rfl (l' := #[.val (.ref o0), .val (.int p1), .val (.ref sa), .val (.int mk), .val (.ref sa), .val (.int nl), .val (.int (jv + (1 : Int32))), .val (.int (ga (jv).toNatClampNeg)), sl8]) rfl ?_
          show Steps p.tables e below (T0.setTop (mkF m 101 #[.val (.ref o0), .val (.int p1), .val (.ref sa), .val (.int mk), .val (.ref sa), .val (.int nl), .val (.int (jv + (1 : Int32))), .val (.int (ga (jv).toNatClampNeg)), sl8] [])) _
          refine XS.goto X0.here hx rfl (pc0 := 101) (pc' := 39) rfl (hb hby d7_101) (by decide) (by decide) ?_
          exact k
        obtain ⟨jv_8, gr_8, sl7_8, sl8_8, T8, M8, h8, q8_0, o8_0, o8_1, X8, e8, N8, K8, f8_0, f8_1, f8_2, f8_3, ld8⟩ := ih ((nl.toInt - (jv + (1 : Int32)).toInt).toNat) (hd ▸ own_dec hs43_2 hi) (jv + (1 : Int32)) gr (.val (.int (ga (jv).toNatClampNeg))) (sl8) _ _ _ (Nat.le_trans Z0 K0.1) rfl (One.val rfl) hsl8 (show 0 ≤ (jv + (1 : Int32)).toInt ∧ (jv + (1 : Int32)).toInt ≤ nl.toInt from own_nx hs43_2 hi) (show PR gr p1.toInt.toNat (HM p1) from hpr) (show List.Perm (TL gr p1.toInt.toNat) (TL ga (jv + (1 : Int32)).toInt.toNat) from (by skip; exact own_tj hs43_2 hi.1 (own_rs0 (gr := gr) hs56_6 hpm))) X0 e0 N0 P0_E P1_F P2_V P3_V
        exact ⟨jv_8, gr_8, sl7_8, sl8_8, T8, M8, h8, (show PR gr_8 p1.toInt.toNat (HM p1) ∧ List.Perm (TL gr_8 p1.toInt.toNat) (TL ga nl.toInt.toNat) from q8_0), o8_0, o8_1, X8, e8, N8, K0.trans K8 (fun x hx => Or.inl hx), f8_0, f8_1, f8_2, f8_3, fun t k => pre7 t (ld8 t k)⟩
      · have pre9 : Lead p e below G (T0.setTop (mkF m 62 #[.val (.ref o0), .val (.int p1), .val (.ref sa), .val (.int mk), .val (.ref sa), .val (.int nl), .val (.int jv), .val (.int (ga (jv).toNatClampNeg)), sl8] [(.int mk), (.int (ga (jv).toNatClampNeg))])) := fun t k => by
          refine pre5 t ?_
          show Steps p.tables e below (T0.setTop (mkF m 56 #[.val (.ref o0), .val (.int p1), .val (.ref sa), .val (.int mk), .val (.ref sa), .val (.int nl), .val (.int jv), .val (.int (ga (jv).toNatClampNeg)), sl8] [(.int (-1 : Int32)), (.int (ga (jv).toNatClampNeg))])) _
          refine XS.icmpNo X0.here hx rfl (hb hby d7_56) rfl (feq hs56_6).1 ?_
          refine XS.iload X0.here hx rfl (hb hby d7_59) rfl ?_
          show Steps p.tables e below (T0.setTop (mkF m 61 #[.val (.ref o0), .val (.int p1), .val (.ref sa), .val (.int mk), .val (.ref sa), .val (.int nl), .val (.int jv), .val (.int (ga (jv).toNatClampNeg)), sl8] [(.int (ga (jv).toNatClampNeg))])) _
          refine XS.iloadN X0.here hx rfl (hb hby d7_61) rfl ?_
          exact k
        obtain ⟨_, _, ⟨T10, L10, k10, n10⟩, -, X10, ⟨Lc10, hQ10, l10, y10, z10⟩, st10⟩ := Jvm.LawKit.callS X0 hx (y := (⟨"com/example/processionary/processionary/automata/IntSet", "slot", "(II)I"⟩ : MethodName)) hown (mvT hZ (hw _ (List.mem_of_getElem? (i := 28) rfl))) (mvT hZ (hw _ (List.mem_of_getElem? (i := 29) rfl))) (mvT hZ (hw _ (List.mem_of_getElem? (i := 7) rfl))) (mvT hZ (hw _ (List.mem_of_getElem? (i := 30) rfl))) (by decide) (backOf (W := 0) (rm6 l Z a0 hw [] (ga (jv).toNatClampNeg) mk  h0 n0 (Nat.le_trans Z0 K0.1) ) hZ (hw _ (List.mem_of_getElem? (i := 30) rfl)) (hw _ (List.mem_of_getElem? (i := 7) rfl)) (by decide) (by decide)) (g := (mkF m 62 #[.val (.ref o0), .val (.int p1), .val (.ref sa), .val (.int mk), .val (.ref sa), .val (.int nl), .val (.int jv), .val (.int (ga (jv).toNatClampNeg)), sl8] [(.int mk), (.int (ga (jv).toNatClampNeg))])) rfl (by rw [hml]; rfl) (argsL := [(.int (ga (jv).toNatClampNeg)), (.int mk)]) (rest := []) (lenOf pd__28_II_29_I rfl) rfl (by show 2 * 0 + _ ≤ _; exact Nat.le_of_eq rfl) (hb hby d7_62) (fun _ _ => ⟨rfl, e0, (by decide : 1 + 0 ≤ _), (by decide : 8 + 0 ≤ _)⟩)
        dsimp only [Pt.U, Pt.locs, Pt.cells, Pt.slots] at X10 l10 y10 z10 st10 hQ10
        subst l10 y10 z10
        obtain ⟨rfl, N10q, e10⟩ := hQ10
        have N10 := Fr.app N0 N10q
        obtain ⟨M10, Y10, N10⟩ : ∃ M, Stand p l e ({ frames := 1, cells := 1, slots := 8, locals := 15 } : Room) s m #[(.ref o0), (.int p1)] below meth c T10 M 1 8 ∧ Fr n0 M := ⟨_, X10, N10⟩
        have pre10 : Lead p e below G (T10.setTop (mkF m 65 #[.val (.ref o0), .val (.int p1), .val (.ref sa), .val (.int mk), .val (.ref sa), .val (.int nl), .val (.int jv), .val (.int (ga (jv).toNatClampNeg)), sl8] [(.int (F6 (ga (jv).toNatClampNeg) mk))])) := fun t k => pre9 t (st10 _ k)
        have pre11 : Lead p e below G (T10.setTop (mkF m 67 #[.val (.ref o0), .val (.int p1), .val (.ref sa), .val (.int mk), .val (.ref sa), .val (.int nl), .val (.int jv), .val (.int (ga (jv).toNatClampNeg)), .val (.int (F6 (ga (jv).toNatClampNeg) mk))] [])) := fun t k => by
          refine pre10 t ?_
          show Steps p.tables e below (T10.setTop (mkF m 65 #[.val (.ref o0), .val (.int p1), .val (.ref sa), .val (.int mk), .val (.ref sa), .val (.int nl), .val (.int jv), .val (.int (ga (jv).toNatClampNeg)), sl8] [(.int (F6 (ga (jv).toNatClampNeg) mk))])) _
          refine XS.istore Y10.here hx rfl (hb hby d7_65) rfl (l' := #[.val (.ref o0), .val (.int p1), .val (.ref sa), .val (.int mk), .val (.ref sa), .val (.int nl), .val (.int jv), .val (.int (ga (jv).toNatClampNeg)), .val (.int (F6 (ga (jv).toNatClampNeg) mk))]) (XS.store1 (o := sl8) rfl hsl8 rfl) ?_
          exact k
        obtain ⟨iv_12, T12, M12, h12, q12_0, q12_1, Y12, e12, N12, K12c, f12_0, f12_1, f12_2, ld12⟩ := lp7_67 l Z a0 hw o0 p1 sa sn nl ga mk jv (ga (jv).toNatClampNeg) nb gr n0 hx hZ hby hml hown (show p1.toInt = 8 from hp8) (show mk = (p1 - (1 : Int32)) from hmk) (show (TL gr p1.toInt.toNat).length < p1.toInt.toNat from own_rl hn4 hp8 hi hpm) _ (F6 (ga (jv).toNatClampNeg) mk) _ _ _ (Nat.le_trans Z0 K0.1) rfl (show VT gr p1 (ga (jv).toNatClampNeg) (F6 (ga (jv).toNatClampNeg) mk) from (by subst hmk; skip; exact vt0 (Or.inr hp8) gr _)) Y10 e10 N10 P0_E P1_F P3_V
        have K12 : Keep h0 h12 [nb] := K0.trans K12c all0
        have pre12_89 : Lead p e below G (T12.setTop (mkF m 89 #[.val (.ref o0), .val (.int p1), .val (.ref sa), .val (.int mk), .val (.ref sa), .val (.int nl), .val (.int jv), .val (.int (ga (jv).toNatClampNeg)), .val (.int iv_12)] [])) := fun t k => pre11 t (ld12 t k)
        have pre13 : Lead p e below G (T12.setTop (mkF m 90 #[.val (.ref o0), .val (.int p1), .val (.ref sa), .val (.int mk), .val (.ref sa), .val (.int nl), .val (.int jv), .val (.int (ga (jv).toNatClampNeg)), .val (.int iv_12)] [(.ref o0)])) := fun t k => by
          refine pre12_89 t ?_
          show Steps p.tables e below (T12.setTop (mkF m 89 #[.val (.ref o0), .val (.int p1), .val (.ref sa), .val (.int mk), .val (.ref sa), .val (.int nl), .val (.int jv), .val (.int (ga (jv).toNatClampNeg)), .val (.int iv_12)] [])) _
          refine XS.aloadN Y12.here hx rfl (hb hby d7_89) rfl rfl ?_
          show Steps p.tables e below (T12.setTop (mkF m 90 #[.val (.ref o0), .val (.int p1), .val (.ref sa), .val (.int mk), .val (.ref sa), .val (.int nl), .val (.int jv), .val (.int (ga (jv).toNatClampNeg)), .val (.int iv_12)] [(.ref o0)])) _
          exact k
        obtain ⟨T14, X14, e14, st14⟩ := getF Y12 hx hZ hown (host := "") (Or.inl (hw _ (List.mem_of_getElem? (i := 15) rfl))) Via.refl e12 f12_1 (g := (mkF m 90 #[.val (.ref o0), .val (.int p1), .val (.ref sa), .val (.int mk), .val (.ref sa), .val (.int nl), .val (.int jv), .val (.int (ga (jv).toNatClampNeg)), .val (.int iv_12)] [(.ref o0)])) rfl rfl (hb hby d7_90)
        have pre14 : Lead p e below G (T14.setTop (mkF m 93 #[.val (.ref o0), .val (.int p1), .val (.ref sa), .val (.int mk), .val (.ref sa), .val (.int nl), .val (.int jv), .val (.int (ga (jv).toNatClampNeg)), .val (.int iv_12)] [(.ref nb)])) := fun t k => pre13 t (st14 _ k)
        have pre15 : Lead p e below G (T14.setTop (mkF m 97 #[.val (.ref o0), .val (.int p1), .val (.ref sa), .val (.int mk), .val (.ref sa), .val (.int nl), .val (.int jv), .val (.int (ga (jv).toNatClampNeg)), .val (.int iv_12)] [(.int (ga (jv).toNatClampNeg)), (.int iv_12), (.ref nb)])) := fun t k => by
          refine pre14 t ?_
          show Steps p.tables e below (T14.setTop (mkF m 93 #[.val (.ref o0), .val (.int p1), .val (.ref sa), .val (.int mk), .val (.ref sa), .val (.int nl), .val (.int jv), .val (.int (ga (jv).toNatClampNeg)), .val (.int iv_12)] [(.ref nb)])) _
          refine XS.iload X14.here hx rfl (hb hby d7_93) rfl ?_
          refine XS.iload X14.here hx rfl (hb hby d7_95) rfl ?_
          exact k
        obtain ⟨cl16, Ar16, hin16, -⟩ := f12_2.in (j := iv_12) (vb q12_1)
        obtain ⟨T16, h16, X16, e16, W16, st16⟩ := stI X14 hx hZ e14 Ar16 (j := iv_12) hin16 (g := (mkF m 97 #[.val (.ref o0), .val (.int p1), .val (.ref sa), .val (.int mk), .val (.ref sa), .val (.int nl), .val (.int jv), .val (.int (ga (jv).toNatClampNeg)), .val (.int iv_12)] [(.int (ga (jv).toNatClampNeg)), (.int iv_12), (.ref nb)])) rfl rfl (hb hby d7_97)
        have N16 := Fr.snoc X16 N12 Q0_G
        have K16 : Keep h0 h16 [nb] := K12.wr W16 (Or.inl (List.mem_of_getElem? (i := 0) rfl))
        obtain ⟨M16, Y16, N16⟩ : ∃ M, Stand p l e ({ frames := 1, cells := 1, slots := 8, locals := 15 } : Room) s m #[(.ref o0), (.int p1)] below meth c T16 M 1 8 ∧ Fr n0 M := ⟨_, X16, N16⟩
        have V16 : JV Value.int Z h16 nb .int p1 (updF gr (iv_12).toNatClampNeg (ga (jv).toNatClampNeg)) := f12_2.set W16
        have pre16 : Lead p e below G (T16.setTop (mkF m 98 #[.val (.ref o0), .val (.int p1), .val (.ref sa), .val (.int mk), .val (.ref sa), .val (.int nl), .val (.int jv), .val (.int (ga (jv).toNatClampNeg)), .val (.int iv_12)] [])) := fun t k => pre15 t (st16 _ k)
        have pre17 : Lead p e below G (T16.setTop (mkF m 39 #[.val (.ref o0), .val (.int p1), .val (.ref sa), .val (.int mk), .val (.ref sa), .val (.int nl), .val (.int (jv + (1 : Int32))), .val (.int (ga (jv).toNatClampNeg)), .val (.int iv_12)] [])) := fun t k => by
          refine pre16 t ?_
          show Steps p.tables e below (T16.setTop (mkF m 98 #[.val (.ref o0), .val (.int p1), .val (.ref sa), .val (.int mk), .val (.ref sa), .val (.int nl), .val (.int jv), .val (.int (ga (jv).toNatClampNeg)), .val (.int iv_12)] [])) _
          refine XS.iinc Y16.here hx rfl (hb hby d7_98) rfl (l' := #[.val (.ref o0), .val (.int p1), .val (.ref sa), .val (.int mk), .val (.ref sa), .val (.int nl), .val (.int (jv + (1 : Int32))), .val (.int (ga (jv).toNatClampNeg)), .val (.int iv_12)]) rfl ?_
          show Steps p.tables e below (T16.setTop (mkF m 101 #[.val (.ref o0), .val (.int p1), .val (.ref sa), .val (.int mk), .val (.ref sa), .val (.int nl), .val (.int (jv + (1 : Int32))), .val (.int (ga (jv).toNatClampNeg)), .val (.int iv_12)] [])) _
          refine XS.goto Y16.here hx rfl (pc0 := 101) (pc' := 39) rfl (hb hby d7_101) (by decide) (by decide) ?_
          exact k
        have f18 : Exa Z h16 o0 "com/example/processionary/processionary/automata/IntSet" := (f12_0.wr W16)
        have f19 : Fld Z h16 o0 "com/example/processionary/processionary/automata/IntSet" "slots" "[I" (.ref nb) := (f12_1.other W16 (Or.inl Q1_NE))
        have f20 : JV Value.int Z h16 sa .int nl ga := ((P2_V.keep K12c nin0).other W16 Q2_NE)
        obtain ⟨jv_21, gr_21, sl7_21, sl8_21, T21, M21, h21, q21_0, o21_0, o21_1, X21, e21, N21, K21, f21_0, f21_1, f21_2, f21_3, ld21⟩ := ih ((nl.toInt - (jv + (1 : Int32)).toInt).toNat) (hd ▸ own_dec hs43_2 hi) (jv + (1 : Int32)) (updF gr (iv_12).toNatClampNeg (ga (jv).toNatClampNeg)) (.val (.int (ga (jv).toNatClampNeg))) (.val (.int iv_12)) _ _ _ (Nat.le_trans Z0 K16.1) rfl (One.val rfl) (One.val rfl) (show 0 ≤ (jv + (1 : Int32)).toInt ∧ (jv + (1 : Int32)).toInt ≤ nl.toInt from own_nx hs43_2 hi) (show PR (updF gr (iv_12).toNatClampNeg (ga (jv).toNatClampNeg)) p1.toInt.toNat (HM p1) from (by skip; exact vt_pr (Or.inr hp8) hpr q12_1 q12_0 hs56_6)) (show List.Perm (TL (updF gr (iv_12).toNatClampNeg (ga (jv).toNatClampNeg)) p1.toInt.toNat) (TL ga (jv + (1 : Int32)).toInt.toNat) from (by skip; exact own_tj hs43_2 hi.1 (own_rs1 hs56_6 hpm (vt_put q12_1 q12_0 hs56_6)))) Y16 e16 N16 f18 f19 f20 V16
        exact ⟨jv_21, gr_21, sl7_21, sl8_21, T21, M21, h21, (show PR gr_21 p1.toInt.toNat (HM p1) ∧ List.Perm (TL gr_21 p1.toInt.toNat) (TL ga nl.toInt.toNat) from q21_0), o21_0, o21_1, X21, e21, N21, K16.trans K21 (fun x hx => Or.inl hx), f21_0, f21_1, f21_2, f21_3, fun t k => pre17 t (ld21 t k)⟩
    · have pre22 : Lead p e below G (T0.setTop (mkF m 104 #[.val (.ref o0), .val (.int p1), .val (.ref sa), .val (.int mk), .val (.ref sa), .val (.int nl), .val (.int jv), sl7, sl8] [])) := fun t k => by
        refine pre1 t ?_
        show Steps p.tables e below (T0.setTop (mkF m 43 #[.val (.ref o0), .val (.int p1), .val (.ref sa), .val (.int mk), .val (.ref sa), .val (.int nl), .val (.int jv), sl7, sl8] [(.int nl), (.int jv)])) _
        refine XS.icmpYes X0.here hx rfl (pc0 := 43) (pc' := 104) rfl (hb hby d7_43) rfl (flt hs43_2).2.1 (by decide) (by decide) ?_
        exact k
      exact ⟨jv, gr, (sl7), (sl8), T0, _, _, (show PR gr p1.toInt.toNat (HM p1) ∧ List.Perm (TL gr p1.toInt.toNat) (TL ga nl.toInt.toNat) from ⟨hpr, own_tend hs43_2 hi hpm⟩), hsl7, hsl8, X0, e0, N0, K0, P0_E, P1_F, P2_V, P3_V, pre22⟩
theorem d7_0 : decode prog_12_method_9_code 0 = .ok (.aload_n 0, 1) := by decide +kernel
theorem d7_1 : decode prog_12_method_9_code 1 = .ok (.getfield 7, 3) := by decide +kernel
theorem d7_4 : decode prog_12_method_9_code 4 = .ok (.astore_n 2, 1) := by decide +kernel
theorem d7_5 : decode prog_12_method_9_code 5 = .ok (.aload_n 0, 1) := by decide +kernel
theorem d7_6 : decode prog_12_method_9_code 6 = .ok (.iload_n 1, 1) := by decide +kernel
theorem d7_7 : decode prog_12_method_9_code 7 = .ok (.newarray .int, 2) := by decide +kernel
theorem d7_9 : decode prog_12_method_9_code 9 = .ok (.putfield 7, 3) := by decide +kernel
theorem d7_12 : decode prog_12_method_9_code 12 = .ok (.aload_n 0, 1) := by decide +kernel
theorem d7_13 : decode prog_12_method_9_code 13 = .ok (.getfield 7, 3) := by decide +kernel
theorem d7_16 : decode prog_12_method_9_code 16 = .ok (.iconst (-1), 1) := by decide +kernel
theorem d7_17 : decode prog_12_method_9_code 17 = .ok (.invokestatic 13, 3) := by decide +kernel
theorem d7_20 : decode prog_12_method_9_code 20 = .ok (.aload_n 0, 1) := by decide +kernel
theorem d7_21 : decode prog_12_method_9_code 21 = .ok (.getfield 7, 3) := by decide +kernel
theorem d7_24 : decode prog_12_method_9_code 24 = .ok (.arraylength, 1) := by decide +kernel
theorem d7_25 : decode prog_12_method_9_code 25 = .ok (.iconst 1, 1) := by decide +kernel
theorem d7_26 : decode prog_12_method_9_code 26 = .ok (.isub, 1) := by decide +kernel
theorem d7_27 : decode prog_12_method_9_code 27 = .ok (.istore_n 3, 1) := by decide +kernel
theorem d7_28 : decode prog_12_method_9_code 28 = .ok (.aload_n 2, 1) := by decide +kernel
theorem d7_29 : decode prog_12_method_9_code 29 = .ok (.astore 4, 2) := by decide +kernel
theorem d7_31 : decode prog_12_method_9_code 31 = .ok (.aload 4, 2) := by decide +kernel
theorem d7_33 : decode prog_12_method_9_code 33 = .ok (.arraylength, 1) := by decide +kernel
theorem d7_34 : decode prog_12_method_9_code 34 = .ok (.istore 5, 2) := by decide +kernel
theorem d7_36 : decode prog_12_method_9_code 36 = .ok (.iconst 0, 1) := by decide +kernel
theorem d7_37 : decode prog_12_method_9_code 37 = .ok (.istore 6, 2) := by decide +kernel
theorem d7_104 : decode prog_12_method_9_code 104 = .ok (.return_, 1) := by decide +kernel
theorem ef_7 (m : MethodId) (o0 : Addr) (p1 : Int32) : entryFrame m #[(.ref o0), (.int p1)] 9 = mkF m 0 #[.val (.ref o0), .val (.int p1), .unset, .unset, .unset, .unset, .unset, .unset, .unset] [] := by first | (simp [entryFrame, mkF, argsToLocals, Value.category]; done) | rfl
def Q7 (Z : State) (o0 : Addr) (p1 : Int32) (sa : Addr) (sn : Int32) (nl : Int32) (ga : Nat → Int32) (h0 : Heap) (n0 : Nat) (v : Option Value) (h : Heap) (L : List Loc) : Prop := ∃ nb : Addr, ∃ gb : Nat → Int32, v = none ∧ Fr n0 L ∧ Keep h0 h [o0] ∧ Exa Z h o0 "com/example/processionary/processionary/automata/IntSet" ∧ Fld Z h o0 "com/example/processionary/processionary/automata/IntSet" "slots" "[I" (.ref nb) ∧ Fld Z h o0 "com/example/processionary/processionary/automata/IntSet" "size" "I" (.int sn) ∧ h0.size ≤ nb ∧ JV Value.int Z h nb .int p1 gb ∧ (PR gb p1.toInt.toNat (HM p1) ∧ List.Perm (TL gb p1.toInt.toNat) (TL ga nl.toInt.toNat))
set_option maxRecDepth 65536 in
set_option maxHeartbeats 40000000 in
theorem rm7 (l : Launch) (Z : State) (a0 : Array Value) (hw : ∀ d ∈ tables_1, d.before a0 Z = true) (ws : List Jvm.Cond) (o0 : Addr) (p1 : Int32) (sa : Addr) (sn : Int32) (nl : Int32) (ga : Nat → Int32) (h0 : Heap) (n0 : Nat) (Z0 : n0 ≤ h0.size) (P0_E : Exa Z h0 o0 "com/example/processionary/processionary/automata/IntSet") (P1_F : Fld Z h0 o0 "com/example/processionary/processionary/automata/IntSet" "slots" "[I" (.ref sa)) (P2_F : Fld Z h0 o0 "com/example/processionary/processionary/automata/IntSet" "size" "I" (.int sn)) (P3_V : JV Value.int Z h0 sa .int nl ga) (P4_G : n0 ≤ o0) (P5_NE : o0 ≠ sa) (hn4 : (nl.toInt = 4)) (hp8 : (p1.toInt = 8)) :
    MetFree l (⟨"com/example/processionary/processionary/automata/IntSet", "resize", "(I)V"⟩ : MethodName) (head1 (Jvm.Cond.code (⟨"com/example/processionary/processionary/automata/IntSet", "resize", "(I)V"⟩ : MethodName) prog_12_method_9_code 9 none :: ws) ({ frames := 1, cells := 1, slots := 8, locals := 15 } : Room)) (fun a U => a = #[(.ref o0), (.int p1)] ∧ Z.Warmed39 U.vm ∧ U.heap = h0) (fun _ _ _ _ _ => True) (fun _ U o U' => ∃ v L, o = .returned v ∧ Q7 Z o0 p1 sa sn nl ga h0 n0 v U'.heap L ∧ FrameEnd U o U' L ({ frames := 1, cells := 1, slots := 8, locals := 15 } : Room).cells ({ frames := 1, cells := 1, slots := 8, locals := 15 } : Room).slots) := by
  refine MetFree.of_bodySF (plainFor_of_name pn_com_example_processionary_processionary_automata_IntSet) hisR ?_
  intro p e s m args below meth c s₁ Bd hml0 hP hK
  obtain ⟨rfl, hZ, hh⟩ := hP
  have hx := Bd.exec
  have hby := Bd.bytes
  have hml : c.maxLocals = 9 := hml0
  have hown : s.vm.findClass "com/example/processionary/processionary/automata/IntSet" = some m.cls := findClass_of_methodNamed Bd.named
  have hnm := (name_of_methodNamed Bd.named Bd.method).1
  have X0 : Stand p l e ({ frames := 1, cells := 1, slots := 8, locals := 15 } : Room) s m #[(.ref o0), (.int p1)] below meth c s₁ [] 0 0 := Stand.of_body Bd
  have e0 : s₁.heap = h0 := by rw [← hh, Bd.state]; rfl
  have N0 := Fr.nil n0
  have K0 : Keep h0 h0 [o0] := Keep.refl _ _
  obtain ⟨G, hG⟩ : ∃ z, z = s₁.setTop (entryFrame m #[(.ref o0), (.int p1)] 9) := ⟨_, rfl⟩
  have pre0 : Lead p e below G (s₁.setTop (mkF m 0 #[.val (.ref o0), .val (.int p1), .unset, .unset, .unset, .unset, .unset, .unset, .unset] [])) := fun t k => by rw [hG]; exact castTop (ef_7 m o0 p1) k
  have pre1 : Lead p e below G (s₁.setTop (mkF m 1 #[.val (.ref o0), .val (.int p1), .unset, .unset, .unset, .unset, .unset, .unset, .unset] [(.ref o0)])) := fun t k => by
    refine pre0 t ?_
    show Steps p.tables e below (s₁.setTop (mkF m 0 #[.val (.ref o0), .val (.int p1), .unset, .unset, .unset, .unset, .unset, .unset, .unset] [])) _
    refine XS.aloadN X0.here hx rfl (hb hby d7_0) rfl rfl ?_
    show Steps p.tables e below (s₁.setTop (mkF m 1 #[.val (.ref o0), .val (.int p1), .unset, .unset, .unset, .unset, .unset, .unset, .unset] [(.ref o0)])) _
    exact k
  obtain ⟨T2, X2, e2, st2⟩ := getF X0 hx hZ hown (host := "") (Or.inl (hw _ (List.mem_of_getElem? (i := 15) rfl))) Via.refl e0 P1_F (g := (mkF m 1 #[.val (.ref o0), .val (.int p1), .unset, .unset, .unset, .unset, .unset, .unset, .unset] [(.ref o0)])) rfl rfl (hb hby d7_1)
  have pre2 : Lead p e below G (T2.setTop (mkF m 4 #[.val (.ref o0), .val (.int p1), .unset, .unset, .unset, .unset, .unset, .unset, .unset] [(.ref sa)])) := fun t k => pre1 t (st2 _ k)
  have pre3 : Lead p e below G (T2.setTop (mkF m 7 #[.val (.ref o0), .val (.int p1), .val (.ref sa), .unset, .unset, .unset, .unset, .unset, .unset] [(.int p1), (.ref o0)])) := fun t k => by
    refine pre2 t ?_
    show Steps p.tables e below (T2.setTop (mkF m 4 #[.val (.ref o0), .val (.int p1), .unset, .unset, .unset, .unset, .unset, .unset, .unset] [(.ref sa)])) _
    refine XS.astoreN X2.here hx rfl (hb hby d7_4) rfl rfl (l' := #[.val (.ref o0), .val (.int p1), .val (.ref sa), .unset, .unset, .unset, .unset, .unset, .unset]) rfl ?_
    refine XS.aloadN X2.here hx rfl (hb hby d7_5) rfl rfl ?_
    refine XS.iloadN X2.here hx rfl (hb hby d7_6) rfl ?_
    show Steps p.tables e below (T2.setTop (mkF m 7 #[.val (.ref o0), .val (.int p1), .val (.ref sa), .unset, .unset, .unset, .unset, .unset, .unset] [(.int p1), (.ref o0)])) _
    exact k
  obtain ⟨T4, h4, k4, X4, e4, E4, A4, st4⟩ := newP X2 hx hZ (hw _ (List.mem_of_getElem? (i := 14) rfl)) e2 (g := (mkF m 7 #[.val (.ref o0), .val (.int p1), .val (.ref sa), .unset, .unset, .unset, .unset, .unset, .unset] [(.int p1), (.ref o0)])) rfl (hb hby d7_7) rfl (show ¬ p1 < 0 from by rw [Int32.lt_iff_toInt_lt, Int32.toInt_zero]; omega) (cap := 8) (own_nat (by omega)) (by decide) (by decide) (by decide)
  obtain ⟨b4, g4⟩ : ∃ z, z = h0.size := ⟨_, rfl⟩
  rw [← g4] at A4 st4
  have ne4_o0 : o0 ≠ b4 := Nat.ne_of_lt (Nat.lt_of_lt_of_le P0_E.lt (Nat.le_of_eq g4.symm))
  have ne4_sa : sa ≠ b4 := Nat.ne_of_lt (Nat.lt_of_lt_of_le P3_V.lt (Nat.le_of_eq g4.symm))
  have sz4 : h0.size ≤ b4 := Nat.le_trans K0.1 (Nat.le_of_eq g4.symm)
  have ge4 : n0 ≤ b4 := Nat.le_trans Z0 sz4
  have K4 : Keep h0 h4 [o0] := K0.ext E4
  have V4 : JV Value.int Z h4 b4 .int p1 (fun _ => (0 : Int32)) := JV.new A4 (show ¬ p1 < 0 from by rw [Int32.lt_iff_toInt_lt, Int32.toInt_zero]; omega) _ rfl
  have pre4 : Lead p e below G (T4.setTop (mkF m 9 #[.val (.ref o0), .val (.int p1), .val (.ref sa), .unset, .unset, .unset, .unset, .unset, .unset] [(.ref b4), (.ref o0)])) := fun t k => pre3 t (st4 _ k)
  have f6 : Fld Z h4 o0 "com/example/processionary/processionary/automata/IntSet" "slots" "[I" (.ref sa) := (P1_F.ext E4)
  have f7 : Exa Z h4 o0 "com/example/processionary/processionary/automata/IntSet" := (P0_E.ext E4)
  obtain ⟨T5, h5, X5, e5, W5, st5⟩ := putF X4 hx hZ hown (host := "") (Or.inl (hw _ (List.mem_of_getElem? (i := 15) rfl))) Via.refl e4 f6 f7 (Or.inl (hw _ (List.mem_of_getElem? (i := 16) rfl))) (hw _ (List.mem_of_getElem? (i := 6) rfl)) (ty := (.array .int)) (by decide) rfl rfl (g := (mkF m 9 #[.val (.ref o0), .val (.int p1), .val (.ref sa), .unset, .unset, .unset, .unset, .unset, .unset] [(.ref b4), (.ref o0)])) rfl rfl (hb hby d7_9)
  have N5 := Fr.snoc X5 N0 P4_G
  have K5 : Keep h0 h5 [o0] := K4.wr W5 (Or.inl (List.mem_of_getElem? (i := 0) rfl))
  obtain ⟨M5, Y5, N5⟩ : ∃ M, Stand p l e ({ frames := 1, cells := 1, slots := 8, locals := 15 } : Room) s m #[(.ref o0), (.int p1)] below meth c T5 M 1 8 ∧ Fr n0 M := ⟨_, X5, N5⟩
  have Fw5 : Fld Z h5 o0 "com/example/processionary/processionary/automata/IntSet" "slots" "[I" (.ref b4) := f6.same W5
  have pre5 : Lead p e below G (T5.setTop (mkF m 12 #[.val (.ref o0), .val (.int p1), .val (.ref sa), .unset, .unset, .unset, .unset, .unset, .unset] [])) := fun t k => pre4 t (st5 _ k)
  have pre8 : Lead p e below G (T5.setTop (mkF m 13 #[.val (.ref o0), .val (.int p1), .val (.ref sa), .unset, .unset, .unset, .unset, .unset, .unset] [(.ref o0)])) := fun t k => by
    refine pre5 t ?_
    show Steps p.tables e below (T5.setTop (mkF m 12 #[.val (.ref o0), .val (.int p1), .val (.ref sa), .unset, .unset, .unset, .unset, .unset, .unset] [])) _
    refine XS.aloadN Y5.here hx rfl (hb hby d7_12) rfl rfl ?_
    exact k
  obtain ⟨T9, X9, e9, st9⟩ := getF Y5 hx hZ hown (host := "") (Or.inl (hw _ (List.mem_of_getElem? (i := 15) rfl))) Via.refl e5 Fw5 (g := (mkF m 13 #[.val (.ref o0), .val (.int p1), .val (.ref sa), .unset, .unset, .unset, .unset, .unset, .unset] [(.ref o0)])) rfl rfl (hb hby d7_13)
  have pre9 : Lead p e below G (T9.setTop (mkF m 16 #[.val (.ref o0), .val (.int p1), .val (.ref sa), .unset, .unset, .unset, .unset, .unset, .unset] [(.ref b4)])) := fun t k => pre8 t (st9 _ k)
  have pre10 : Lead p e below G (T9.setTop (mkF m 17 #[.val (.ref o0), .val (.int p1), .val (.ref sa), .unset, .unset, .unset, .unset, .unset, .unset] [(.int (-1 : Int32)), (.ref b4)])) := fun t k => by
    refine pre9 t ?_
    show Steps p.tables e below (T9.setTop (mkF m 16 #[.val (.ref o0), .val (.int p1), .val (.ref sa), .unset, .unset, .unset, .unset, .unset, .unset] [(.ref b4)])) _
    refine XS.iconst X9.here hx rfl (hb hby d7_16) ?_
    exact k
  have f12 : JV Value.int Z h5 b4 .int p1 (fun _ => (0 : Int32)) := (V4.other W5 (Ne.symm ne4_o0))
  obtain ⟨_, _, ⟨T11, L11, k11, n11⟩, -, X11, ⟨Lc11, hQ11, l11, y11, z11⟩, st11⟩ := Jvm.LawKit.callS X9 hx (y := (⟨"java/util/Arrays", "fill", "([II)V"⟩ : MethodName)) hown (mvT hZ (hw _ (List.mem_of_getElem? (i := 17) rfl))) (mvT hZ (hw _ (List.mem_of_getElem? (i := 18) rfl))) (mvT hZ (hw _ (List.mem_of_getElem? (i := 19) rfl))) (mvT hZ (hw _ (List.mem_of_getElem? (i := 20) rfl))) (by decide) (backOf (W := 0) (rm4 l Z a0 hw [] b4 (-1 : Int32) p1 (fun _ => (0 : Int32)) h5 n0 (Nat.le_trans Z0 K5.1) f12 ge4 (show ¬ p1 < 0 from (by rw [Int32.lt_iff_toInt_lt, Int32.toInt_zero]; omega))) hZ (hw _ (List.mem_of_getElem? (i := 20) rfl)) (hw _ (List.mem_of_getElem? (i := 19) rfl)) (by decide) (by decide)) (g := (mkF m 17 #[.val (.ref o0), .val (.int p1), .val (.ref sa), .unset, .unset, .unset, .unset, .unset, .unset] [(.int (-1 : Int32)), (.ref b4)])) rfl (by rw [hml]; rfl) (argsL := [(.ref b4), (.int (-1 : Int32))]) (rest := []) (lenOf pd__28__5b_II_29_V rfl) rfl (by show 2 * 0 + _ ≤ _; exact Nat.le_of_eq rfl) (hb hby d7_17) (fun _ _ => ⟨rfl, e9, (by decide : 1 + 0 ≤ _), (by decide : 8 + 0 ≤ _)⟩)
  dsimp only [Pt.U, Pt.locs, Pt.cells, Pt.slots] at X11 l11 y11 z11 st11 hQ11
  subst l11 y11 z11
  obtain ⟨gr_11, rfl, N11q, K11c, c11_0, c11_1⟩ := hQ11
  have N11 := Fr.app N5 N11q
  have K11 : Keep h0 T11.heap [o0] := K5.trans K11c (allS (Or.inr sz4) all0)
  obtain ⟨M11, Y11, N11⟩ : ∃ M, Stand p l e ({ frames := 1, cells := 1, slots := 8, locals := 15 } : Room) s m #[(.ref o0), (.int p1)] below meth c T11 M 1 8 ∧ Fr n0 M := ⟨_, X11, N11⟩
  have pre11 : Lead p e below G (T11.setTop (mkF m 20 #[.val (.ref o0), .val (.int p1), .val (.ref sa), .unset, .unset, .unset, .unset, .unset, .unset] [])) := fun t k => pre10 t (st11 _ k)
  have pre13 : Lead p e below G (T11.setTop (mkF m 21 #[.val (.ref o0), .val (.int p1), .val (.ref sa), .unset, .unset, .unset, .unset, .unset, .unset] [(.ref o0)])) := fun t k => by
    refine pre11 t ?_
    show Steps p.tables e below (T11.setTop (mkF m 20 #[.val (.ref o0), .val (.int p1), .val (.ref sa), .unset, .unset, .unset, .unset, .unset, .unset] [])) _
    refine XS.aloadN Y11.here hx rfl (hb hby d7_20) rfl rfl ?_
    show Steps p.tables e below (T11.setTop (mkF m 21 #[.val (.ref o0), .val (.int p1), .val (.ref sa), .unset, .unset, .unset, .unset, .unset, .unset] [(.ref o0)])) _
    exact k
  have f15 : Fld Z T11.heap o0 "com/example/processionary/processionary/automata/IntSet" "slots" "[I" (.ref b4) := (Fw5.keep K11c (ninS ne4_o0 nin0))
  obtain ⟨T14, X14, e14, st14⟩ := getF Y11 hx hZ hown (host := "") (Or.inl (hw _ (List.mem_of_getElem? (i := 15) rfl))) Via.refl rfl f15 (g := (mkF m 21 #[.val (.ref o0), .val (.int p1), .val (.ref sa), .unset, .unset, .unset, .unset, .unset, .unset] [(.ref o0)])) rfl rfl (hb hby d7_21)
  have pre14 : Lead p e below G (T14.setTop (mkF m 24 #[.val (.ref o0), .val (.int p1), .val (.ref sa), .unset, .unset, .unset, .unset, .unset, .unset] [(.ref b4)])) := fun t k => pre13 t (st14 _ k)
  obtain ⟨cl16, Ar16, len16⟩ := c11_0.len
  have st16 := X14.arraylength hx (by rw [e14]; exact Ar16.1) (State.isArrayOf_alike hZ.alike Ar16.2.1) (g := (mkF m 24 #[.val (.ref o0), .val (.int p1), .val (.ref sa), .unset, .unset, .unset, .unset, .unset, .unset] [(.ref b4)])) rfl rfl (hb hby d7_24)
  rw [len16] at st16
  have pre16 : Lead p e below G (T14.setTop (mkF m 25 #[.val (.ref o0), .val (.int p1), .val (.ref sa), .unset, .unset, .unset, .unset, .unset, .unset] [(.int p1)])) := fun t k => pre14 t (st16 _ k)
  have pre17 : Lead p e below G (T14.setTop (mkF m 33 #[.val (.ref o0), .val (.int p1), .val (.ref sa), .val (.int (p1 - (1 : Int32))), .val (.ref sa), .unset, .unset, .unset, .unset] [(.ref sa)])) := fun t k => by
    refine pre16 t ?_
    show Steps p.tables e below (T14.setTop (mkF m 25 #[.val (.ref o0), .val (.int p1), .val (.ref sa), .unset, .unset, .unset, .unset, .unset, .unset] [(.int p1)])) _
    refine XS.iconst X14.here hx rfl (hb hby d7_25) ?_
    refine XS.isub X14.here hx rfl (hb hby d7_26) rfl ?_
    refine XS.istoreN X14.here hx rfl (hb hby d7_27) rfl (l' := #[.val (.ref o0), .val (.int p1), .val (.ref sa), .val (.int (p1 - (1 : Int32))), .unset, .unset, .unset, .unset, .unset]) rfl ?_
    show Steps p.tables e below (T14.setTop (mkF m 28 #[.val (.ref o0), .val (.int p1), .val (.ref sa), .val (.int (p1 - (1 : Int32))), .unset, .unset, .unset, .unset, .unset] [])) _
    refine XS.aloadN X14.here hx rfl (hb hby d7_28) rfl rfl ?_
    refine XS.astore X14.here hx rfl (hb hby d7_29) rfl rfl (l' := #[.val (.ref o0), .val (.int p1), .val (.ref sa), .val (.int (p1 - (1 : Int32))), .val (.ref sa), .unset, .unset, .unset, .unset]) rfl ?_
    refine XS.aload X14.here hx rfl (hb hby d7_31) rfl rfl ?_
    show Steps p.tables e below (T14.setTop (mkF m 33 #[.val (.ref o0), .val (.int p1), .val (.ref sa), .val (.int (p1 - (1 : Int32))), .val (.ref sa), .unset, .unset, .unset, .unset] [(.ref sa)])) _
    exact k
  have f19 : JV Value.int Z T11.heap sa .int nl ga := (((P3_V.ext E4).other W5 (Ne.symm P5_NE)).keep K11c (ninS ne4_sa nin0))
  obtain ⟨cl18, Ar18, len18⟩ := f19.len
  have st18 := X14.arraylength hx (by rw [e14]; exact Ar18.1) (State.isArrayOf_alike hZ.alike Ar18.2.1) (g := (mkF m 33 #[.val (.ref o0), .val (.int p1), .val (.ref sa), .val (.int (p1 - (1 : Int32))), .val (.ref sa), .unset, .unset, .unset, .unset] [(.ref sa)])) rfl rfl (hb hby d7_33)
  rw [len18] at st18
  have pre18 : Lead p e below G (T14.setTop (mkF m 34 #[.val (.ref o0), .val (.int p1), .val (.ref sa), .val (.int (p1 - (1 : Int32))), .val (.ref sa), .unset, .unset, .unset, .unset] [(.int nl)])) := fun t k => pre17 t (st18 _ k)
  have pre20 : Lead p e below G (T14.setTop (mkF m 39 #[.val (.ref o0), .val (.int p1), .val (.ref sa), .val (.int (p1 - (1 : Int32))), .val (.ref sa), .val (.int nl), .val (.int (0 : Int32)), .unset, .unset] [])) := fun t k => by
    refine pre18 t ?_
    show Steps p.tables e below (T14.setTop (mkF m 34 #[.val (.ref o0), .val (.int p1), .val (.ref sa), .val (.int (p1 - (1 : Int32))), .val (.ref sa), .unset, .unset, .unset, .unset] [(.int nl)])) _
    refine XS.istore X14.here hx rfl (hb hby d7_34) rfl (l' := #[.val (.ref o0), .val (.int p1), .val (.ref sa), .val (.int (p1 - (1 : Int32))), .val (.ref sa), .val (.int nl), .unset, .unset, .unset]) rfl ?_
    refine XS.iconst X14.here hx rfl (hb hby d7_36) ?_
    refine XS.istore X14.here hx rfl (hb hby d7_37) rfl (l' := #[.val (.ref o0), .val (.int p1), .val (.ref sa), .val (.int (p1 - (1 : Int32))), .val (.ref sa), .val (.int nl), .val (.int (0 : Int32)), .unset, .unset]) rfl ?_
    show Steps p.tables e below (T14.setTop (mkF m 39 #[.val (.ref o0), .val (.int p1), .val (.ref sa), .val (.int (p1 - (1 : Int32))), .val (.ref sa), .val (.int nl), .val (.int (0 : Int32)), .unset, .unset] [])) _
    exact k
  have f21 : Exa Z T11.heap o0 "com/example/processionary/processionary/automata/IntSet" := ((f7.wr W5).keep K11c)
  obtain ⟨jv_22, gr_22, sl7_22, sl8_22, T22, M22, h22, q22_0, o22_0, o22_1, Y22, e22, N22, K22c, f22_0, f22_1, f22_2, f22_3, ld22⟩ := lp7_39 l Z a0 hw o0 p1 sa sn nl ga (p1 - (1 : Int32)) b4 n0 hx hZ hby hml hown ge4 ne4_o0 ne4_sa (show nl.toInt = 4 from hn4) (show p1.toInt = 8 from hp8) (show (p1 - (1 : Int32)) = (p1 - (1 : Int32)) from (by skip; exact rfl)) _ (0 : Int32) gr_11 (.unset) (.unset) _ _ _ (Nat.le_trans Z0 K11.1) rfl One.u One.u (show 0 ≤ (0 : Int32).toInt ∧ (0 : Int32).toInt ≤ nl.toInt from ⟨by decide, by rw [hn4]; decide⟩) (show PR gr_11 p1.toInt.toNat (HM p1) from pr_new _ _ _ c11_1) (show List.Perm (TL gr_11 p1.toInt.toNat) (TL ga (0 : Int32).toInt.toNat) from (by rw [tl_new _ _ c11_1]; exact List.Perm.nil)) X14 e14 N11 f21 f15 f19 c11_0
  have K22 : Keep h0 h22 [o0] := K11.trans K22c (allS (Or.inr sz4) all0)
  have pre22_104 : Lead p e below G (T22.setTop (mkF m 104 #[.val (.ref o0), .val (.int p1), .val (.ref sa), .val (.int (p1 - (1 : Int32))), .val (.ref sa), .val (.int nl), .val (.int jv_22), sl7_22, sl8_22] [])) := fun t k => pre20 t (ld22 t k)
  obtain ⟨fs, hr, hrun, hended, hW, hsame⟩ := Y22.leave (v := none) (fun _ => rfl)
  have preF : Lead p e below (s₁.setTop (entryFrame m #[(.ref o0), (.int p1)] 9)) (T22.setTop (mkF m 104 #[.val (.ref o0), .val (.int p1), .val (.ref sa), .val (.int (p1 - (1 : Int32))), .val (.ref sa), .val (.int nl), .val (.int jv_22), sl7_22, sl8_22] [])) := by rw [← hG]; exact pre22_104
  refine ⟨_, _, preF _ ?_, hrun, hended, _, _, rfl, ?_, ⟨_, rfl⟩, hW, hsame.mono (by decide) (by decide)⟩
  · show Steps p.tables e below (T22.setTop (mkF m 104 #[.val (.ref o0), .val (.int p1), .val (.ref sa), .val (.int (p1 - (1 : Int32))), .val (.ref sa), .val (.int nl), .val (.int jv_22), sl7_22, sl8_22] [])) _
    exact Y22.returnOut hx Bd.returns (hb hby d7_104) hr
  · show Q7 Z o0 p1 sa sn nl ga h0 n0 _ T22.heap _
    rw [e22]
    have f23 : Fld Z h22 o0 "com/example/processionary/processionary/automata/IntSet" "size" "I" (.int sn) := ((((P2_F.ext E4).other W5 (Or.inr (slot_ne (Or.inl (hw _ (List.mem_of_getElem? (i := 27) rfl))) (Or.inl (hw _ (List.mem_of_getElem? (i := 16) rfl))) (by decide) (t := .int) (t' := (.array .int)) (by decide) (by decide)))).keep K11c (ninS ne4_o0 nin0)).keep K22c (ninS ne4_o0 nin0))
    exact ⟨b4, gr_22, rfl, N22, K22, f22_0, f22_1, f23, sz4, f22_3, q22_0⟩
theorem pd__28_I_29_V : parseMethodDescriptor "(I)V" = some ⟨[.int], none⟩ := by decide +kernel
theorem d5_41 : decode prog_12_method_4_code 41 = .ok (.aload_n 0, 1) := by decide +kernel
theorem d5_42 : decode prog_12_method_4_code 42 = .ok (.getfield 7, 3) := by decide +kernel
theorem d5_45 : decode prog_12_method_4_code 45 = .ok (.iload_n 3, 1) := by decide +kernel
theorem d5_46 : decode prog_12_method_4_code 46 = .ok (.iaload, 1) := by decide +kernel
theorem d5_47 : decode prog_12_method_4_code 47 = .ok (.iconst (-1), 1) := by decide +kernel
theorem d5_48 : decode prog_12_method_4_code 48 = .ok (.if_icmp .eq 24, 3) := by decide +kernel
theorem d5_51 : decode prog_12_method_4_code 51 = .ok (.aload_n 0, 1) := by decide +kernel
theorem d5_52 : decode prog_12_method_4_code 52 = .ok (.getfield 7, 3) := by decide +kernel
theorem d5_55 : decode prog_12_method_4_code 55 = .ok (.iload_n 3, 1) := by decide +kernel
theorem d5_56 : decode prog_12_method_4_code 56 = .ok (.iaload, 1) := by decide +kernel
theorem d5_57 : decode prog_12_method_4_code 57 = .ok (.iload_n 1, 1) := by decide +kernel
theorem d5_58 : decode prog_12_method_4_code 58 = .ok (.if_icmp .ne 5, 3) := by decide +kernel
theorem d5_63 : decode prog_12_method_4_code 63 = .ok (.iload_n 3, 1) := by decide +kernel
theorem d5_64 : decode prog_12_method_4_code 64 = .ok (.iconst 1, 1) := by decide +kernel
theorem d5_65 : decode prog_12_method_4_code 65 = .ok (.iadd, 1) := by decide +kernel
theorem d5_66 : decode prog_12_method_4_code 66 = .ok (.iload_n 2, 1) := by decide +kernel
theorem d5_67 : decode prog_12_method_4_code 67 = .ok (.iand, 1) := by decide +kernel
theorem d5_68 : decode prog_12_method_4_code 68 = .ok (.istore_n 3, 1) := by decide +kernel
theorem d5_69 : decode prog_12_method_4_code 69 = .ok (.goto (-28), 3) := by decide +kernel
set_option maxRecDepth 65536 in
set_option maxHeartbeats 40000000 in
theorem lp5_41 (l : Launch) (Z : State) (a0 : Array Value) (hw : ∀ d ∈ tables_1, d.before a0 Z = true) {p : Program} {e : Env} {s : State} {m : MethodId} {below : List Frame} {meth : Method} {c : Code} (o0 : Addr) (p1 : Int32) (sa : Addr) (sn : Int32) (nl : Int32) (ga : Nat → Int32) (mk : Int32) (s2 : Addr) (l2 : Int32) (g2 : Nat → Int32) (n0 : Nat) (hx : p.tables.exec = Jvm.exec) (hZ : Z.Warmed39 s.vm) (hby : c.code = prog_12_method_4_code) (hml : c.maxLocals = 4) (hown : s.vm.findClass "com/example/processionary/processionary/automata/IntSet" = some m.cls) (hl : L48 l2) (hmk : mk = (l2 - (1 : Int32))) (hel : (TL g2 l2.toInt.toNat).length < l2.toInt.toNat) :
    ∀ (d : Nat) (iv : Int32) (T0 : State) (M0 : List Loc) (h0 : Heap), n0 ≤ h0.size → l2.toInt.toNat - PT l2 p1 iv = d → (VT g2 l2 p1 iv) → (VM g2 l2 p1 iv) → Stand p l e ({ frames := 2, cells := 1, slots := 8, locals := 35 } : Room) s m #[(.ref o0), (.int p1)] below meth c T0 M0 1 8 → T0.heap = h0 → Fr n0 M0 → Exa Z h0 o0 "com/example/processionary/processionary/automata/IntSet" → Fld Z h0 o0 "com/example/processionary/processionary/automata/IntSet" "slots" "[I" (.ref s2) → JV Value.int Z h0 s2 .int l2 g2 → (∃ (iv_ : Int32) (T' : State) (M' : List Loc) (h' : Heap), (g2 iv_.toNatClampNeg = p1) ∧ (VT g2 l2 p1 iv_) ∧ Stand p l e ({ frames := 2, cells := 1, slots := 8, locals := 35 } : Room) s m #[(.ref o0), (.int p1)] below meth c T' M' 1 8 ∧ T'.heap = h' ∧ Fr n0 M' ∧ Keep h0 h' [] ∧ Exa Z h' o0 "com/example/processionary/processionary/automata/IntSet" ∧ Fld Z h' o0 "com/example/processionary/processionary/automata/IntSet" "slots" "[I" (.ref s2) ∧ JV Value.int Z h' s2 .int l2 g2 ∧ Lead p e below (T0.setTop (mkF m 41 #[.val (.ref o0), .val (.int p1), .val (.int mk), .val (.int iv)] [])) (T'.setTop (mkF m 61 #[.val (.ref o0), .val (.int p1), .val (.int mk), .val (.int iv_)] []))) ∨ (∃ (iv_ : Int32) (T' : State) (M' : List Loc) (h' : Heap), (g2 iv_.toNatClampNeg = -1) ∧ (VT g2 l2 p1 iv_) ∧ (VM g2 l2 p1 iv_) ∧ Stand p l e ({ frames := 2, cells := 1, slots := 8, locals := 35 } : Room) s m #[(.ref o0), (.int p1)] below meth c T' M' 1 8 ∧ T'.heap = h' ∧ Fr n0 M' ∧ Keep h0 h' [] ∧ Exa Z h' o0 "com/example/processionary/processionary/automata/IntSet" ∧ Fld Z h' o0 "com/example/processionary/processionary/automata/IntSet" "slots" "[I" (.ref s2) ∧ JV Value.int Z h' s2 .int l2 g2 ∧ Lead p e below (T0.setTop (mkF m 41 #[.val (.ref o0), .val (.int p1), .val (.int mk), .val (.int iv)] [])) (T'.setTop (mkF m 72 #[.val (.ref o0), .val (.int p1), .val (.int mk), .val (.int iv_)] []))) := by
  intro d
  induction d using Nat.strongRecOn with
  | ind d ih =>
    intro iv T0 M0 h0 Z0 hd hv hwm X0 e0 N0 P0_E P1_F P2_V
    have K0 : Keep h0 h0 [] := Keep.refl _ _
    obtain ⟨G, hG⟩ : ∃ z, z = T0.setTop (mkF m 41 #[.val (.ref o0), .val (.int p1), .val (.int mk), .val (.int iv)] []) := ⟨_, rfl⟩
    rw [← hG]
    have pre0 : Lead p e below G (T0.setTop (mkF m 41 #[.val (.ref o0), .val (.int p1), .val (.int mk), .val (.int iv)] [])) := fun t k => by rw [hG]; exact k
    have pre1 : Lead p e below G (T0.setTop (mkF m 42 #[.val (.ref o0), .val (.int p1), .val (.int mk), .val (.int iv)] [(.ref o0)])) := fun t k => by
      refine pre0 t ?_
      show Steps p.tables e below (T0.setTop (mkF m 41 #[.val (.ref o0), .val (.int p1), .val (.int mk), .val (.int iv)] [])) _
      refine XS.aloadN X0.here hx rfl (hb hby d5_41) rfl rfl ?_
      exact k
    obtain ⟨T2, X2, e2, st2⟩ := getF X0 hx hZ hown (host := "") (Or.inl (hw _ (List.mem_of_getElem? (i := 15) rfl))) Via.refl e0 P1_F (g := (mkF m 42 #[.val (.ref o0), .val (.int p1), .val (.int mk), .val (.int iv)] [(.ref o0)])) rfl rfl (hb hby d5_42)
    have pre2 : Lead p e below G (T2.setTop (mkF m 45 #[.val (.ref o0), .val (.int p1), .val (.int mk), .val (.int iv)] [(.ref s2)])) := fun t k => pre1 t (st2 _ k)
    have pre3 : Lead p e below G (T2.setTop (mkF m 46 #[.val (.ref o0), .val (.int p1), .val (.int mk), .val (.int iv)] [(.int iv), (.ref s2)])) := fun t k => by
      refine pre2 t ?_
      show Steps p.tables e below (T2.setTop (mkF m 45 #[.val (.ref o0), .val (.int p1), .val (.int mk), .val (.int iv)] [(.ref s2)])) _
      refine XS.iloadN X2.here hx rfl (hb hby d5_45) rfl ?_
      exact k
    obtain ⟨cl4, Ar4, hin4, hat4⟩ := P2_V.in (j := iv) (vb hv)
    have st4 := X2.iaload hx (j := iv) (v := (.int (g2 (iv).toNatClampNeg))) (by rw [e2]; exact Ar4.1) (State.isArrayOf_alike hZ.alike Ar4.2.1) Ar4.2.2 hin4 hat4 (g := (mkF m 46 #[.val (.ref o0), .val (.int p1), .val (.int mk), .val (.int iv)] [(.int iv), (.ref s2)])) rfl rfl (hb hby d5_46)
    have pre4 : Lead p e below G (T2.setTop (mkF m 47 #[.val (.ref o0), .val (.int p1), .val (.int mk), .val (.int iv)] [(.int (g2 (iv).toNatClampNeg))])) := fun t k => pre3 t (st4 _ k)
    have pre5 : Lead p e below G (T2.setTop (mkF m 48 #[.val (.ref o0), .val (.int p1), .val (.int mk), .val (.int iv)] [(.int (-1 : Int32)), (.int (g2 (iv).toNatClampNeg))])) := fun t k => by
      refine pre4 t ?_
      show Steps p.tables e below (T2.setTop (mkF m 47 #[.val (.ref o0), .val (.int p1), .val (.int mk), .val (.int iv)] [(.int (g2 (iv).toNatClampNeg))])) _
      refine XS.iconst X2.here hx rfl (hb hby d5_47) ?_
      show Steps p.tables e below (T2.setTop (mkF m 48 #[.val (.ref o0), .val (.int p1), .val (.int mk), .val (.int iv)] [(.int (-1 : Int32)), (.int (g2 (iv).toNatClampNeg))])) _
      exact k
    by_cases hs48_6 : (g2 (iv).toNatClampNeg) = (-1 : Int32)
    · have pre7 : Lead p e below G (T2.setTop (mkF m 72 #[.val (.ref o0), .val (.int p1), .val (.int mk), .val (.int iv)] [])) := fun t k => by
        refine pre5 t ?_
        show Steps p.tables e below (T2.setTop (mkF m 48 #[.val (.ref o0), .val (.int p1), .val (.int mk), .val (.int iv)] [(.int (-1 : Int32)), (.int (g2 (iv).toNatClampNeg))])) _
        refine XS.icmpYes X2.here hx rfl (pc0 := 48) (pc' := 72) rfl (hb hby d5_48) rfl (teq hs48_6).1 (by decide) (by decide) ?_
        exact k
      exact Or.inr ⟨iv, T2, _, _, (show g2 iv.toNatClampNeg = -1 from hs48_6), (show VT g2 l2 p1 iv from hv), (show VM g2 l2 p1 iv from hwm), X2, e2, N0, K0, P0_E, P1_F, P2_V, pre7⟩
    · have pre8 : Lead p e below G (T2.setTop (mkF m 52 #[.val (.ref o0), .val (.int p1), .val (.int mk), .val (.int iv)] [(.ref o0)])) := fun t k => by
        refine pre5 t ?_
        show Steps p.tables e below (T2.setTop (mkF m 48 #[.val (.ref o0), .val (.int p1), .val (.int mk), .val (.int iv)] [(.int (-1 : Int32)), (.int (g2 (iv).toNatClampNeg))])) _
        refine XS.icmpNo X2.here hx rfl (hb hby d5_48) rfl (feq hs48_6).1 ?_
        refine XS.aloadN X2.here hx rfl (hb hby d5_51) rfl rfl ?_
        show Steps p.tables e below (T2.setTop (mkF m 52 #[.val (.ref o0), .val (.int p1), .val (.int mk), .val (.int iv)] [(.ref o0)])) _
        exact k
      obtain ⟨T9, X9, e9, st9⟩ := getF X2 hx hZ hown (host := "") (Or.inl (hw _ (List.mem_of_getElem? (i := 15) rfl))) Via.refl e2 P1_F (g := (mkF m 52 #[.val (.ref o0), .val (.int p1), .val (.int mk), .val (.int iv)] [(.ref o0)])) rfl rfl (hb hby d5_52)
      have pre9 : Lead p e below G (T9.setTop (mkF m 55 #[.val (.ref o0), .val (.int p1), .val (.int mk), .val (.int iv)] [(.ref s2)])) := fun t k => pre8 t (st9 _ k)
      have pre10 : Lead p e below G (T9.setTop (mkF m 56 #[.val (.ref o0), .val (.int p1), .val (.int mk), .val (.int iv)] [(.int iv), (.ref s2)])) := fun t k => by
        refine pre9 t ?_
        show Steps p.tables e below (T9.setTop (mkF m 55 #[.val (.ref o0), .val (.int p1), .val (.int mk), .val (.int iv)] [(.ref s2)])) _
        refine XS.iloadN X9.here hx rfl (hb hby d5_55) rfl ?_
        exact k
      obtain ⟨cl11, Ar11, hin11, hat11⟩ := P2_V.in (j := iv) (vb hv)
      have st11 := X9.iaload hx (j := iv) (v := (.int (g2 (iv).toNatClampNeg))) (by rw [e9]; exact Ar11.1) (State.isArrayOf_alike hZ.alike Ar11.2.1) Ar11.2.2 hin11 hat11 (g := (mkF m 56 #[.val (.ref o0), .val (.int p1), .val (.int mk), .val (.int iv)] [(.int iv), (.ref s2)])) rfl rfl (hb hby d5_56)
      have pre11 : Lead p e below G (T9.setTop (mkF m 57 #[.val (.ref o0), .val (.int p1), .val (.int mk), .val (.int iv)] [(.int (g2 (iv).toNatClampNeg))])) := fun t k => pre10 t (st11 _ k)
      have pre12 : Lead p e below G (T9.setTop (mkF m 58 #[.val (.ref o0), .val (.int p1), .val (.int mk), .val (.int iv)] [(.int p1), (.int (g2 (iv).toNatClampNeg))])) := fun t k => by
        refine pre11 t ?_
        show Steps p.tables e below (T9.setTop (mkF m 57 #[.val (.ref o0), .val (.int p1), .val (.int mk), .val (.int iv)] [(.int (g2 (iv).toNatClampNeg))])) _
        refine XS.iloadN X9.here hx rfl (hb hby d5_57) rfl ?_
        exact k
      by_cases hs58_13 : (g2 (iv).toNatClampNeg) = p1
      · have pre14 : Lead p e below G (T9.setTop (mkF m 61 #[.val (.ref o0), .val (.int p1), .val (.int mk), .val (.int iv)] [])) := fun t k => by
          refine pre12 t ?_
          show Steps p.tables e below (T9.setTop (mkF m 58 #[.val (.ref o0), .val (.int p1), .val (.int mk), .val (.int iv)] [(.int p1), (.int (g2 (iv).toNatClampNeg))])) _
          refine XS.icmpNo X9.here hx rfl (hb hby d5_58) rfl (teq hs58_13).2 ?_
          show Steps p.tables e below (T9.setTop (mkF m 61 #[.val (.ref o0), .val (.int p1), .val (.int mk), .val (.int iv)] [])) _
          exact k
        exact Or.inl ⟨iv, T9, _, _, (show g2 iv.toNatClampNeg = p1 from hs58_13), (show VT g2 l2 p1 iv from hv), X9, e9, N0, K0, P0_E, P1_F, P2_V, pre14⟩
      · have pre15 : Lead p e below G (T9.setTop (mkF m 41 #[.val (.ref o0), .val (.int p1), .val (.int mk), .val (.int ((iv + (1 : Int32)) &&& mk))] [])) := fun t k => by
          refine pre12 t ?_
          show Steps p.tables e below (T9.setTop (mkF m 58 #[.val (.ref o0), .val (.int p1), .val (.int mk), .val (.int iv)] [(.int p1), (.int (g2 (iv).toNatClampNeg))])) _
          refine XS.icmpYes X9.here hx rfl (pc0 := 58) (pc' := 63) rfl (hb hby d5_58) rfl (feq hs58_13).2 (by decide) (by decide) ?_
          refine XS.iloadN X9.here hx rfl (hb hby d5_63) rfl ?_
          refine XS.iconst X9.here hx rfl (hb hby d5_64) ?_
          show Steps p.tables e below (T9.setTop (mkF m 65 #[.val (.ref o0), .val (.int p1), .val (.int mk), .val (.int iv)] [(.int (1 : Int32)), (.int iv)])) _
          refine XS.iadd X9.here hx rfl (hb hby d5_65) rfl ?_
          refine XS.iloadN X9.here hx rfl (hb hby d5_66) rfl ?_
          refine XS.iand X9.here hx rfl (hb hby d5_67) rfl ?_
          show Steps p.tables e below (T9.setTop (mkF m 68 #[.val (.ref o0), .val (.int p1), .val (.int mk), .val (.int iv)] [(.int ((iv + (1 : Int32)) &&& mk))])) _
          refine XS.istoreN X9.here hx rfl (hb hby d5_68) rfl (l' := #[.val (.ref o0), .val (.int p1), .val (.int mk), .val (.int ((iv + (1 : Int32)) &&& mk))]) rfl ?_
          refine XS.goto X9.here hx rfl (pc0 := 69) (pc' := 41) rfl (hb hby d5_69) (by decide) (by decide) ?_
          exact k
        rcases ih (l2.toInt.toNat - PT l2 p1 ((iv + (1 : Int32)) &&& mk)) (hd ▸ (by subst hmk; skip; exact vd1 hl hv hs48_6 hel)) ((iv + (1 : Int32)) &&& mk) _ _ _ (Nat.le_trans Z0 K0.1) rfl (show VT g2 l2 p1 ((iv + (1 : Int32)) &&& mk) from (by subst hmk; skip; exact vt1 hl hv hs48_6 hel)) (show VM g2 l2 p1 ((iv + (1 : Int32)) &&& mk) from (by subst hmk; skip; exact vm1 hl hv hwm hs48_6 hs58_13 hel)) X9 e9 N0 P0_E P1_F P2_V with ⟨iv_16, T16, M16, h16, q16_0, q16_1, X16, e16, N16, K16, f16_0, f16_1, f16_2, ld16⟩ | ⟨iv_16, T16, M16, h16, q16_0, q16_1, q16_2, X16, e16, N16, K16, f16_0, f16_1, f16_2, ld16⟩
        · exact Or.inl ⟨iv_16, T16, M16, h16, (show g2 iv_16.toNatClampNeg = p1 from q16_0), (show VT g2 l2 p1 iv_16 from q16_1), X16, e16, N16, K0.trans K16 (fun x hx => Or.inl hx), f16_0, f16_1, f16_2, fun t k => pre15 t (ld16 t k)⟩
        · exact Or.inr ⟨iv_16, T16, M16, h16, (show g2 iv_16.toNatClampNeg = -1 from q16_0), (show VT g2 l2 p1 iv_16 from q16_1), (show VM g2 l2 p1 iv_16 from q16_2), X16, e16, N16, K0.trans K16 (fun x hx => Or.inl hx), f16_0, f16_1, f16_2, fun t k => pre15 t (ld16 t k)⟩
theorem d5_0 : decode prog_12_method_4_code 0 = .ok (.iconst 2, 1) := by decide +kernel
theorem d5_1 : decode prog_12_method_4_code 1 = .ok (.aload_n 0, 1) := by decide +kernel
theorem d5_2 : decode prog_12_method_4_code 2 = .ok (.getfield 19, 3) := by decide +kernel
theorem d5_5 : decode prog_12_method_4_code 5 = .ok (.iconst 1, 1) := by decide +kernel
theorem d5_6 : decode prog_12_method_4_code 6 = .ok (.iadd, 1) := by decide +kernel
theorem d5_7 : decode prog_12_method_4_code 7 = .ok (.imul, 1) := by decide +kernel
theorem d5_8 : decode prog_12_method_4_code 8 = .ok (.aload_n 0, 1) := by decide +kernel
theorem d5_9 : decode prog_12_method_4_code 9 = .ok (.getfield 7, 3) := by decide +kernel
theorem d5_12 : decode prog_12_method_4_code 12 = .ok (.arraylength, 1) := by decide +kernel
theorem d5_13 : decode prog_12_method_4_code 13 = .ok (.if_icmp .le 14, 3) := by decide +kernel
theorem d5_16 : decode prog_12_method_4_code 16 = .ok (.aload_n 0, 1) := by decide +kernel
theorem d5_17 : decode prog_12_method_4_code 17 = .ok (.iconst 2, 1) := by decide +kernel
theorem d5_18 : decode prog_12_method_4_code 18 = .ok (.aload_n 0, 1) := by decide +kernel
theorem d5_19 : decode prog_12_method_4_code 19 = .ok (.getfield 7, 3) := by decide +kernel
theorem d5_22 : decode prog_12_method_4_code 22 = .ok (.arraylength, 1) := by decide +kernel
theorem d5_23 : decode prog_12_method_4_code 23 = .ok (.imul, 1) := by decide +kernel
theorem d5_24 : decode prog_12_method_4_code 24 = .ok (.invokevirtual 27, 3) := by decide +kernel
theorem d5_27 : decode prog_12_method_4_code 27 = .ok (.aload_n 0, 1) := by decide +kernel
theorem d5_28 : decode prog_12_method_4_code 28 = .ok (.getfield 7, 3) := by decide +kernel
theorem d5_31 : decode prog_12_method_4_code 31 = .ok (.arraylength, 1) := by decide +kernel
theorem d5_32 : decode prog_12_method_4_code 32 = .ok (.iconst 1, 1) := by decide +kernel
theorem d5_33 : decode prog_12_method_4_code 33 = .ok (.isub, 1) := by decide +kernel
theorem d5_34 : decode prog_12_method_4_code 34 = .ok (.istore_n 2, 1) := by decide +kernel
theorem d5_35 : decode prog_12_method_4_code 35 = .ok (.iload_n 1, 1) := by decide +kernel
theorem d5_36 : decode prog_12_method_4_code 36 = .ok (.iload_n 2, 1) := by decide +kernel
theorem d5_37 : decode prog_12_method_4_code 37 = .ok (.invokestatic 23, 3) := by decide +kernel
theorem d5_40 : decode prog_12_method_4_code 40 = .ok (.istore_n 3, 1) := by decide +kernel
theorem d5_61 : decode prog_12_method_4_code 61 = .ok (.iconst 0, 1) := by decide +kernel
theorem d5_62 : decode prog_12_method_4_code 62 = .ok (.ireturn, 1) := by decide +kernel
theorem d5_72 : decode prog_12_method_4_code 72 = .ok (.aload_n 0, 1) := by decide +kernel
theorem d5_73 : decode prog_12_method_4_code 73 = .ok (.getfield 7, 3) := by decide +kernel
theorem d5_76 : decode prog_12_method_4_code 76 = .ok (.iload_n 3, 1) := by decide +kernel
theorem d5_77 : decode prog_12_method_4_code 77 = .ok (.iload_n 1, 1) := by decide +kernel
theorem d5_78 : decode prog_12_method_4_code 78 = .ok (.iastore, 1) := by decide +kernel
theorem d5_79 : decode prog_12_method_4_code 79 = .ok (.aload_n 0, 1) := by decide +kernel
theorem d5_80 : decode prog_12_method_4_code 80 = .ok (.dup, 1) := by decide +kernel
theorem d5_81 : decode prog_12_method_4_code 81 = .ok (.getfield 19, 3) := by decide +kernel
theorem d5_84 : decode prog_12_method_4_code 84 = .ok (.iconst 1, 1) := by decide +kernel
theorem d5_85 : decode prog_12_method_4_code 85 = .ok (.iadd, 1) := by decide +kernel
theorem d5_86 : decode prog_12_method_4_code 86 = .ok (.putfield 19, 3) := by decide +kernel
theorem d5_89 : decode prog_12_method_4_code 89 = .ok (.iconst 1, 1) := by decide +kernel
theorem d5_90 : decode prog_12_method_4_code 90 = .ok (.ireturn, 1) := by decide +kernel
theorem ef_5 (m : MethodId) (o0 : Addr) (p1 : Int32) : entryFrame m #[(.ref o0), (.int p1)] 4 = mkF m 0 #[.val (.ref o0), .val (.int p1), .unset, .unset] [] := by first | (simp [entryFrame, mkF, argsToLocals, Value.category]; done) | rfl
def Q5 (Z : State) (o0 : Addr) (p1 : Int32) (sa : Addr) (sn : Int32) (nl : Int32) (ga : Nat → Int32) (h0 : Heap) (n0 : Nat) (v : Option Value) (h : Heap) (L : List Loc) : Prop := ∃ s2 : Addr, ∃ l2 : Int32, ∃ g2 : Nat → Int32, ∃ n2 : Int32, ∃ rv : Int32, v = some (.int rv) ∧ Fr n0 L ∧ Keep h0 h [o0, sa] ∧ Exa Z h o0 "com/example/processionary/processionary/automata/IntSet" ∧ Fld Z h o0 "com/example/processionary/processionary/automata/IntSet" "slots" "[I" (.ref s2) ∧ Fld Z h o0 "com/example/processionary/processionary/automata/IntSet" "size" "I" (.int n2) ∧ JV Value.int Z h s2 .int l2 g2 ∧ n0 ≤ s2 ∧ o0 ≠ s2 ∧ (IS g2 l2 n2) ∧ (ARel ga nl p1 g2 l2)
set_option maxRecDepth 65536 in
set_option maxHeartbeats 40000000 in
theorem rm5 (l : Launch) (Z : State) (a0 : Array Value) (hw : ∀ d ∈ tables_1, d.before a0 Z = true) (ws : List Jvm.Cond) (o0 : Addr) (p1 : Int32) (sa : Addr) (sn : Int32) (nl : Int32) (ga : Nat → Int32) (h0 : Heap) (n0 : Nat) (Z0 : n0 ≤ h0.size) (P0_E : Exa Z h0 o0 "com/example/processionary/processionary/automata/IntSet") (P1_F : Fld Z h0 o0 "com/example/processionary/processionary/automata/IntSet" "slots" "[I" (.ref sa)) (P2_F : Fld Z h0 o0 "com/example/processionary/processionary/automata/IntSet" "size" "I" (.int sn)) (P3_V : JV Value.int Z h0 sa .int nl ga) (P4_G : n0 ≤ o0) (P5_G : n0 ≤ sa) (P6_NE : o0 ≠ sa) (hS : (IS ga nl sn)) (hn2 : (sn.toInt ≤ 2)) (hm : (¬ p1 = (-1 : Int32))) :
    MetFree l (⟨"com/example/processionary/processionary/automata/IntSet", "add", "(I)Z"⟩ : MethodName) (head1 (Jvm.Cond.code (⟨"com/example/processionary/processionary/automata/IntSet", "add", "(I)Z"⟩ : MethodName) prog_12_method_4_code 4 (some .boolean) :: ws) ({ frames := 2, cells := 1, slots := 8, locals := 35 } : Room)) (fun a U => a = #[(.ref o0), (.int p1)] ∧ Z.Warmed39 U.vm ∧ U.heap = h0) (fun _ _ _ _ _ => True) (fun _ U o U' => ∃ v L, o = .returned v ∧ Q5 Z o0 p1 sa sn nl ga h0 n0 v U'.heap L ∧ FrameEnd U o U' L ({ frames := 2, cells := 1, slots := 8, locals := 35 } : Room).cells ({ frames := 2, cells := 1, slots := 8, locals := 35 } : Room).slots) := by
  refine MetFree.of_bodySF (plainFor_of_name pn_com_example_processionary_processionary_automata_IntSet) hisR ?_
  intro p e s m args below meth c s₁ Bd hml0 hP hK
  obtain ⟨rfl, hZ, hh⟩ := hP
  have hx := Bd.exec
  have hby := Bd.bytes
  have hml : c.maxLocals = 4 := hml0
  have hown : s.vm.findClass "com/example/processionary/processionary/automata/IntSet" = some m.cls := findClass_of_methodNamed Bd.named
  have hnm := (name_of_methodNamed Bd.named Bd.method).1
  have X0 : Stand p l e ({ frames := 2, cells := 1, slots := 8, locals := 35 } : Room) s m #[(.ref o0), (.int p1)] below meth c s₁ [] 0 0 := Stand.of_body Bd
  have e0 : s₁.heap = h0 := by rw [← hh, Bd.state]; rfl
  have N0 := Fr.nil n0
  have K0 : Keep h0 h0 [o0, sa] := Keep.refl _ _
  obtain ⟨G, hG⟩ : ∃ z, z = s₁.setTop (entryFrame m #[(.ref o0), (.int p1)] 4) := ⟨_, rfl⟩
  have pre0 : Lead p e below G (s₁.setTop (mkF m 0 #[.val (.ref o0), .val (.int p1), .unset, .unset] [])) := fun t k => by rw [hG]; exact castTop (ef_5 m o0 p1) k
  have pre1 : Lead p e below G (s₁.setTop (mkF m 2 #[.val (.ref o0), .val (.int p1), .unset, .unset] [(.ref o0), (.int (2 : Int32))])) := fun t k => by
    refine pre0 t ?_
    show Steps p.tables e below (s₁.setTop (mkF m 0 #[.val (.ref o0), .val (.int p1), .unset, .unset] [])) _
    refine XS.iconst X0.here hx rfl (hb hby d5_0) ?_
    show Steps p.tables e below (s₁.setTop (mkF m 1 #[.val (.ref o0), .val (.int p1), .unset, .unset] [(.int (2 : Int32))])) _
    refine XS.aloadN X0.here hx rfl (hb hby d5_1) rfl rfl ?_
    exact k
  obtain ⟨T2, X2, e2, st2⟩ := getF X0 hx hZ hown (host := "") (Or.inl (hw _ (List.mem_of_getElem? (i := 26) rfl))) Via.refl e0 P2_F (g := (mkF m 2 #[.val (.ref o0), .val (.int p1), .unset, .unset] [(.ref o0), (.int (2 : Int32))])) rfl rfl (hb hby d5_2)
  have pre2 : Lead p e below G (T2.setTop (mkF m 5 #[.val (.ref o0), .val (.int p1), .unset, .unset] [(.int sn), (.int (2 : Int32))])) := fun t k => pre1 t (st2 _ k)
  have pre3 : Lead p e below G (T2.setTop (mkF m 9 #[.val (.ref o0), .val (.int p1), .unset, .unset] [(.ref o0), (.int ((2 : Int32) * (sn + (1 : Int32))))])) := fun t k => by
    refine pre2 t ?_
    show Steps p.tables e below (T2.setTop (mkF m 5 #[.val (.ref o0), .val (.int p1), .unset, .unset] [(.int sn), (.int (2 : Int32))])) _
    refine XS.iconst X2.here hx rfl (hb hby d5_5) ?_
    refine XS.iadd X2.here hx rfl (hb hby d5_6) rfl ?_
    show Steps p.tables e below (T2.setTop (mkF m 7 #[.val (.ref o0), .val (.int p1), .unset, .unset] [(.int (sn + (1 : Int32))), (.int (2 : Int32))])) _
    refine XS.imul X2.here hx rfl (hb hby d5_7) rfl ?_
    refine XS.aloadN X2.here hx rfl (hb hby d5_8) rfl rfl ?_
    exact k
  obtain ⟨T4, X4, e4, st4⟩ := getF X2 hx hZ hown (host := "") (Or.inl (hw _ (List.mem_of_getElem? (i := 15) rfl))) Via.refl e2 P1_F (g := (mkF m 9 #[.val (.ref o0), .val (.int p1), .unset, .unset] [(.ref o0), (.int ((2 : Int32) * (sn + (1 : Int32))))])) rfl rfl (hb hby d5_9)
  have pre4 : Lead p e below G (T4.setTop (mkF m 12 #[.val (.ref o0), .val (.int p1), .unset, .unset] [(.ref sa), (.int ((2 : Int32) * (sn + (1 : Int32))))])) := fun t k => pre3 t (st4 _ k)
  obtain ⟨cl5, Ar5, len5⟩ := P3_V.len
  have st5 := X4.arraylength hx (by rw [e4]; exact Ar5.1) (State.isArrayOf_alike hZ.alike Ar5.2.1) (g := (mkF m 12 #[.val (.ref o0), .val (.int p1), .unset, .unset] [(.ref sa), (.int ((2 : Int32) * (sn + (1 : Int32))))])) rfl rfl (hb hby d5_12)
  rw [len5] at st5
  have pre5 : Lead p e below G (T4.setTop (mkF m 13 #[.val (.ref o0), .val (.int p1), .unset, .unset] [(.int nl), (.int ((2 : Int32) * (sn + (1 : Int32))))])) := fun t k => pre4 t (st5 _ k)
  obtain ⟨s2_6, l2_6, g2_6, T6, M6, h6, q6_0, q6_1, Y6, e6, N6, K6, f6_0, f6_1, f6_2, f6_3, w6_0, w6_1, w6_2, pre6⟩ : ∃ (s2_6 : Addr) (l2_6 : Int32) (g2_6 : Nat → Int32) (T6 : State) (M6 : List Loc) (h6 : Heap), (IS g2_6 l2_6 sn) ∧ (List.Perm (TL g2_6 l2_6.toInt.toNat) (TL ga nl.toInt.toNat)) ∧ Stand p l e ({ frames := 2, cells := 1, slots := 8, locals := 35 } : Room) s m #[(.ref o0), (.int p1)] below meth c T6 M6 1 8 ∧ T6.heap = h6 ∧ Fr n0 M6 ∧ Keep h0 h6 [o0, sa] ∧ Exa Z h6 o0 "com/example/processionary/processionary/automata/IntSet" ∧ Fld Z h6 o0 "com/example/processionary/processionary/automata/IntSet" "slots" "[I" (.ref s2_6) ∧ Fld Z h6 o0 "com/example/processionary/processionary/automata/IntSet" "size" "I" (.int sn) ∧ JV Value.int Z h6 s2_6 .int l2_6 g2_6 ∧ n0 ≤ s2_6 ∧ o0 ≠ s2_6 ∧ (s2_6 ∈ [o0, sa] ∨ h0.size ≤ s2_6) ∧ Lead p e below G (T6.setTop (mkF m 27 #[.val (.ref o0), .val (.int p1), .unset, .unset] [])) := by
    by_cases hj13_6 : nl < ((2 : Int32) * (sn + (1 : Int32)))
    · have pre7 : Lead p e below G (T4.setTop (mkF m 19 #[.val (.ref o0), .val (.int p1), .unset, .unset] [(.ref o0), (.int (2 : Int32)), (.ref o0)])) := fun t k => by
        refine pre5 t ?_
        show Steps p.tables e below (T4.setTop (mkF m 13 #[.val (.ref o0), .val (.int p1), .unset, .unset] [(.int nl), (.int ((2 : Int32) * (sn + (1 : Int32))))])) _
        refine XS.icmpNo X4.here hx rfl (hb hby d5_13) rfl (tlt hj13_6).2.2.2 ?_
        show Steps p.tables e below (T4.setTop (mkF m 16 #[.val (.ref o0), .val (.int p1), .unset, .unset] [])) _
        refine XS.aloadN X4.here hx rfl (hb hby d5_16) rfl rfl ?_
        refine XS.iconst X4.here hx rfl (hb hby d5_17) ?_
        refine XS.aloadN X4.here hx rfl (hb hby d5_18) rfl rfl ?_
        show Steps p.tables e below (T4.setTop (mkF m 19 #[.val (.ref o0), .val (.int p1), .unset, .unset] [(.ref o0), (.int (2 : Int32)), (.ref o0)])) _
        exact k
      obtain ⟨T8, X8, e8, st8⟩ := getF X4 hx hZ hown (host := "") (Or.inl (hw _ (List.mem_of_getElem? (i := 15) rfl))) Via.refl e4 P1_F (g := (mkF m 19 #[.val (.ref o0), .val (.int p1), .unset, .unset] [(.ref o0), (.int (2 : Int32)), (.ref o0)])) rfl rfl (hb hby d5_19)
      have pre8 : Lead p e below G (T8.setTop (mkF m 22 #[.val (.ref o0), .val (.int p1), .unset, .unset] [(.ref sa), (.int (2 : Int32)), (.ref o0)])) := fun t k => pre7 t (st8 _ k)
      obtain ⟨cl9, Ar9, len9⟩ := P3_V.len
      have st9 := X8.arraylength hx (by rw [e8]; exact Ar9.1) (State.isArrayOf_alike hZ.alike Ar9.2.1) (g := (mkF m 22 #[.val (.ref o0), .val (.int p1), .unset, .unset] [(.ref sa), (.int (2 : Int32)), (.ref o0)])) rfl rfl (hb hby d5_22)
      rw [len9] at st9
      have pre9 : Lead p e below G (T8.setTop (mkF m 23 #[.val (.ref o0), .val (.int p1), .unset, .unset] [(.int nl), (.int (2 : Int32)), (.ref o0)])) := fun t k => pre8 t (st9 _ k)
      have pre10 : Lead p e below G (T8.setTop (mkF m 24 #[.val (.ref o0), .val (.int p1), .unset, .unset] [(.int ((2 : Int32) * nl)), (.ref o0)])) := fun t k => by
        refine pre9 t ?_
        show Steps p.tables e below (T8.setTop (mkF m 23 #[.val (.ref o0), .val (.int p1), .unset, .unset] [(.int nl), (.int (2 : Int32)), (.ref o0)])) _
        refine XS.imul X8.here hx rfl (hb hby d5_23) rfl ?_
        exact k
      obtain ⟨cq11, zq11, zq11'⟩ := P0_E.cell
      obtain ⟨_, _, ⟨T11, L11, k11, n11⟩, -, X11, ⟨Lc11, hQ11, l11, y11, z11⟩, st11⟩ := X8.privateBack hx (y := (⟨"com/example/processionary/processionary/automata/IntSet", "resize", "(I)V"⟩ : MethodName)) hown (mvT hZ (hw _ (List.mem_of_getElem? (i := 32) rfl))) (mvT hZ (hw _ (List.mem_of_getElem? (i := 33) rfl))) (own_selp hZ (hw _ (List.mem_of_getElem? (i := 6) rfl)) (hw _ (List.mem_of_getElem? (i := 34) rfl)) (hw _ (List.mem_of_getElem? (i := 33) rfl)) (by decide)) (Cond.privateMethod_at (mvP hZ (hw _ (List.mem_of_getElem? (i := 34) rfl)) (args := #[]))) (mvT hZ (hw _ (List.mem_of_getElem? (i := 35) rfl))) (by decide) (backOf (W := 0) (rm7 l Z a0 hw [] o0 ((2 : Int32) * nl) sa sn nl ga h0 n0 (Nat.le_trans Z0 K0.1) P0_E P1_F P2_F P3_V P4_G P6_NE (show nl.toInt = 4 from (own_a4 hS hn2 hj13_6).1) (show ((2 : Int32) * nl).toInt = 8 from (own_d8 (own_a4 hS hn2 hj13_6).1))) hZ (hw _ (List.mem_of_getElem? (i := 35) rfl)) (hw _ (List.mem_of_getElem? (i := 7) rfl)) (by decide) (by decide)) (g := (mkF m 24 #[.val (.ref o0), .val (.int p1), .unset, .unset] [(.int ((2 : Int32) * nl)), (.ref o0)])) rfl (by rw [hml]; rfl) (Steps.refl _) (a := o0) (by rw [e8]; exact zq11) zq11' (argsL := [(.int ((2 : Int32) * nl))]) (rest := []) (lenOf pd__28_I_29_V rfl) rfl (by show 2 * 0 + _ ≤ _; exact Nat.le_of_eq rfl) (hb hby d5_24) (fun _ _ => ⟨rfl, e8, (by decide : 0 + 1 ≤ _), (by decide : 0 + 8 ≤ _)⟩)
      dsimp only [Pt.U, Pt.locs, Pt.cells, Pt.slots] at X11 l11 y11 z11 st11 hQ11
      subst l11 y11 z11
      obtain ⟨nb_11, gb_11, rfl, N11q, K11c, c11_0, c11_1, c11_2, c11_3, c11_4, c11_5⟩ := hQ11
      have N11 := Fr.app N0 N11q
      have ne11_o0_nb_11 : o0 ≠ nb_11 := Nat.ne_of_lt (Nat.lt_of_lt_of_le P0_E.lt c11_3)
      have ne11_sa_nb_11 : sa ≠ nb_11 := Nat.ne_of_lt (Nat.lt_of_lt_of_le P3_V.lt c11_3)
      have sznb_11 : h0.size ≤ nb_11 := Nat.le_trans K0.1 c11_3
      have genb_11 : n0 ≤ nb_11 := Nat.le_trans Z0 sznb_11
      have K11 : Keep h0 T11.heap [o0, sa] := K0.trans K11c (allS (Or.inl (List.mem_of_getElem? (i := 0) rfl)) all0)
      obtain ⟨M11, Y11, N11⟩ : ∃ M, Stand p l e ({ frames := 2, cells := 1, slots := 8, locals := 35 } : Room) s m #[(.ref o0), (.int p1)] below meth c T11 M 1 8 ∧ Fr n0 M := ⟨_, X11, N11⟩
      have pre11 : Lead p e below G (T11.setTop (mkF m 27 #[.val (.ref o0), .val (.int p1), .unset, .unset] [])) := fun t k => pre10 t (st11.trans k)
      exact ⟨nb_11, ((2 : Int32) * nl), gb_11, T11, _, _, (own_is8 hS hn2 hj13_6 c11_5), c11_5.2, Y11.mono (by decide) (by decide), rfl, N11, K11, c11_0, c11_1, c11_2, c11_4, genb_11, ne11_o0_nb_11, (Or.inr sznb_11), pre11⟩
    · have pre12 : Lead p e below G (T4.setTop (mkF m 27 #[.val (.ref o0), .val (.int p1), .unset, .unset] [])) := fun t k => by
        refine pre5 t ?_
        show Steps p.tables e below (T4.setTop (mkF m 13 #[.val (.ref o0), .val (.int p1), .unset, .unset] [(.int nl), (.int ((2 : Int32) * (sn + (1 : Int32))))])) _
        refine XS.icmpYes X4.here hx rfl (pc0 := 13) (pc' := 27) rfl (hb hby d5_13) rfl (flt hj13_6).2.2.2 (by decide) (by decide) ?_
        exact k
      exact ⟨sa, nl, ga, T4, _, _, hS, (List.Perm.refl _), X4.mono (by decide) (by decide), e4, N0, K0, P0_E, P1_F, P2_F, P3_V, P5_G, P6_NE, (Or.inl (List.mem_of_getElem? (i := 1) rfl)), pre12⟩
  have pre13 : Lead p e below G (T6.setTop (mkF m 28 #[.val (.ref o0), .val (.int p1), .unset, .unset] [(.ref o0)])) := fun t k => by
    refine pre6 t ?_
    show Steps p.tables e below (T6.setTop (mkF m 27 #[.val (.ref o0), .val (.int p1), .unset, .unset] [])) _
    refine XS.aloadN Y6.here hx rfl (hb hby d5_27) rfl rfl ?_
    show Steps p.tables e below (T6.setTop (mkF m 28 #[.val (.ref o0), .val (.int p1), .unset, .unset] [(.ref o0)])) _
    exact k
  obtain ⟨T14, X14, e14, st14⟩ := getF Y6 hx hZ hown (host := "") (Or.inl (hw _ (List.mem_of_getElem? (i := 15) rfl))) Via.refl e6 f6_1 (g := (mkF m 28 #[.val (.ref o0), .val (.int p1), .unset, .unset] [(.ref o0)])) rfl rfl (hb hby d5_28)
  have pre14 : Lead p e below G (T14.setTop (mkF m 31 #[.val (.ref o0), .val (.int p1), .unset, .unset] [(.ref s2_6)])) := fun t k => pre13 t (st14 _ k)
  obtain ⟨cl15, Ar15, len15⟩ := f6_3.len
  have st15 := X14.arraylength hx (by rw [e14]; exact Ar15.1) (State.isArrayOf_alike hZ.alike Ar15.2.1) (g := (mkF m 31 #[.val (.ref o0), .val (.int p1), .unset, .unset] [(.ref s2_6)])) rfl rfl (hb hby d5_31)
  rw [len15] at st15
  have pre15 : Lead p e below G (T14.setTop (mkF m 32 #[.val (.ref o0), .val (.int p1), .unset, .unset] [(.int l2_6)])) := fun t k => pre14 t (st15 _ k)
  have pre16 : Lead p e below G (T14.setTop (mkF m 37 #[.val (.ref o0), .val (.int p1), .val (.int (l2_6 - (1 : Int32))), .unset] [(.int (l2_6 - (1 : Int32))), (.int p1)])) := fun t k => by
    refine pre15 t ?_
    show Steps p.tables e below (T14.setTop (mkF m 32 #[.val (.ref o0), .val (.int p1), .unset, .unset] [(.int l2_6)])) _
    refine XS.iconst X14.here hx rfl (hb hby d5_32) ?_
    refine XS.isub X14.here hx rfl (hb hby d5_33) rfl ?_
    refine XS.istoreN X14.here hx rfl (hb hby d5_34) rfl (l' := #[.val (.ref o0), .val (.int p1), .val (.int (l2_6 - (1 : Int32))), .unset]) rfl ?_
    show Steps p.tables e below (T14.setTop (mkF m 35 #[.val (.ref o0), .val (.int p1), .val (.int (l2_6 - (1 : Int32))), .unset] [])) _
    refine XS.iloadN X14.here hx rfl (hb hby d5_35) rfl ?_
    refine XS.iloadN X14.here hx rfl (hb hby d5_36) rfl ?_
    exact k
  obtain ⟨_, _, ⟨T17, L17, k17, n17⟩, -, X17, ⟨Lc17, hQ17, l17, y17, z17⟩, st17⟩ := Jvm.LawKit.callS X14 hx (y := (⟨"com/example/processionary/processionary/automata/IntSet", "slot", "(II)I"⟩ : MethodName)) hown (mvT hZ (hw _ (List.mem_of_getElem? (i := 28) rfl))) (mvT hZ (hw _ (List.mem_of_getElem? (i := 29) rfl))) (mvT hZ (hw _ (List.mem_of_getElem? (i := 7) rfl))) (mvT hZ (hw _ (List.mem_of_getElem? (i := 30) rfl))) (by decide) (backOf (W := 0) (rm6 l Z a0 hw [] p1 (l2_6 - (1 : Int32))  h6 n0 (Nat.le_trans Z0 K6.1) ) hZ (hw _ (List.mem_of_getElem? (i := 30) rfl)) (hw _ (List.mem_of_getElem? (i := 7) rfl)) (by decide) (by decide)) (g := (mkF m 37 #[.val (.ref o0), .val (.int p1), .val (.int (l2_6 - (1 : Int32))), .unset] [(.int (l2_6 - (1 : Int32))), (.int p1)])) rfl (by rw [hml]; rfl) (argsL := [(.int p1), (.int (l2_6 - (1 : Int32)))]) (rest := []) (lenOf pd__28_II_29_I rfl) rfl (by show 2 * 0 + _ ≤ _; exact Nat.le_of_eq rfl) (hb hby d5_37) (fun _ _ => ⟨rfl, e14, (by decide : 1 + 0 ≤ _), (by decide : 8 + 0 ≤ _)⟩)
  dsimp only [Pt.U, Pt.locs, Pt.cells, Pt.slots] at X17 l17 y17 z17 st17 hQ17
  subst l17 y17 z17
  obtain ⟨rfl, N17q, e17⟩ := hQ17
  have N17 := Fr.app N6 N17q
  obtain ⟨M17, Y17, N17⟩ : ∃ M, Stand p l e ({ frames := 2, cells := 1, slots := 8, locals := 35 } : Room) s m #[(.ref o0), (.int p1)] below meth c T17 M 1 8 ∧ Fr n0 M := ⟨_, X17, N17⟩
  have pre17 : Lead p e below G (T17.setTop (mkF m 40 #[.val (.ref o0), .val (.int p1), .val (.int (l2_6 - (1 : Int32))), .unset] [(.int (F6 p1 (l2_6 - (1 : Int32))))])) := fun t k => pre16 t (st17 _ k)
  have pre18 : Lead p e below G (T17.setTop (mkF m 41 #[.val (.ref o0), .val (.int p1), .val (.int (l2_6 - (1 : Int32))), .val (.int (F6 p1 (l2_6 - (1 : Int32))))] [])) := fun t k => by
    refine pre17 t ?_
    show Steps p.tables e below (T17.setTop (mkF m 40 #[.val (.ref o0), .val (.int p1), .val (.int (l2_6 - (1 : Int32))), .unset] [(.int (F6 p1 (l2_6 - (1 : Int32))))])) _
    refine XS.istoreN Y17.here hx rfl (hb hby d5_40) rfl (l' := #[.val (.ref o0), .val (.int p1), .val (.int (l2_6 - (1 : Int32))), .val (.int (F6 p1 (l2_6 - (1 : Int32))))]) rfl ?_
    show Steps p.tables e below (T17.setTop (mkF m 41 #[.val (.ref o0), .val (.int p1), .val (.int (l2_6 - (1 : Int32))), .val (.int (F6 p1 (l2_6 - (1 : Int32))))] [])) _
    exact k
  rcases lp5_41 l Z a0 hw o0 p1 sa sn nl ga (l2_6 - (1 : Int32)) s2_6 l2_6 g2_6 n0 hx hZ hby hml hown (show L48 l2_6 from (IS.l48 q6_0)) (show (l2_6 - (1 : Int32)) = (l2_6 - (1 : Int32)) from (by skip; exact rfl)) (show (TL g2_6 l2_6.toInt.toNat).length < l2_6.toInt.toNat from (IS.lt q6_0 (by omega))) _ (F6 p1 (l2_6 - (1 : Int32))) _ _ _ (Nat.le_trans Z0 K6.1) rfl (show VT g2_6 l2_6 p1 (F6 p1 (l2_6 - (1 : Int32))) from (by skip; exact vt0 (IS.l48 q6_0) _ _)) (show VM g2_6 l2_6 p1 (F6 p1 (l2_6 - (1 : Int32))) from (by skip; exact vm0 (IS.l48 q6_0) _ _)) Y17 e17 N17 f6_0 f6_1 f6_3 with ⟨iv_19, T19, M19, h19, q19_0, q19_1, Y19, e19, N19, K19c, f19_0, f19_1, f19_2, ld19⟩ | ⟨iv_19, T19, M19, h19, q19_0, q19_1, q19_2, Y19, e19, N19, K19c, f19_0, f19_1, f19_2, ld19⟩
  · have K19 : Keep h0 h19 [o0, sa] := K6.trans K19c all0
    have pre19_61 : Lead p e below G (T19.setTop (mkF m 61 #[.val (.ref o0), .val (.int p1), .val (.int (l2_6 - (1 : Int32))), .val (.int iv_19)] [])) := fun t k => pre18 t (ld19 t k)
    obtain ⟨fs, hr, hrun, hended, hW, hsame⟩ := Y19.leave (v := some (.int (nar .boolean (0 : Int32)))) (fun h => by rw [Bd.returns] at h; cases h)
    have preF : Lead p e below (s₁.setTop (entryFrame m #[(.ref o0), (.int p1)] 4)) (T19.setTop (mkF m 61 #[.val (.ref o0), .val (.int p1), .val (.int (l2_6 - (1 : Int32))), .val (.int iv_19)] [])) := by rw [← hG]; exact pre19_61
    refine ⟨_, _, preF _ ?_, hrun, hended, _, _, rfl, ?_, ⟨_, rfl⟩, hW, hsame.mono (by decide) (by decide)⟩
    · show Steps p.tables e below (T19.setTop (mkF m 61 #[.val (.ref o0), .val (.int p1), .val (.int (l2_6 - (1 : Int32))), .val (.int iv_19)] [])) _
      refine XS.iconst Y19.here hx rfl (hb hby d5_61) ?_
      exact retN Y19 hx (t := .boolean) Bd.returns (by simp) (hb hby d5_62) hr
    · show Q5 Z o0 p1 sa sn nl ga h0 n0 _ T19.heap _
      rw [e19]
      have f20 : Fld Z h19 o0 "com/example/processionary/processionary/automata/IntSet" "size" "I" (.int sn) := (f6_2.keep K19c nin0)
      exact ⟨s2_6, l2_6, g2_6, sn, (0 : Int32), congrArg (fun z => some (Value.int z)) (show (nar .boolean (0 : Int32)) = (0 : Int32) from rfl), N19, K19, f19_0, f19_1, f20, f19_2, w6_0, w6_1, q6_0, (own_ar0 q6_1 q19_1 q19_0 hm)⟩
  · have K19 : Keep h0 h19 [o0, sa] := K6.trans K19c all0
    have pre19_72 : Lead p e below G (T19.setTop (mkF m 72 #[.val (.ref o0), .val (.int p1), .val (.int (l2_6 - (1 : Int32))), .val (.int iv_19)] [])) := fun t k => pre18 t (ld19 t k)
    have pre21 : Lead p e below G (T19.setTop (mkF m 73 #[.val (.ref o0), .val (.int p1), .val (.int (l2_6 - (1 : Int32))), .val (.int iv_19)] [(.ref o0)])) := fun t k => by
      refine pre19_72 t ?_
      show Steps p.tables e below (T19.setTop (mkF m 72 #[.val (.ref o0), .val (.int p1), .val (.int (l2_6 - (1 : Int32))), .val (.int iv_19)] [])) _
      refine XS.aloadN Y19.here hx rfl (hb hby d5_72) rfl rfl ?_
      exact k
    obtain ⟨T22, X22, e22, st22⟩ := getF Y19 hx hZ hown (host := "") (Or.inl (hw _ (List.mem_of_getElem? (i := 15) rfl))) Via.refl e19 f19_1 (g := (mkF m 73 #[.val (.ref o0), .val (.int p1), .val (.int (l2_6 - (1 : Int32))), .val (.int iv_19)] [(.ref o0)])) rfl rfl (hb hby d5_73)
    have pre22 : Lead p e below G (T22.setTop (mkF m 76 #[.val (.ref o0), .val (.int p1), .val (.int (l2_6 - (1 : Int32))), .val (.int iv_19)] [(.ref s2_6)])) := fun t k => pre21 t (st22 _ k)
    have pre23 : Lead p e below G (T22.setTop (mkF m 78 #[.val (.ref o0), .val (.int p1), .val (.int (l2_6 - (1 : Int32))), .val (.int iv_19)] [(.int p1), (.int iv_19), (.ref s2_6)])) := fun t k => by
      refine pre22 t ?_
      show Steps p.tables e below (T22.setTop (mkF m 76 #[.val (.ref o0), .val (.int p1), .val (.int (l2_6 - (1 : Int32))), .val (.int iv_19)] [(.ref s2_6)])) _
      refine XS.iloadN X22.here hx rfl (hb hby d5_76) rfl ?_
      show Steps p.tables e below (T22.setTop (mkF m 77 #[.val (.ref o0), .val (.int p1), .val (.int (l2_6 - (1 : Int32))), .val (.int iv_19)] [(.int iv_19), (.ref s2_6)])) _
      refine XS.iloadN X22.here hx rfl (hb hby d5_77) rfl ?_
      exact k
    obtain ⟨cl24, Ar24, hin24, -⟩ := f19_2.in (j := iv_19) (vb q19_1)
    obtain ⟨T24, h24, X24, e24, W24, st24⟩ := stI X22 hx hZ e22 Ar24 (j := iv_19) hin24 (g := (mkF m 78 #[.val (.ref o0), .val (.int p1), .val (.int (l2_6 - (1 : Int32))), .val (.int iv_19)] [(.int p1), (.int iv_19), (.ref s2_6)])) rfl rfl (hb hby d5_78)
    have N24 := Fr.snoc X24 N19 w6_0
    have K24 : Keep h0 h24 [o0, sa] := K19.wr W24 w6_2
    obtain ⟨M24, Y24, N24⟩ : ∃ M, Stand p l e ({ frames := 2, cells := 1, slots := 8, locals := 35 } : Room) s m #[(.ref o0), (.int p1)] below meth c T24 M 1 8 ∧ Fr n0 M := ⟨_, X24, N24⟩
    have V24 : JV Value.int Z h24 s2_6 .int l2_6 (updF g2_6 (iv_19).toNatClampNeg p1) := f19_2.set W24
    have pre24 : Lead p e below G (T24.setTop (mkF m 79 #[.val (.ref o0), .val (.int p1), .val (.int (l2_6 - (1 : Int32))), .val (.int iv_19)] [])) := fun t k => pre23 t (st24 _ k)
    have pre25 : Lead p e below G (T24.setTop (mkF m 81 #[.val (.ref o0), .val (.int p1), .val (.int (l2_6 - (1 : Int32))), .val (.int iv_19)] [(.ref o0), (.ref o0)])) := fun t k => by
      refine pre24 t ?_
      show Steps p.tables e below (T24.setTop (mkF m 79 #[.val (.ref o0), .val (.int p1), .val (.int (l2_6 - (1 : Int32))), .val (.int iv_19)] [])) _
      refine XS.aloadN Y24.here hx rfl (hb hby d5_79) rfl rfl ?_
      refine XS.dup Y24.here hx rfl (hb hby d5_80) rfl rfl ?_
      show Steps p.tables e below (T24.setTop (mkF m 81 #[.val (.ref o0), .val (.int p1), .val (.int (l2_6 - (1 : Int32))), .val (.int iv_19)] [(.ref o0), (.ref o0)])) _
      exact k
    have f27 : Fld Z h24 o0 "com/example/processionary/processionary/automata/IntSet" "size" "I" (.int sn) := ((f6_2.keep K19c nin0).other W24 (Or.inl w6_1))
    obtain ⟨T26, X26, e26, st26⟩ := getF Y24 hx hZ hown (host := "") (Or.inl (hw _ (List.mem_of_getElem? (i := 26) rfl))) Via.refl e24 f27 (g := (mkF m 81 #[.val (.ref o0), .val (.int p1), .val (.int (l2_6 - (1 : Int32))), .val (.int iv_19)] [(.ref o0), (.ref o0)])) rfl rfl (hb hby d5_81)
    have pre26 : Lead p e below G (T26.setTop (mkF m 84 #[.val (.ref o0), .val (.int p1), .val (.int (l2_6 - (1 : Int32))), .val (.int iv_19)] [(.int sn), (.ref o0)])) := fun t k => pre25 t (st26 _ k)
    have pre28 : Lead p e below G (T26.setTop (mkF m 86 #[.val (.ref o0), .val (.int p1), .val (.int (l2_6 - (1 : Int32))), .val (.int iv_19)] [(.int (sn + (1 : Int32))), (.ref o0)])) := fun t k => by
      refine pre26 t ?_
      show Steps p.tables e below (T26.setTop (mkF m 84 #[.val (.ref o0), .val (.int p1), .val (.int (l2_6 - (1 : Int32))), .val (.int iv_19)] [(.int sn), (.ref o0)])) _
      refine XS.iconst X26.here hx rfl (hb hby d5_84) ?_
      refine XS.iadd X26.here hx rfl (hb hby d5_85) rfl ?_
      exact k
    have f30 : Exa Z h24 o0 "com/example/processionary/processionary/automata/IntSet" := (f19_0.wr W24)
    obtain ⟨T29, h29, X29, e29, W29, st29⟩ := putF X26 hx hZ hown (host := "") (Or.inl (hw _ (List.mem_of_getElem? (i := 26) rfl))) Via.refl e26 f27 f30 (Or.inl (hw _ (List.mem_of_getElem? (i := 27) rfl))) (hw _ (List.mem_of_getElem? (i := 6) rfl)) (ty := .int) (by decide) rfl rfl (g := (mkF m 86 #[.val (.ref o0), .val (.int p1), .val (.int (l2_6 - (1 : Int32))), .val (.int iv_19)] [(.int (sn + (1 : Int32))), (.ref o0)])) rfl rfl (hb hby d5_86)
    have N29 := Fr.snoc X29 N24 P4_G
    have K29 : Keep h0 h29 [o0, sa] := K24.wr W29 (Or.inl (List.mem_of_getElem? (i := 0) rfl))
    obtain ⟨M29, Y29, N29⟩ : ∃ M, Stand p l e ({ frames := 2, cells := 1, slots := 8, locals := 35 } : Room) s m #[(.ref o0), (.int p1)] below meth c T29 M 1 8 ∧ Fr n0 M := ⟨_, X29, N29⟩
    have Fw29 : Fld Z h29 o0 "com/example/processionary/processionary/automata/IntSet" "size" "I" (.int (sn + (1 : Int32))) := f27.same W29
    have pre29 : Lead p e below G (T29.setTop (mkF m 89 #[.val (.ref o0), .val (.int p1), .val (.int (l2_6 - (1 : Int32))), .val (.int iv_19)] [])) := fun t k => pre28 t (st29 _ k)
    obtain ⟨fs, hr, hrun, hended, hW, hsame⟩ := Y29.leave (v := some (.int (nar .boolean (1 : Int32)))) (fun h => by rw [Bd.returns] at h; cases h)
    have preF : Lead p e below (s₁.setTop (entryFrame m #[(.ref o0), (.int p1)] 4)) (T29.setTop (mkF m 89 #[.val (.ref o0), .val (.int p1), .val (.int (l2_6 - (1 : Int32))), .val (.int iv_19)] [])) := by rw [← hG]; exact pre29
    refine ⟨_, _, preF _ ?_, hrun, hended, _, _, rfl, ?_, ⟨_, rfl⟩, hW, hsame.mono (by decide) (by decide)⟩
    · show Steps p.tables e below (T29.setTop (mkF m 89 #[.val (.ref o0), .val (.int p1), .val (.int (l2_6 - (1 : Int32))), .val (.int iv_19)] [])) _
      refine XS.iconst Y29.here hx rfl (hb hby d5_89) ?_
      show Steps p.tables e below (T29.setTop (mkF m 90 #[.val (.ref o0), .val (.int p1), .val (.int (l2_6 - (1 : Int32))), .val (.int iv_19)] [(.int (1 : Int32))])) _
      exact retN Y29 hx (t := .boolean) Bd.returns (by simp) (hb hby d5_90) hr
    · show Q5 Z o0 p1 sa sn nl ga h0 n0 _ T29.heap _
      rw [e29]
      have f31 : Exa Z h29 o0 "com/example/processionary/processionary/automata/IntSet" := (f30.wr W29)
      have f32 : Fld Z h29 o0 "com/example/processionary/processionary/automata/IntSet" "slots" "[I" (.ref s2_6) := ((f19_1.other W24 (Or.inl w6_1)).other W29 (Or.inr (slot_ne (Or.inl (hw _ (List.mem_of_getElem? (i := 16) rfl))) (Or.inl (hw _ (List.mem_of_getElem? (i := 27) rfl))) (by decide) (t := (.array .int)) (t' := .int) (by decide) (by decide))))
      have f33 : JV Value.int Z h29 s2_6 .int l2_6 (updF g2_6 (iv_19).toNatClampNeg p1) := (V24.other W29 (Ne.symm w6_1))
      exact ⟨s2_6, l2_6, (updF g2_6 (iv_19).toNatClampNeg p1), (sn + (1 : Int32)), (1 : Int32), congrArg (fun z => some (Value.int z)) (show (nar .boolean (1 : Int32)) = (1 : Int32) from rfl), N29, K29, f31, f32, Fw29, f33, w6_0, w6_1, (own_isput q6_0 hn2 q19_1 q19_2 q19_0 hm), (own_ar1 q6_0 q6_1 q19_1 q19_2 q19_0 hm)⟩
theorem d10_14 : decode prog_12_method_5_code 14 = .ok (.aload_n 0, 1) := by decide +kernel
theorem d10_15 : decode prog_12_method_5_code 15 = .ok (.getfield 7, 3) := by decide +kernel
theorem d10_18 : decode prog_12_method_5_code 18 = .ok (.iload_n 3, 1) := by decide +kernel
theorem d10_19 : decode prog_12_method_5_code 19 = .ok (.iaload, 1) := by decide +kernel
theorem d10_20 : decode prog_12_method_5_code 20 = .ok (.iload_n 1, 1) := by decide +kernel
theorem d10_21 : decode prog_12_method_5_code 21 = .ok (.if_icmp .eq 24, 3) := by decide +kernel
theorem d10_24 : decode prog_12_method_5_code 24 = .ok (.aload_n 0, 1) := by decide +kernel
theorem d10_25 : decode prog_12_method_5_code 25 = .ok (.getfield 7, 3) := by decide +kernel
theorem d10_28 : decode prog_12_method_5_code 28 = .ok (.iload_n 3, 1) := by decide +kernel
theorem d10_29 : decode prog_12_method_5_code 29 = .ok (.iaload, 1) := by decide +kernel
theorem d10_30 : decode prog_12_method_5_code 30 = .ok (.iconst (-1), 1) := by decide +kernel
theorem d10_31 : decode prog_12_method_5_code 31 = .ok (.if_icmp .ne 5, 3) := by decide +kernel
theorem d10_36 : decode prog_12_method_5_code 36 = .ok (.iload_n 3, 1) := by decide +kernel
theorem d10_37 : decode prog_12_method_5_code 37 = .ok (.iconst 1, 1) := by decide +kernel
theorem d10_38 : decode prog_12_method_5_code 38 = .ok (.iadd, 1) := by decide +kernel
theorem d10_39 : decode prog_12_method_5_code 39 = .ok (.iload_n 2, 1) := by decide +kernel
theorem d10_40 : decode prog_12_method_5_code 40 = .ok (.iand, 1) := by decide +kernel
theorem d10_41 : decode prog_12_method_5_code 41 = .ok (.istore_n 3, 1) := by decide +kernel
theorem d10_42 : decode prog_12_method_5_code 42 = .ok (.goto (-28), 3) := by decide +kernel
set_option maxRecDepth 65536 in
set_option maxHeartbeats 40000000 in
theorem lp10_14 (l : Launch) (Z : State) (a0 : Array Value) (hw : ∀ d ∈ tables_1, d.before a0 Z = true) {p : Program} {e : Env} {s : State} {m : MethodId} {below : List Frame} {meth : Method} {c : Code} (o0 : Addr) (p1 : Int32) (sa : Addr) (sn : Int32) (nl : Int32) (ga : Nat → Int32) (mk : Int32) (n0 : Nat) (hx : p.tables.exec = Jvm.exec) (hZ : Z.Warmed39 s.vm) (hby : c.code = prog_12_method_5_code) (hml : c.maxLocals = 5) (hown : s.vm.findClass "com/example/processionary/processionary/automata/IntSet" = some m.cls) (hl : L48 nl) (hmk : mk = (nl - (1 : Int32))) (hel : (TL ga nl.toInt.toNat).length < nl.toInt.toNat) :
    ∀ (d : Nat) (iv : Int32) (T0 : State) (M0 : List Loc) (h0 : Heap), n0 ≤ h0.size → nl.toInt.toNat - PT nl p1 iv = d → (VT ga nl p1 iv) → (VM ga nl p1 iv) → Stand p l e ({ frames := 1, cells := 0, slots := 0, locals := 16 } : Room) s m #[(.ref o0), (.int p1)] below meth c T0 M0 0 0 → T0.heap = h0 → Fr n0 M0 → Exa Z h0 o0 "com/example/processionary/processionary/automata/IntSet" → Fld Z h0 o0 "com/example/processionary/processionary/automata/IntSet" "slots" "[I" (.ref sa) → JV Value.int Z h0 sa .int nl ga → (∃ (iv_ : Int32) (T' : State) (M' : List Loc) (h' : Heap), (ga iv_.toNatClampNeg = p1) ∧ (VT ga nl p1 iv_) ∧ Stand p l e ({ frames := 1, cells := 0, slots := 0, locals := 16 } : Room) s m #[(.ref o0), (.int p1)] below meth c T' M' 0 0 ∧ T'.heap = h' ∧ Fr n0 M' ∧ Keep h0 h' [] ∧ Exa Z h' o0 "com/example/processionary/processionary/automata/IntSet" ∧ Fld Z h' o0 "com/example/processionary/processionary/automata/IntSet" "slots" "[I" (.ref sa) ∧ JV Value.int Z h' sa .int nl ga ∧ Lead p e below (T0.setTop (mkF m 14 #[.val (.ref o0), .val (.int p1), .val (.int mk), .val (.int iv), .unset] [])) (T'.setTop (mkF m 45 #[.val (.ref o0), .val (.int p1), .val (.int mk), .val (.int iv_), .unset] []))) ∨ (∃ (iv_ : Int32) (T' : State) (M' : List Loc) (h' : Heap), (ga iv_.toNatClampNeg = -1) ∧ (VT ga nl p1 iv_) ∧ (VM ga nl p1 iv_) ∧ Stand p l e ({ frames := 1, cells := 0, slots := 0, locals := 16 } : Room) s m #[(.ref o0), (.int p1)] below meth c T' M' 0 0 ∧ T'.heap = h' ∧ Fr n0 M' ∧ Keep h0 h' [] ∧ Exa Z h' o0 "com/example/processionary/processionary/automata/IntSet" ∧ Fld Z h' o0 "com/example/processionary/processionary/automata/IntSet" "slots" "[I" (.ref sa) ∧ JV Value.int Z h' sa .int nl ga ∧ Lead p e below (T0.setTop (mkF m 14 #[.val (.ref o0), .val (.int p1), .val (.int mk), .val (.int iv), .unset] [])) (T'.setTop (mkF m 34 #[.val (.ref o0), .val (.int p1), .val (.int mk), .val (.int iv_), .unset] []))) := by
  intro d
  induction d using Nat.strongRecOn with
  | ind d ih =>
    intro iv T0 M0 h0 Z0 hd hv hwm X0 e0 N0 P0_E P1_F P2_V
    have K0 : Keep h0 h0 [] := Keep.refl _ _
    obtain ⟨G, hG⟩ : ∃ z, z = T0.setTop (mkF m 14 #[.val (.ref o0), .val (.int p1), .val (.int mk), .val (.int iv), .unset] []) := ⟨_, rfl⟩
    rw [← hG]
    have pre0 : Lead p e below G (T0.setTop (mkF m 14 #[.val (.ref o0), .val (.int p1), .val (.int mk), .val (.int iv), .unset] [])) := fun t k => by rw [hG]; exact k
    have pre1 : Lead p e below G (T0.setTop (mkF m 15 #[.val (.ref o0), .val (.int p1), .val (.int mk), .val (.int iv), .unset] [(.ref o0)])) := fun t k => by
      refine pre0 t ?_
      show Steps p.tables e below (T0.setTop (mkF m 14 #[.val (.ref o0), .val (.int p1), .val (.int mk), .val (.int iv), .unset] [])) _
      refine XS.aloadN X0.here hx rfl (hb hby d10_14) rfl rfl ?_
      exact k
    obtain ⟨T2, X2, e2, st2⟩ := getF X0 hx hZ hown (host := "") (Or.inl (hw _ (List.mem_of_getElem? (i := 15) rfl))) Via.refl e0 P1_F (g := (mkF m 15 #[.val (.ref o0), .val (.int p1), .val (.int mk), .val (.int iv), .unset] [(.ref o0)])) rfl rfl (hb hby d10_15)
    have pre2 : Lead p e below G (T2.setTop (mkF m 18 #[.val (.ref o0), .val (.int p1), .val (.int mk), .val (.int iv), .unset] [(.ref sa)])) := fun t k => pre1 t (st2 _ k)
    have pre3 : Lead p e below G (T2.setTop (mkF m 19 #[.val (.ref o0), .val (.int p1), .val (.int mk), .val (.int iv), .unset] [(.int iv), (.ref sa)])) := fun t k => by
      refine pre2 t ?_
      show Steps p.tables e below (T2.setTop (mkF m 18 #[.val (.ref o0), .val (.int p1), .val (.int mk), .val (.int iv), .unset] [(.ref sa)])) _
      refine XS.iloadN X2.here hx rfl (hb hby d10_18) rfl ?_
      exact k
    obtain ⟨cl4, Ar4, hin4, hat4⟩ := P2_V.in (j := iv) (vb hv)
    have st4 := X2.iaload hx (j := iv) (v := (.int (ga (iv).toNatClampNeg))) (by rw [e2]; exact Ar4.1) (State.isArrayOf_alike hZ.alike Ar4.2.1) Ar4.2.2 hin4 hat4 (g := (mkF m 19 #[.val (.ref o0), .val (.int p1), .val (.int mk), .val (.int iv), .unset] [(.int iv), (.ref sa)])) rfl rfl (hb hby d10_19)
    have pre4 : Lead p e below G (T2.setTop (mkF m 20 #[.val (.ref o0), .val (.int p1), .val (.int mk), .val (.int iv), .unset] [(.int (ga (iv).toNatClampNeg))])) := fun t k => pre3 t (st4 _ k)
    have pre5 : Lead p e below G (T2.setTop (mkF m 21 #[.val (.ref o0), .val (.int p1), .val (.int mk), .val (.int iv), .unset] [(.int p1), (.int (ga (iv).toNatClampNeg))])) := fun t k => by
      refine pre4 t ?_
      show Steps p.tables e below (T2.setTop (mkF m 20 #[.val (.ref o0), .val (.int p1), .val (.int mk), .val (.int iv), .unset] [(.int (ga (iv).toNatClampNeg))])) _
      refine XS.iloadN X2.here hx rfl (hb hby d10_20) rfl ?_
      show Steps p.tables e below (T2.setTop (mkF m 21 #[.val (.ref o0), .val (.int p1), .val (.int mk), .val (.int iv), .unset] [(.int p1), (.int (ga (iv).toNatClampNeg))])) _
      exact k
    by_cases hs21_6 : (ga (iv).toNatClampNeg) = p1
    · have pre7 : Lead p e below G (T2.setTop (mkF m 45 #[.val (.ref o0), .val (.int p1), .val (.int mk), .val (.int iv), .unset] [])) := fun t k => by
        refine pre5 t ?_
        show Steps p.tables e below (T2.setTop (mkF m 21 #[.val (.ref o0), .val (.int p1), .val (.int mk), .val (.int iv), .unset] [(.int p1), (.int (ga (iv).toNatClampNeg))])) _
        refine XS.icmpYes X2.here hx rfl (pc0 := 21) (pc' := 45) rfl (hb hby d10_21) rfl (teq hs21_6).1 (by decide) (by decide) ?_
        exact k
      exact Or.inl ⟨iv, T2, _, _, (show ga iv.toNatClampNeg = p1 from hs21_6), (show VT ga nl p1 iv from hv), X2, e2, N0, K0, P0_E, P1_F, P2_V, pre7⟩
    · have pre8 : Lead p e below G (T2.setTop (mkF m 25 #[.val (.ref o0), .val (.int p1), .val (.int mk), .val (.int iv), .unset] [(.ref o0)])) := fun t k => by
        refine pre5 t ?_
        show Steps p.tables e below (T2.setTop (mkF m 21 #[.val (.ref o0), .val (.int p1), .val (.int mk), .val (.int iv), .unset] [(.int p1), (.int (ga (iv).toNatClampNeg))])) _
        refine XS.icmpNo X2.here hx rfl (hb hby d10_21) rfl (feq hs21_6).1 ?_
        refine XS.aloadN X2.here hx rfl (hb hby d10_24) rfl rfl ?_
        show Steps p.tables e below (T2.setTop (mkF m 25 #[.val (.ref o0), .val (.int p1), .val (.int mk), .val (.int iv), .unset] [(.ref o0)])) _
        exact k
      obtain ⟨T9, X9, e9, st9⟩ := getF X2 hx hZ hown (host := "") (Or.inl (hw _ (List.mem_of_getElem? (i := 15) rfl))) Via.refl e2 P1_F (g := (mkF m 25 #[.val (.ref o0), .val (.int p1), .val (.int mk), .val (.int iv), .unset] [(.ref o0)])) rfl rfl (hb hby d10_25)
      have pre9 : Lead p e below G (T9.setTop (mkF m 28 #[.val (.ref o0), .val (.int p1), .val (.int mk), .val (.int iv), .unset] [(.ref sa)])) := fun t k => pre8 t (st9 _ k)
      have pre10 : Lead p e below G (T9.setTop (mkF m 29 #[.val (.ref o0), .val (.int p1), .val (.int mk), .val (.int iv), .unset] [(.int iv), (.ref sa)])) := fun t k => by
        refine pre9 t ?_
        show Steps p.tables e below (T9.setTop (mkF m 28 #[.val (.ref o0), .val (.int p1), .val (.int mk), .val (.int iv), .unset] [(.ref sa)])) _
        refine XS.iloadN X9.here hx rfl (hb hby d10_28) rfl ?_
        exact k
      obtain ⟨cl11, Ar11, hin11, hat11⟩ := P2_V.in (j := iv) (vb hv)
      have st11 := X9.iaload hx (j := iv) (v := (.int (ga (iv).toNatClampNeg))) (by rw [e9]; exact Ar11.1) (State.isArrayOf_alike hZ.alike Ar11.2.1) Ar11.2.2 hin11 hat11 (g := (mkF m 29 #[.val (.ref o0), .val (.int p1), .val (.int mk), .val (.int iv), .unset] [(.int iv), (.ref sa)])) rfl rfl (hb hby d10_29)
      have pre11 : Lead p e below G (T9.setTop (mkF m 30 #[.val (.ref o0), .val (.int p1), .val (.int mk), .val (.int iv), .unset] [(.int (ga (iv).toNatClampNeg))])) := fun t k => pre10 t (st11 _ k)
      have pre12 : Lead p e below G (T9.setTop (mkF m 31 #[.val (.ref o0), .val (.int p1), .val (.int mk), .val (.int iv), .unset] [(.int (-1 : Int32)), (.int (ga (iv).toNatClampNeg))])) := fun t k => by
        refine pre11 t ?_
        show Steps p.tables e below (T9.setTop (mkF m 30 #[.val (.ref o0), .val (.int p1), .val (.int mk), .val (.int iv), .unset] [(.int (ga (iv).toNatClampNeg))])) _
        refine XS.iconst X9.here hx rfl (hb hby d10_30) ?_
        exact k
      by_cases hs31_13 : (ga (iv).toNatClampNeg) = (-1 : Int32)
      · have pre14 : Lead p e below G (T9.setTop (mkF m 34 #[.val (.ref o0), .val (.int p1), .val (.int mk), .val (.int iv), .unset] [])) := fun t k => by
          refine pre12 t ?_
          show Steps p.tables e below (T9.setTop (mkF m 31 #[.val (.ref o0), .val (.int p1), .val (.int mk), .val (.int iv), .unset] [(.int (-1 : Int32)), (.int (ga (iv).toNatClampNeg))])) _
          refine XS.icmpNo X9.here hx rfl (hb hby d10_31) rfl (teq hs31_13).2 ?_
          show Steps p.tables e below (T9.setTop (mkF m 34 #[.val (.ref o0), .val (.int p1), .val (.int mk), .val (.int iv), .unset] [])) _
          exact k
        exact Or.inr ⟨iv, T9, _, _, (show ga iv.toNatClampNeg = -1 from hs31_13), (show VT ga nl p1 iv from hv), (show VM ga nl p1 iv from hwm), X9, e9, N0, K0, P0_E, P1_F, P2_V, pre14⟩
      · have pre15 : Lead p e below G (T9.setTop (mkF m 14 #[.val (.ref o0), .val (.int p1), .val (.int mk), .val (.int ((iv + (1 : Int32)) &&& mk)), .unset] [])) := fun t k => by
          refine pre12 t ?_
          show Steps p.tables e below (T9.setTop (mkF m 31 #[.val (.ref o0), .val (.int p1), .val (.int mk), .val (.int iv), .unset] [(.int (-1 : Int32)), (.int (ga (iv).toNatClampNeg))])) _
          refine XS.icmpYes X9.here hx rfl (pc0 := 31) (pc' := 36) rfl (hb hby d10_31) rfl (feq hs31_13).2 (by decide) (by decide) ?_
          refine XS.iloadN X9.here hx rfl (hb hby d10_36) rfl ?_
          refine XS.iconst X9.here hx rfl (hb hby d10_37) ?_
          show Steps p.tables e below (T9.setTop (mkF m 38 #[.val (.ref o0), .val (.int p1), .val (.int mk), .val (.int iv), .unset] [(.int (1 : Int32)), (.int iv)])) _
          refine XS.iadd X9.here hx rfl (hb hby d10_38) rfl ?_
          refine XS.iloadN X9.here hx rfl (hb hby d10_39) rfl ?_
          refine XS.iand X9.here hx rfl (hb hby d10_40) rfl ?_
          show Steps p.tables e below (T9.setTop (mkF m 41 #[.val (.ref o0), .val (.int p1), .val (.int mk), .val (.int iv), .unset] [(.int ((iv + (1 : Int32)) &&& mk))])) _
          refine XS.istoreN X9.here hx rfl (hb hby d10_41) rfl (l' := #[.val (.ref o0), .val (.int p1), .val (.int mk), .val (.int ((iv + (1 : Int32)) &&& mk)), .unset]) rfl ?_
          refine XS.goto X9.here hx rfl (pc0 := 42) (pc' := 14) rfl (hb hby d10_42) (by decide) (by decide) ?_
          exact k
        rcases ih (nl.toInt.toNat - PT nl p1 ((iv + (1 : Int32)) &&& mk)) (hd ▸ (by subst hmk; skip; exact vd1 hl hv hs31_13 hel)) ((iv + (1 : Int32)) &&& mk) _ _ _ (Nat.le_trans Z0 K0.1) rfl (show VT ga nl p1 ((iv + (1 : Int32)) &&& mk) from (by subst hmk; skip; exact vt1 hl hv hs31_13 hel)) (show VM ga nl p1 ((iv + (1 : Int32)) &&& mk) from (by subst hmk; skip; exact vm1 hl hv hwm hs31_13 hs21_6 hel)) X9 e9 N0 P0_E P1_F P2_V with ⟨iv_16, T16, M16, h16, q16_0, q16_1, X16, e16, N16, K16, f16_0, f16_1, f16_2, ld16⟩ | ⟨iv_16, T16, M16, h16, q16_0, q16_1, q16_2, X16, e16, N16, K16, f16_0, f16_1, f16_2, ld16⟩
        · exact Or.inl ⟨iv_16, T16, M16, h16, (show ga iv_16.toNatClampNeg = p1 from q16_0), (show VT ga nl p1 iv_16 from q16_1), X16, e16, N16, K0.trans K16 (fun x hx => Or.inl hx), f16_0, f16_1, f16_2, fun t k => pre15 t (ld16 t k)⟩
        · exact Or.inr ⟨iv_16, T16, M16, h16, (show ga iv_16.toNatClampNeg = -1 from q16_0), (show VT ga nl p1 iv_16 from q16_1), (show VM ga nl p1 iv_16 from q16_2), X16, e16, N16, K0.trans K16 (fun x hx => Or.inl hx), f16_0, f16_1, f16_2, fun t k => pre15 t (ld16 t k)⟩
theorem pd__28_III_29_Z : parseMethodDescriptor "(III)Z" = some ⟨[.int, .int, .int], some .boolean⟩ := by decide +kernel
theorem d10_52 : decode prog_12_method_5_code 52 = .ok (.aload_n 0, 1) := by decide +kernel
theorem d10_53 : decode prog_12_method_5_code 53 = .ok (.getfield 7, 3) := by decide +kernel
theorem d10_56 : decode prog_12_method_5_code 56 = .ok (.iload 4, 2) := by decide +kernel
theorem d10_58 : decode prog_12_method_5_code 58 = .ok (.iaload, 1) := by decide +kernel
theorem d10_59 : decode prog_12_method_5_code 59 = .ok (.iconst (-1), 1) := by decide +kernel
theorem d10_60 : decode prog_12_method_5_code 60 = .ok (.if_icmp .eq 50, 3) := by decide +kernel
theorem d10_63 : decode prog_12_method_5_code 63 = .ok (.iload_n 3, 1) := by decide +kernel
theorem d10_64 : decode prog_12_method_5_code 64 = .ok (.iload 4, 2) := by decide +kernel
theorem d10_66 : decode prog_12_method_5_code 66 = .ok (.aload_n 0, 1) := by decide +kernel
theorem d10_67 : decode prog_12_method_5_code 67 = .ok (.getfield 7, 3) := by decide +kernel
theorem d10_70 : decode prog_12_method_5_code 70 = .ok (.iload 4, 2) := by decide +kernel
theorem d10_72 : decode prog_12_method_5_code 72 = .ok (.iaload, 1) := by decide +kernel
theorem d10_73 : decode prog_12_method_5_code 73 = .ok (.iload_n 2, 1) := by decide +kernel
theorem d10_74 : decode prog_12_method_5_code 74 = .ok (.invokestatic 23, 3) := by decide +kernel
theorem d10_77 : decode prog_12_method_5_code 77 = .ok (.invokestatic 31, 3) := by decide +kernel
theorem d10_80 : decode prog_12_method_5_code 80 = .ok (.ifCond .eq 19, 3) := by decide +kernel
theorem d10_83 : decode prog_12_method_5_code 83 = .ok (.aload_n 0, 1) := by decide +kernel
theorem d10_84 : decode prog_12_method_5_code 84 = .ok (.getfield 7, 3) := by decide +kernel
theorem d10_87 : decode prog_12_method_5_code 87 = .ok (.iload_n 3, 1) := by decide +kernel
theorem d10_88 : decode prog_12_method_5_code 88 = .ok (.aload_n 0, 1) := by decide +kernel
theorem d10_89 : decode prog_12_method_5_code 89 = .ok (.getfield 7, 3) := by decide +kernel
theorem d10_92 : decode prog_12_method_5_code 92 = .ok (.iload 4, 2) := by decide +kernel
theorem d10_94 : decode prog_12_method_5_code 94 = .ok (.iaload, 1) := by decide +kernel
theorem d10_95 : decode prog_12_method_5_code 95 = .ok (.iastore, 1) := by decide +kernel
theorem d10_96 : decode prog_12_method_5_code 96 = .ok (.iload 4, 2) := by decide +kernel
theorem d10_98 : decode prog_12_method_5_code 98 = .ok (.istore_n 3, 1) := by decide +kernel
theorem d10_99 : decode prog_12_method_5_code 99 = .ok (.iload 4, 2) := by decide +kernel
theorem d10_101 : decode prog_12_method_5_code 101 = .ok (.iconst 1, 1) := by decide +kernel
theorem d10_102 : decode prog_12_method_5_code 102 = .ok (.iadd, 1) := by decide +kernel
theorem d10_103 : decode prog_12_method_5_code 103 = .ok (.iload_n 2, 1) := by decide +kernel
theorem d10_104 : decode prog_12_method_5_code 104 = .ok (.iand, 1) := by decide +kernel
theorem d10_105 : decode prog_12_method_5_code 105 = .ok (.istore 4, 2) := by decide +kernel
theorem d10_107 : decode prog_12_method_5_code 107 = .ok (.goto (-55), 3) := by decide +kernel
set_option maxRecDepth 65536 in
set_option maxHeartbeats 40000000 in
theorem lp10_52 (l : Launch) (Z : State) (a0 : Array Value) (hw : ∀ d ∈ tables_1, d.before a0 Z = true) {p : Program} {e : Env} {s : State} {m : MethodId} {below : List Frame} {meth : Method} {c : Code} (o0 : Addr) (p1 : Int32) (sa : Addr) (sn : Int32) (nl : Int32) (ga : Nat → Int32) (mk : Int32) (n0 : Nat) (hx : p.tables.exec = Jvm.exec) (hZ : Z.Warmed39 s.vm) (hby : c.code = prog_12_method_5_code) (hml : c.maxLocals = 5) (hown : s.vm.findClass "com/example/processionary/processionary/automata/IntSet" = some m.cls) (Q0_G : n0 ≤ sa) (Q1_NE : o0 ≠ sa) (hl : L48 nl) (hmk : mk = (nl - (1 : Int32))) :
    ∀ (d : Nat) (iv : Int32) (nv : Int32) (gr : Nat → Int32) (T0 : State) (M0 : List Loc) (h0 : Heap), n0 ≤ h0.size → DS nl.toInt.toNat (FE ga nl.toInt.toNat) nv.toInt.toNat = d → (SH ga gr nl p1 iv nv) → Stand p l e ({ frames := 1, cells := 0, slots := 0, locals := 16 } : Room) s m #[(.ref o0), (.int p1)] below meth c T0 M0 0 0 → T0.heap = h0 → Fr n0 M0 → Exa Z h0 o0 "com/example/processionary/processionary/automata/IntSet" → Fld Z h0 o0 "com/example/processionary/processionary/automata/IntSet" "slots" "[I" (.ref sa) → JV Value.int Z h0 sa .int nl gr → (∃ (iv_ : Int32) (nv_ : Int32) (gr_ : Nat → Int32) (T' : State) (M' : List Loc) (h' : Heap), (SH ga gr_ nl p1 iv_ nv_) ∧ Stand p l e ({ frames := 1, cells := 0, slots := 0, locals := 16 } : Room) s m #[(.ref o0), (.int p1)] below meth c T' M' 0 0 ∧ T'.heap = h' ∧ Fr n0 M' ∧ Keep h0 h' [sa] ∧ Exa Z h' o0 "com/example/processionary/processionary/automata/IntSet" ∧ Fld Z h' o0 "com/example/processionary/processionary/automata/IntSet" "slots" "[I" (.ref sa) ∧ JV Value.int Z h' sa .int nl gr_ ∧ Lead p e below (T0.setTop (mkF m 52 #[.val (.ref o0), .val (.int p1), .val (.int mk), .val (.int iv), .val (.int nv)] [])) (T'.setTop (mkF m 110 #[.val (.ref o0), .val (.int p1), .val (.int mk), .val (.int iv_), .val (.int nv_)] []))) := by
  intro d
  induction d using Nat.strongRecOn with
  | ind d ih =>
    intro iv nv gr T0 M0 h0 Z0 hd hs X0 e0 N0 P0_E P1_F P2_V
    have K0 : Keep h0 h0 [sa] := Keep.refl _ _
    obtain ⟨G, hG⟩ : ∃ z, z = T0.setTop (mkF m 52 #[.val (.ref o0), .val (.int p1), .val (.int mk), .val (.int iv), .val (.int nv)] []) := ⟨_, rfl⟩
    rw [← hG]
    have pre0 : Lead p e below G (T0.setTop (mkF m 52 #[.val (.ref o0), .val (.int p1), .val (.int mk), .val (.int iv), .val (.int nv)] [])) := fun t k => by rw [hG]; exact k
    have pre1 : Lead p e below G (T0.setTop (mkF m 53 #[.val (.ref o0), .val (.int p1), .val (.int mk), .val (.int iv), .val (.int nv)] [(.ref o0)])) := fun t k => by
      refine pre0 t ?_
      show Steps p.tables e below (T0.setTop (mkF m 52 #[.val (.ref o0), .val (.int p1), .val (.int mk), .val (.int iv), .val (.int nv)] [])) _
      refine XS.aloadN X0.here hx rfl (hb hby d10_52) rfl rfl ?_
      show Steps p.tables e below (T0.setTop (mkF m 53 #[.val (.ref o0), .val (.int p1), .val (.int mk), .val (.int iv), .val (.int nv)] [(.ref o0)])) _
      exact k
    obtain ⟨T2, X2, e2, st2⟩ := getF X0 hx hZ hown (host := "") (Or.inl (hw _ (List.mem_of_getElem? (i := 15) rfl))) Via.refl e0 P1_F (g := (mkF m 53 #[.val (.ref o0), .val (.int p1), .val (.int mk), .val (.int iv), .val (.int nv)] [(.ref o0)])) rfl rfl (hb hby d10_53)
    have pre2 : Lead p e below G (T2.setTop (mkF m 56 #[.val (.ref o0), .val (.int p1), .val (.int mk), .val (.int iv), .val (.int nv)] [(.ref sa)])) := fun t k => pre1 t (st2 _ k)
    have pre3 : Lead p e below G (T2.setTop (mkF m 58 #[.val (.ref o0), .val (.int p1), .val (.int mk), .val (.int iv), .val (.int nv)] [(.int nv), (.ref sa)])) := fun t k => by
      refine pre2 t ?_
      show Steps p.tables e below (T2.setTop (mkF m 56 #[.val (.ref o0), .val (.int p1), .val (.int mk), .val (.int iv), .val (.int nv)] [(.ref sa)])) _
      refine XS.iload X2.here hx rfl (hb hby d10_56) rfl ?_
      exact k
    obtain ⟨cl4, Ar4, hin4, hat4⟩ := P2_V.in (j := nv) (shb hs)
    have st4 := X2.iaload hx (j := nv) (v := (.int (gr (nv).toNatClampNeg))) (by rw [e2]; exact Ar4.1) (State.isArrayOf_alike hZ.alike Ar4.2.1) Ar4.2.2 hin4 hat4 (g := (mkF m 58 #[.val (.ref o0), .val (.int p1), .val (.int mk), .val (.int iv), .val (.int nv)] [(.int nv), (.ref sa)])) rfl rfl (hb hby d10_58)
    have pre4 : Lead p e below G (T2.setTop (mkF m 59 #[.val (.ref o0), .val (.int p1), .val (.int mk), .val (.int iv), .val (.int nv)] [(.int (gr (nv).toNatClampNeg))])) := fun t k => pre3 t (st4 _ k)
    have pre5 : Lead p e below G (T2.setTop (mkF m 60 #[.val (.ref o0), .val (.int p1), .val (.int mk), .val (.int iv), .val (.int nv)] [(.int (-1 : Int32)), (.int (gr (nv).toNatClampNeg))])) := fun t k => by
      refine pre4 t ?_
      show Steps p.tables e below (T2.setTop (mkF m 59 #[.val (.ref o0), .val (.int p1), .val (.int mk), .val (.int iv), .val (.int nv)] [(.int (gr (nv).toNatClampNeg))])) _
      refine XS.iconst X2.here hx rfl (hb hby d10_59) ?_
      exact k
    by_cases hs60_6 : (gr (nv).toNatClampNeg) = (-1 : Int32)
    · have pre7 : Lead p e below G (T2.setTop (mkF m 110 #[.val (.ref o0), .val (.int p1), .val (.int mk), .val (.int iv), .val (.int nv)] [])) := fun t k => by
        refine pre5 t ?_
        show Steps p.tables e below (T2.setTop (mkF m 60 #[.val (.ref o0), .val (.int p1), .val (.int mk), .val (.int iv), .val (.int nv)] [(.int (-1 : Int32)), (.int (gr (nv).toNatClampNeg))])) _
        refine XS.icmpYes X2.here hx rfl (pc0 := 60) (pc' := 110) rfl (hb hby d10_60) rfl (teq hs60_6).1 (by decide) (by decide) ?_
        show Steps p.tables e below (T2.setTop (mkF m 110 #[.val (.ref o0), .val (.int p1), .val (.int mk), .val (.int iv), .val (.int nv)] [])) _
        exact k
      exact ⟨iv, nv, gr, T2, _, _, (show SH ga gr nl p1 iv nv from hs), X2, e2, N0, K0, P0_E, P1_F, P2_V, pre7⟩
    · have pre8 : Lead p e below G (T2.setTop (mkF m 67 #[.val (.ref o0), .val (.int p1), .val (.int mk), .val (.int iv), .val (.int nv)] [(.ref o0), (.int nv), (.int iv)])) := fun t k => by
        refine pre5 t ?_
        show Steps p.tables e below (T2.setTop (mkF m 60 #[.val (.ref o0), .val (.int p1), .val (.int mk), .val (.int iv), .val (.int nv)] [(.int (-1 : Int32)), (.int (gr (nv).toNatClampNeg))])) _
        refine XS.icmpNo X2.here hx rfl (hb hby d10_60) rfl (feq hs60_6).1 ?_
        refine XS.iloadN X2.here hx rfl (hb hby d10_63) rfl ?_
        refine XS.iload X2.here hx rfl (hb hby d10_64) rfl ?_
        show Steps p.tables e below (T2.setTop (mkF m 66 #[.val (.ref o0), .val (.int p1), .val (.int mk), .val (.int iv), .val (.int nv)] [(.int nv), (.int iv)])) _
        refine XS.aloadN X2.here hx rfl (hb hby d10_66) rfl rfl ?_
        exact k
      obtain ⟨T9, X9, e9, st9⟩ := getF X2 hx hZ hown (host := "") (Or.inl (hw _ (List.mem_of_getElem? (i := 15) rfl))) Via.refl e2 P1_F (g := (mkF m 67 #[.val (.ref o0), .val (.int p1), .val (.int mk), .val (.int iv), .val (.int nv)] [(.ref o0), (.int nv), (.int iv)])) rfl rfl (hb hby d10_67)
      have pre9 : Lead p e below G (T9.setTop (mkF m 70 #[.val (.ref o0), .val (.int p1), .val (.int mk), .val (.int iv), .val (.int nv)] [(.ref sa), (.int nv), (.int iv)])) := fun t k => pre8 t (st9 _ k)
      have pre10 : Lead p e below G (T9.setTop (mkF m 72 #[.val (.ref o0), .val (.int p1), .val (.int mk), .val (.int iv), .val (.int nv)] [(.int nv), (.ref sa), (.int nv), (.int iv)])) := fun t k => by
        refine pre9 t ?_
        show Steps p.tables e below (T9.setTop (mkF m 70 #[.val (.ref o0), .val (.int p1), .val (.int mk), .val (.int iv), .val (.int nv)] [(.ref sa), (.int nv), (.int iv)])) _
        refine XS.iload X9.here hx rfl (hb hby d10_70) rfl ?_
        exact k
      obtain ⟨cl11, Ar11, hin11, hat11⟩ := P2_V.in (j := nv) (shb hs)
      have st11 := X9.iaload hx (j := nv) (v := (.int (gr (nv).toNatClampNeg))) (by rw [e9]; exact Ar11.1) (State.isArrayOf_alike hZ.alike Ar11.2.1) Ar11.2.2 hin11 hat11 (g := (mkF m 72 #[.val (.ref o0), .val (.int p1), .val (.int mk), .val (.int iv), .val (.int nv)] [(.int nv), (.ref sa), (.int nv), (.int iv)])) rfl rfl (hb hby d10_72)
      have pre11 : Lead p e below G (T9.setTop (mkF m 73 #[.val (.ref o0), .val (.int p1), .val (.int mk), .val (.int iv), .val (.int nv)] [(.int (gr (nv).toNatClampNeg)), (.int nv), (.int iv)])) := fun t k => pre10 t (st11 _ k)
      have pre12 : Lead p e below G (T9.setTop (mkF m 74 #[.val (.ref o0), .val (.int p1), .val (.int mk), .val (.int iv), .val (.int nv)] [(.int mk), (.int (gr (nv).toNatClampNeg)), (.int nv), (.int iv)])) := fun t k => by
        refine pre11 t ?_
        show Steps p.tables e below (T9.setTop (mkF m 73 #[.val (.ref o0), .val (.int p1), .val (.int mk), .val (.int iv), .val (.int nv)] [(.int (gr (nv).toNatClampNeg)), (.int nv), (.int iv)])) _
        refine XS.iloadN X9.here hx rfl (hb hby d10_73) rfl ?_
        show Steps p.tables e below (T9.setTop (mkF m 74 #[.val (.ref o0), .val (.int p1), .val (.int mk), .val (.int iv), .val (.int nv)] [(.int mk), (.int (gr (nv).toNatClampNeg)), (.int nv), (.int iv)])) _
        exact k
      obtain ⟨_, _, ⟨T13, L13, k13, n13⟩, -, X13, ⟨Lc13, hQ13, l13, y13, z13⟩, st13⟩ := Jvm.LawKit.callS X9 hx (y := (⟨"com/example/processionary/processionary/automata/IntSet", "slot", "(II)I"⟩ : MethodName)) hown (mvT hZ (hw _ (List.mem_of_getElem? (i := 28) rfl))) (mvT hZ (hw _ (List.mem_of_getElem? (i := 29) rfl))) (mvT hZ (hw _ (List.mem_of_getElem? (i := 7) rfl))) (mvT hZ (hw _ (List.mem_of_getElem? (i := 30) rfl))) (by decide) (backOf (W := 2) (rm6 l Z a0 hw [] (gr (nv).toNatClampNeg) mk  h0 n0 (Nat.le_trans Z0 K0.1) ) hZ (hw _ (List.mem_of_getElem? (i := 30) rfl)) (hw _ (List.mem_of_getElem? (i := 7) rfl)) (by decide) (by decide)) (g := (mkF m 74 #[.val (.ref o0), .val (.int p1), .val (.int mk), .val (.int iv), .val (.int nv)] [(.int mk), (.int (gr (nv).toNatClampNeg)), (.int nv), (.int iv)])) rfl (by rw [hml]; rfl) (argsL := [(.int (gr (nv).toNatClampNeg)), (.int mk)]) (rest := [(.int nv), (.int iv)]) (lenOf pd__28_II_29_I rfl) rfl (by show 2 * 0 + _ ≤ _; exact Nat.le_of_eq rfl) (hb hby d10_74) (fun _ _ => ⟨rfl, e9, (by decide : 0 + 0 ≤ _), (by decide : 0 + 0 ≤ _)⟩)
      dsimp only [Pt.U, Pt.locs, Pt.cells, Pt.slots] at X13 l13 y13 z13 st13 hQ13
      subst l13 y13 z13
      obtain ⟨rfl, N13q, e13⟩ := hQ13
      have N13 := Fr.app N0 N13q
      obtain ⟨M13, Y13, N13⟩ : ∃ M, Stand p l e ({ frames := 1, cells := 0, slots := 0, locals := 16 } : Room) s m #[(.ref o0), (.int p1)] below meth c T13 M 0 0 ∧ Fr n0 M := ⟨_, X13, N13⟩
      have pre13 : Lead p e below G (T13.setTop (mkF m 77 #[.val (.ref o0), .val (.int p1), .val (.int mk), .val (.int iv), .val (.int nv)] [(.int (F6 (gr (nv).toNatClampNeg) mk)), (.int nv), (.int iv)])) := fun t k => pre12 t (st13 _ k)
      obtain ⟨_, _, ⟨T14, L14, k14, n14⟩, -, X14, ⟨Lc14, hQ14, l14, y14, z14⟩, st14⟩ := Jvm.LawKit.callS Y13 hx (y := (⟨"com/example/processionary/processionary/automata/IntSet", "fillsGap", "(III)Z"⟩ : MethodName)) hown (mvT hZ (hw _ (List.mem_of_getElem? (i := 49) rfl))) (mvT hZ (hw _ (List.mem_of_getElem? (i := 50) rfl))) (mvT hZ (hw _ (List.mem_of_getElem? (i := 7) rfl))) (mvT hZ (hw _ (List.mem_of_getElem? (i := 51) rfl))) (by decide) (backOf (W := 0) (rm11 l Z a0 hw [] iv nv (F6 (gr (nv).toNatClampNeg) mk)  h0 n0 (Nat.le_trans Z0 K0.1) ) hZ (hw _ (List.mem_of_getElem? (i := 51) rfl)) (hw _ (List.mem_of_getElem? (i := 7) rfl)) (by decide) (by decide)) (g := (mkF m 77 #[.val (.ref o0), .val (.int p1), .val (.int mk), .val (.int iv), .val (.int nv)] [(.int (F6 (gr (nv).toNatClampNeg) mk)), (.int nv), (.int iv)])) rfl (by rw [hml]; rfl) (argsL := [(.int iv), (.int nv), (.int (F6 (gr (nv).toNatClampNeg) mk))]) (rest := []) (lenOf pd__28_III_29_Z rfl) rfl (by show 2 * 0 + _ ≤ _; exact Nat.le_of_eq rfl) (hb hby d10_77) (fun _ _ => ⟨rfl, e13, (by decide : 0 + 0 ≤ _), (by decide : 0 + 0 ≤ _)⟩)
      dsimp only [Pt.U, Pt.locs, Pt.cells, Pt.slots] at X14 l14 y14 z14 st14 hQ14
      subst l14 y14 z14
      obtain ⟨rfl, N14q, e14⟩ := hQ14
      have N14 := Fr.app N13 N14q
      obtain ⟨M14, Y14, N14⟩ : ∃ M, Stand p l e ({ frames := 1, cells := 0, slots := 0, locals := 16 } : Room) s m #[(.ref o0), (.int p1)] below meth c T14 M 0 0 ∧ Fr n0 M := ⟨_, X14, N14⟩
      have pre14 : Lead p e below G (T14.setTop (mkF m 80 #[.val (.ref o0), .val (.int p1), .val (.int mk), .val (.int iv), .val (.int nv)] [(.int (F11 iv nv (F6 (gr (nv).toNatClampNeg) mk)))])) := fun t k => pre13 t (st14 _ k)
      by_cases hs80_15 : (F11 iv nv (F6 (gr (nv).toNatClampNeg) mk)) = (0 : Int32)
      · have pre16 : Lead p e below G (T14.setTop (mkF m 52 #[.val (.ref o0), .val (.int p1), .val (.int mk), .val (.int iv), .val (.int ((nv + (1 : Int32)) &&& mk))] [])) := fun t k => by
          refine pre14 t ?_
          show Steps p.tables e below (T14.setTop (mkF m 80 #[.val (.ref o0), .val (.int p1), .val (.int mk), .val (.int iv), .val (.int nv)] [(.int (F11 iv nv (F6 (gr (nv).toNatClampNeg) mk)))])) _
          refine XS.ifYes Y14.here hx rfl (pc0 := 80) (pc' := 99) rfl (hb hby d10_80) rfl ((if0 _ _).trans (teq hs80_15).1) (by decide) (by decide) ?_
          refine XS.iload Y14.here hx rfl (hb hby d10_99) rfl ?_
          refine XS.iconst Y14.here hx rfl (hb hby d10_101) ?_
          show Steps p.tables e below (T14.setTop (mkF m 102 #[.val (.ref o0), .val (.int p1), .val (.int mk), .val (.int iv), .val (.int nv)] [(.int (1 : Int32)), (.int nv)])) _
          refine XS.iadd Y14.here hx rfl (hb hby d10_102) rfl ?_
          refine XS.iloadN Y14.here hx rfl (hb hby d10_103) rfl ?_
          refine XS.iand Y14.here hx rfl (hb hby d10_104) rfl ?_
          show Steps p.tables e below (T14.setTop (mkF m 105 #[.val (.ref o0), .val (.int p1), .val (.int mk), .val (.int iv), .val (.int nv)] [(.int ((nv + (1 : Int32)) &&& mk))])) _
          refine XS.istore Y14.here hx rfl (hb hby d10_105) rfl (l' := #[.val (.ref o0), .val (.int p1), .val (.int mk), .val (.int iv), .val (.int ((nv + (1 : Int32)) &&& mk))]) rfl ?_
          refine XS.goto Y14.here hx rfl (pc0 := 107) (pc' := 52) rfl (hb hby d10_107) (by decide) (by decide) ?_
          exact k
        obtain ⟨iv_17, nv_17, gr_17, T17, M17, h17, q17_0, X17, e17, N17, K17, f17_0, f17_1, f17_2, ld17⟩ := ih (DS nl.toInt.toNat (FE ga nl.toInt.toNat) ((nv + (1 : Int32)) &&& mk).toInt.toNat) (hd ▸ (by subst hmk; skip; exact shd hl hs hs60_6)) iv ((nv + (1 : Int32)) &&& mk) gr _ _ _ (Nat.le_trans Z0 K0.1) rfl (show SH ga gr nl p1 iv ((nv + (1 : Int32)) &&& mk) from (by subst hmk; skip; exact sh1 hl hs hs60_6)) Y14 e14 N14 P0_E P1_F P2_V
        exact ⟨iv_17, nv_17, gr_17, T17, M17, h17, (show SH ga gr_17 nl p1 iv_17 nv_17 from q17_0), X17, e17, N17, K0.trans K17 (fun x hx => Or.inl hx), f17_0, f17_1, f17_2, fun t k => pre16 t (ld17 t k)⟩
      · have pre18 : Lead p e below G (T14.setTop (mkF m 84 #[.val (.ref o0), .val (.int p1), .val (.int mk), .val (.int iv), .val (.int nv)] [(.ref o0)])) := fun t k => by
          refine pre14 t ?_
          show Steps p.tables e below (T14.setTop (mkF m 80 #[.val (.ref o0), .val (.int p1), .val (.int mk), .val (.int iv), .val (.int nv)] [(.int (F11 iv nv (F6 (gr (nv).toNatClampNeg) mk)))])) _
          refine XS.ifNo Y14.here hx rfl (hb hby d10_80) rfl ((if0 _ _).trans (feq hs80_15).1) ?_
          show Steps p.tables e below (T14.setTop (mkF m 83 #[.val (.ref o0), .val (.int p1), .val (.int mk), .val (.int iv), .val (.int nv)] [])) _
          refine XS.aloadN Y14.here hx rfl (hb hby d10_83) rfl rfl ?_
          exact k
        obtain ⟨T19, X19, e19, st19⟩ := getF Y14 hx hZ hown (host := "") (Or.inl (hw _ (List.mem_of_getElem? (i := 15) rfl))) Via.refl e14 P1_F (g := (mkF m 84 #[.val (.ref o0), .val (.int p1), .val (.int mk), .val (.int iv), .val (.int nv)] [(.ref o0)])) rfl rfl (hb hby d10_84)
        have pre19 : Lead p e below G (T19.setTop (mkF m 87 #[.val (.ref o0), .val (.int p1), .val (.int mk), .val (.int iv), .val (.int nv)] [(.ref sa)])) := fun t k => pre18 t (st19 _ k)
        have pre20 : Lead p e below G (T19.setTop (mkF m 89 #[.val (.ref o0), .val (.int p1), .val (.int mk), .val (.int iv), .val (.int nv)] [(.ref o0), (.int iv), (.ref sa)])) := fun t k => by
          refine pre19 t ?_
          show Steps p.tables e below (T19.setTop (mkF m 87 #[.val (.ref o0), .val (.int p1), .val (.int mk), .val (.int iv), .val (.int nv)] [(.ref sa)])) _
          refine XS.iloadN X19.here hx rfl (hb hby d10_87) rfl ?_
          refine XS.aloadN X19.here hx rfl (hb hby d10_88) rfl rfl ?_
          show Steps p.tables e below (T19.setTop (mkF m 89 #[.val (.ref o0), .val (.int p1), .val (.int mk), .val (.int iv), .val (.int nv)] [(.ref o0), (.int iv), (.ref sa)])) _
          exact k
        obtain ⟨T21, X21, e21, st21⟩ := getF X19 hx hZ hown (host := "") (Or.inl (hw _ (List.mem_of_getElem? (i := 15) rfl))) Via.refl e19 P1_F (g := (mkF m 89 #[.val (.ref o0), .val (.int p1), .val (.int mk), .val (.int iv), .val (.int nv)] [(.ref o0), (.int iv), (.ref sa)])) rfl rfl (hb hby d10_89)
        have pre21 : Lead p e below G (T21.setTop (mkF m 92 #[.val (.ref o0), .val (.int p1), .val (.int mk), .val (.int iv), .val (.int nv)] [(.ref sa), (.int iv), (.ref sa)])) := fun t k => pre20 t (st21 _ k)
        have pre22 : Lead p e below G (T21.setTop (mkF m 94 #[.val (.ref o0), .val (.int p1), .val (.int mk), .val (.int iv), .val (.int nv)] [(.int nv), (.ref sa), (.int iv), (.ref sa)])) := fun t k => by
          refine pre21 t ?_
          show Steps p.tables e below (T21.setTop (mkF m 92 #[.val (.ref o0), .val (.int p1), .val (.int mk), .val (.int iv), .val (.int nv)] [(.ref sa), (.int iv), (.ref sa)])) _
          refine XS.iload X21.here hx rfl (hb hby d10_92) rfl ?_
          exact k
        obtain ⟨cl23, Ar23, hin23, hat23⟩ := P2_V.in (j := nv) (shb hs)
        have st23 := X21.iaload hx (j := nv) (v := (.int (gr (nv).toNatClampNeg))) (by rw [e21]; exact Ar23.1) (State.isArrayOf_alike hZ.alike Ar23.2.1) Ar23.2.2 hin23 hat23 (g := (mkF m 94 #[.val (.ref o0), .val (.int p1), .val (.int mk), .val (.int iv), .val (.int nv)] [(.int nv), (.ref sa), (.int iv), (.ref sa)])) rfl rfl (hb hby d10_94)
        have pre23 : Lead p e below G (T21.setTop (mkF m 95 #[.val (.ref o0), .val (.int p1), .val (.int mk), .val (.int iv), .val (.int nv)] [(.int (gr (nv).toNatClampNeg)), (.int iv), (.ref sa)])) := fun t k => pre22 t (st23 _ k)
        obtain ⟨cl24, Ar24, hin24, -⟩ := P2_V.in (j := iv) (shi hs)
        obtain ⟨T24, h24, X24, e24, W24, st24⟩ := stI X21 hx hZ e21 Ar24 (j := iv) hin24 (g := (mkF m 95 #[.val (.ref o0), .val (.int p1), .val (.int mk), .val (.int iv), .val (.int nv)] [(.int (gr (nv).toNatClampNeg)), (.int iv), (.ref sa)])) rfl rfl (hb hby d10_95)
        have N24 := Fr.snoc X24 N14 Q0_G
        have K24 : Keep h0 h24 [sa] := K0.wr W24 (Or.inl (List.mem_of_getElem? (i := 0) rfl))
        obtain ⟨M24, Y24, N24⟩ : ∃ M, Stand p l e ({ frames := 1, cells := 0, slots := 0, locals := 16 } : Room) s m #[(.ref o0), (.int p1)] below meth c T24 M 0 0 ∧ Fr n0 M := ⟨_, X24, N24⟩
        have V24 : JV Value.int Z h24 sa .int nl (updF gr (iv).toNatClampNeg (gr (nv).toNatClampNeg)) := P2_V.set W24
        have pre24 : Lead p e below G (T24.setTop (mkF m 96 #[.val (.ref o0), .val (.int p1), .val (.int mk), .val (.int iv), .val (.int nv)] [])) := fun t k => pre23 t (st24 _ k)
        have pre25 : Lead p e below G (T24.setTop (mkF m 52 #[.val (.ref o0), .val (.int p1), .val (.int mk), .val (.int nv), .val (.int ((nv + (1 : Int32)) &&& mk))] [])) := fun t k => by
          refine pre24 t ?_
          show Steps p.tables e below (T24.setTop (mkF m 96 #[.val (.ref o0), .val (.int p1), .val (.int mk), .val (.int iv), .val (.int nv)] [])) _
          refine XS.iload Y24.here hx rfl (hb hby d10_96) rfl ?_
          refine XS.istoreN Y24.here hx rfl (hb hby d10_98) rfl (l' := #[.val (.ref o0), .val (.int p1), .val (.int mk), .val (.int nv), .val (.int nv)]) rfl ?_
          show Steps p.tables e below (T24.setTop (mkF m 99 #[.val (.ref o0), .val (.int p1), .val (.int mk), .val (.int nv), .val (.int nv)] [])) _
          refine XS.iload Y24.here hx rfl (hb hby d10_99) rfl ?_
          refine XS.iconst Y24.here hx rfl (hb hby d10_101) ?_
          refine XS.iadd Y24.here hx rfl (hb hby d10_102) rfl ?_
          show Steps p.tables e below (T24.setTop (mkF m 103 #[.val (.ref o0), .val (.int p1), .val (.int mk), .val (.int nv), .val (.int nv)] [(.int (nv + (1 : Int32)))])) _
          refine XS.iloadN Y24.here hx rfl (hb hby d10_103) rfl ?_
          refine XS.iand Y24.here hx rfl (hb hby d10_104) rfl ?_
          refine XS.istore Y24.here hx rfl (hb hby d10_105) rfl (l' := #[.val (.ref o0), .val (.int p1), .val (.int mk), .val (.int nv), .val (.int ((nv + (1 : Int32)) &&& mk))]) rfl ?_
          show Steps p.tables e below (T24.setTop (mkF m 107 #[.val (.ref o0), .val (.int p1), .val (.int mk), .val (.int nv), .val (.int ((nv + (1 : Int32)) &&& mk))] [])) _
          refine XS.goto Y24.here hx rfl (pc0 := 107) (pc' := 52) rfl (hb hby d10_107) (by decide) (by decide) ?_
          exact k
        have f26 : Exa Z h24 o0 "com/example/processionary/processionary/automata/IntSet" := (P0_E.wr W24)
        have f27 : Fld Z h24 o0 "com/example/processionary/processionary/automata/IntSet" "slots" "[I" (.ref sa) := (P1_F.other W24 (Or.inl Q1_NE))
        obtain ⟨iv_28, nv_28, gr_28, T28, M28, h28, q28_0, X28, e28, N28, K28, f28_0, f28_1, f28_2, ld28⟩ := ih (DS nl.toInt.toNat (FE ga nl.toInt.toNat) ((nv + (1 : Int32)) &&& mk).toInt.toNat) (hd ▸ (by subst hmk; skip; exact shd hl hs hs60_6)) nv ((nv + (1 : Int32)) &&& mk) (updF gr (iv).toNatClampNeg (gr (nv).toNatClampNeg)) _ _ _ (Nat.le_trans Z0 K24.1) rfl (show SH ga (updF gr (iv).toNatClampNeg (gr (nv).toNatClampNeg)) nl p1 nv ((nv + (1 : Int32)) &&& mk) from (by subst hmk; skip; exact sh2 hl hs hs60_6)) Y24 e24 N24 f26 f27 V24
        exact ⟨iv_28, nv_28, gr_28, T28, M28, h28, (show SH ga gr_28 nl p1 iv_28 nv_28 from q28_0), X28, e28, N28, K24.trans K28 (fun x hx => Or.inl hx), f28_0, f28_1, f28_2, fun t k => pre25 t (ld28 t k)⟩
theorem d10_0 : decode prog_12_method_5_code 0 = .ok (.aload_n 0, 1) := by decide +kernel
theorem d10_1 : decode prog_12_method_5_code 1 = .ok (.getfield 7, 3) := by decide +kernel
theorem d10_4 : decode prog_12_method_5_code 4 = .ok (.arraylength, 1) := by decide +kernel
theorem d10_5 : decode prog_12_method_5_code 5 = .ok (.iconst 1, 1) := by decide +kernel
theorem d10_6 : decode prog_12_method_5_code 6 = .ok (.isub, 1) := by decide +kernel
theorem d10_7 : decode prog_12_method_5_code 7 = .ok (.istore_n 2, 1) := by decide +kernel
theorem d10_8 : decode prog_12_method_5_code 8 = .ok (.iload_n 1, 1) := by decide +kernel
theorem d10_9 : decode prog_12_method_5_code 9 = .ok (.iload_n 2, 1) := by decide +kernel
theorem d10_10 : decode prog_12_method_5_code 10 = .ok (.invokestatic 23, 3) := by decide +kernel
theorem d10_13 : decode prog_12_method_5_code 13 = .ok (.istore_n 3, 1) := by decide +kernel
theorem d10_34 : decode prog_12_method_5_code 34 = .ok (.iconst 0, 1) := by decide +kernel
theorem d10_35 : decode prog_12_method_5_code 35 = .ok (.ireturn, 1) := by decide +kernel
theorem d10_45 : decode prog_12_method_5_code 45 = .ok (.iload_n 3, 1) := by decide +kernel
theorem d10_46 : decode prog_12_method_5_code 46 = .ok (.iconst 1, 1) := by decide +kernel
theorem d10_47 : decode prog_12_method_5_code 47 = .ok (.iadd, 1) := by decide +kernel
theorem d10_48 : decode prog_12_method_5_code 48 = .ok (.iload_n 2, 1) := by decide +kernel
theorem d10_49 : decode prog_12_method_5_code 49 = .ok (.iand, 1) := by decide +kernel
theorem d10_50 : decode prog_12_method_5_code 50 = .ok (.istore 4, 2) := by decide +kernel
theorem d10_110 : decode prog_12_method_5_code 110 = .ok (.aload_n 0, 1) := by decide +kernel
theorem d10_111 : decode prog_12_method_5_code 111 = .ok (.getfield 7, 3) := by decide +kernel
theorem d10_114 : decode prog_12_method_5_code 114 = .ok (.iload_n 3, 1) := by decide +kernel
theorem d10_115 : decode prog_12_method_5_code 115 = .ok (.iconst (-1), 1) := by decide +kernel
theorem d10_116 : decode prog_12_method_5_code 116 = .ok (.iastore, 1) := by decide +kernel
theorem d10_117 : decode prog_12_method_5_code 117 = .ok (.aload_n 0, 1) := by decide +kernel
theorem d10_118 : decode prog_12_method_5_code 118 = .ok (.dup, 1) := by decide +kernel
theorem d10_119 : decode prog_12_method_5_code 119 = .ok (.getfield 19, 3) := by decide +kernel
theorem d10_122 : decode prog_12_method_5_code 122 = .ok (.iconst 1, 1) := by decide +kernel
theorem d10_123 : decode prog_12_method_5_code 123 = .ok (.isub, 1) := by decide +kernel
theorem d10_124 : decode prog_12_method_5_code 124 = .ok (.putfield 19, 3) := by decide +kernel
theorem d10_127 : decode prog_12_method_5_code 127 = .ok (.aload_n 0, 1) := by decide +kernel
theorem d10_128 : decode prog_12_method_5_code 128 = .ok (.getfield 7, 3) := by decide +kernel
theorem d10_131 : decode prog_12_method_5_code 131 = .ok (.arraylength, 1) := by decide +kernel
theorem d10_132 : decode prog_12_method_5_code 132 = .ok (.iconst 4, 1) := by decide +kernel
theorem d10_133 : decode prog_12_method_5_code 133 = .ok (.if_icmp .le 29, 3) := by decide +kernel
theorem d10_136 : decode prog_12_method_5_code 136 = .ok (.bipush 8, 2) := by decide +kernel
theorem d10_138 : decode prog_12_method_5_code 138 = .ok (.aload_n 0, 1) := by decide +kernel
theorem d10_139 : decode prog_12_method_5_code 139 = .ok (.getfield 19, 3) := by decide +kernel
theorem d10_142 : decode prog_12_method_5_code 142 = .ok (.imul, 1) := by decide +kernel
theorem d10_143 : decode prog_12_method_5_code 143 = .ok (.aload_n 0, 1) := by decide +kernel
theorem d10_144 : decode prog_12_method_5_code 144 = .ok (.getfield 7, 3) := by decide +kernel
theorem d10_147 : decode prog_12_method_5_code 147 = .ok (.arraylength, 1) := by decide +kernel
theorem d10_148 : decode prog_12_method_5_code 148 = .ok (.if_icmp .ge 14, 3) := by decide +kernel
theorem d10_162 : decode prog_12_method_5_code 162 = .ok (.iconst 1, 1) := by decide +kernel
theorem d10_163 : decode prog_12_method_5_code 163 = .ok (.ireturn, 1) := by decide +kernel
theorem ef_10 (m : MethodId) (o0 : Addr) (p1 : Int32) : entryFrame m #[(.ref o0), (.int p1)] 5 = mkF m 0 #[.val (.ref o0), .val (.int p1), .unset, .unset, .unset] [] := by first | (simp [entryFrame, mkF, argsToLocals, Value.category]; done) | rfl
def Q10 (Z : State) (o0 : Addr) (p1 : Int32) (sa : Addr) (sn : Int32) (nl : Int32) (ga : Nat → Int32) (h0 : Heap) (n0 : Nat) (v : Option Value) (h : Heap) (L : List Loc) : Prop := ∃ g2 : Nat → Int32, ∃ n2 : Int32, ∃ rv : Int32, v = some (.int rv) ∧ Fr n0 L ∧ Keep h0 h [o0, sa] ∧ Exa Z h o0 "com/example/processionary/processionary/automata/IntSet" ∧ Fld Z h o0 "com/example/processionary/processionary/automata/IntSet" "slots" "[I" (.ref sa) ∧ Fld Z h o0 "com/example/processionary/processionary/automata/IntSet" "size" "I" (.int n2) ∧ JV Value.int Z h sa .int nl g2 ∧ (RRel ga nl sn p1 g2 n2)
set_option maxRecDepth 65536 in
set_option maxHeartbeats 40000000 in
theorem rm10 (l : Launch) (Z : State) (a0 : Array Value) (hw : ∀ d ∈ tables_1, d.before a0 Z = true) (ws : List Jvm.Cond) (o0 : Addr) (p1 : Int32) (sa : Addr) (sn : Int32) (nl : Int32) (ga : Nat → Int32) (h0 : Heap) (n0 : Nat) (Z0 : n0 ≤ h0.size) (P0_E : Exa Z h0 o0 "com/example/processionary/processionary/automata/IntSet") (P1_F : Fld Z h0 o0 "com/example/processionary/processionary/automata/IntSet" "slots" "[I" (.ref sa)) (P2_F : Fld Z h0 o0 "com/example/processionary/processionary/automata/IntSet" "size" "I" (.int sn)) (P3_V : JV Value.int Z h0 sa .int nl ga) (P4_G : n0 ≤ o0) (P5_G : n0 ≤ sa) (P6_NE : o0 ≠ sa) (hS : (IS ga nl sn)) (hn3 : (sn.toInt ≤ 3)) (hm : (¬ p1 = (-1 : Int32))) :
    MetFree l (⟨"com/example/processionary/processionary/automata/IntSet", "remove", "(I)Z"⟩ : MethodName) (head1 (Jvm.Cond.code (⟨"com/example/processionary/processionary/automata/IntSet", "remove", "(I)Z"⟩ : MethodName) prog_12_method_5_code 5 (some .boolean) :: ws) ({ frames := 1, cells := 0, slots := 0, locals := 16 } : Room)) (fun a U => a = #[(.ref o0), (.int p1)] ∧ Z.Warmed39 U.vm ∧ U.heap = h0) (fun _ _ _ _ _ => True) (fun _ U o U' => ∃ v L, o = .returned v ∧ Q10 Z o0 p1 sa sn nl ga h0 n0 v U'.heap L ∧ FrameEnd U o U' L ({ frames := 1, cells := 0, slots := 0, locals := 16 } : Room).cells ({ frames := 1, cells := 0, slots := 0, locals := 16 } : Room).slots) := by
  refine MetFree.of_bodySF (plainFor_of_name pn_com_example_processionary_processionary_automata_IntSet) hisR ?_
  intro p e s m args below meth c s₁ Bd hml0 hP hK
  obtain ⟨rfl, hZ, hh⟩ := hP
  have hx := Bd.exec
  have hby := Bd.bytes
  have hml : c.maxLocals = 5 := hml0
  have hown : s.vm.findClass "com/example/processionary/processionary/automata/IntSet" = some m.cls := findClass_of_methodNamed Bd.named
  have hnm := (name_of_methodNamed Bd.named Bd.method).1
  have X0 : Stand p l e ({ frames := 1, cells := 0, slots := 0, locals := 16 } : Room) s m #[(.ref o0), (.int p1)] below meth c s₁ [] 0 0 := Stand.of_body Bd
  have e0 : s₁.heap = h0 := by rw [← hh, Bd.state]; rfl
  have N0 := Fr.nil n0
  have K0 : Keep h0 h0 [o0, sa] := Keep.refl _ _
  obtain ⟨G, hG⟩ : ∃ z, z = s₁.setTop (entryFrame m #[(.ref o0), (.int p1)] 5) := ⟨_, rfl⟩
  have pre0 : Lead p e below G (s₁.setTop (mkF m 0 #[.val (.ref o0), .val (.int p1), .unset, .unset, .unset] [])) := fun t k => by rw [hG]; exact castTop (ef_10 m o0 p1) k
  have pre1 : Lead p e below G (s₁.setTop (mkF m 1 #[.val (.ref o0), .val (.int p1), .unset, .unset, .unset] [(.ref o0)])) := fun t k => by
    refine pre0 t ?_
    show Steps p.tables e below (s₁.setTop (mkF m 0 #[.val (.ref o0), .val (.int p1), .unset, .unset, .unset] [])) _
    refine XS.aloadN X0.here hx rfl (hb hby d10_0) rfl rfl ?_
    exact k
  obtain ⟨T2, X2, e2, st2⟩ := getF X0 hx hZ hown (host := "") (Or.inl (hw _ (List.mem_of_getElem? (i := 15) rfl))) Via.refl e0 P1_F (g := (mkF m 1 #[.val (.ref o0), .val (.int p1), .unset, .unset, .unset] [(.ref o0)])) rfl rfl (hb hby d10_1)
  have pre2 : Lead p e below G (T2.setTop (mkF m 4 #[.val (.ref o0), .val (.int p1), .unset, .unset, .unset] [(.ref sa)])) := fun t k => pre1 t (st2 _ k)
  obtain ⟨cl3, Ar3, len3⟩ := P3_V.len
  have st3 := X2.arraylength hx (by rw [e2]; exact Ar3.1) (State.isArrayOf_alike hZ.alike Ar3.2.1) (g := (mkF m 4 #[.val (.ref o0), .val (.int p1), .unset, .unset, .unset] [(.ref sa)])) rfl rfl (hb hby d10_4)
  rw [len3] at st3
  have pre3 : Lead p e below G (T2.setTop (mkF m 5 #[.val (.ref o0), .val (.int p1), .unset, .unset, .unset] [(.int nl)])) := fun t k => pre2 t (st3 _ k)
  have pre4 : Lead p e below G (T2.setTop (mkF m 10 #[.val (.ref o0), .val (.int p1), .val (.int (nl - (1 : Int32))), .unset, .unset] [(.int (nl - (1 : Int32))), (.int p1)])) := fun t k => by
    refine pre3 t ?_
    show Steps p.tables e below (T2.setTop (mkF m 5 #[.val (.ref o0), .val (.int p1), .unset, .unset, .unset] [(.int nl)])) _
    refine XS.iconst X2.here hx rfl (hb hby d10_5) ?_
    show Steps p.tables e below (T2.setTop (mkF m 6 #[.val (.ref o0), .val (.int p1), .unset, .unset, .unset] [(.int (1 : Int32)), (.int nl)])) _
    refine XS.isub X2.here hx rfl (hb hby d10_6) rfl ?_
    refine XS.istoreN X2.here hx rfl (hb hby d10_7) rfl (l' := #[.val (.ref o0), .val (.int p1), .val (.int (nl - (1 : Int32))), .unset, .unset]) rfl ?_
    refine XS.iloadN X2.here hx rfl (hb hby d10_8) rfl ?_
    show Steps p.tables e below (T2.setTop (mkF m 9 #[.val (.ref o0), .val (.int p1), .val (.int (nl - (1 : Int32))), .unset, .unset] [(.int p1)])) _
    refine XS.iloadN X2.here hx rfl (hb hby d10_9) rfl ?_
    exact k
  obtain ⟨_, _, ⟨T5, L5, k5, n5⟩, -, X5, ⟨Lc5, hQ5, l5, y5, z5⟩, st5⟩ := Jvm.LawKit.callS X2 hx (y := (⟨"com/example/processionary/processionary/automata/IntSet", "slot", "(II)I"⟩ : MethodName)) hown (mvT hZ (hw _ (List.mem_of_getElem? (i := 28) rfl))) (mvT hZ (hw _ (List.mem_of_getElem? (i := 29) rfl))) (mvT hZ (hw _ (List.mem_of_getElem? (i := 7) rfl))) (mvT hZ (hw _ (List.mem_of_getElem? (i := 30) rfl))) (by decide) (backOf (W := 0) (rm6 l Z a0 hw [] p1 (nl - (1 : Int32))  h0 n0 (Nat.le_trans Z0 K0.1) ) hZ (hw _ (List.mem_of_getElem? (i := 30) rfl)) (hw _ (List.mem_of_getElem? (i := 7) rfl)) (by decide) (by decide)) (g := (mkF m 10 #[.val (.ref o0), .val (.int p1), .val (.int (nl - (1 : Int32))), .unset, .unset] [(.int (nl - (1 : Int32))), (.int p1)])) rfl (by rw [hml]; rfl) (argsL := [(.int p1), (.int (nl - (1 : Int32)))]) (rest := []) (lenOf pd__28_II_29_I rfl) rfl (by show 2 * 0 + _ ≤ _; exact Nat.le_of_eq rfl) (hb hby d10_10) (fun _ _ => ⟨rfl, e2, (by decide : 0 + 0 ≤ _), (by decide : 0 + 0 ≤ _)⟩)
  dsimp only [Pt.U, Pt.locs, Pt.cells, Pt.slots] at X5 l5 y5 z5 st5 hQ5
  subst l5 y5 z5
  obtain ⟨rfl, N5q, e5⟩ := hQ5
  have N5 := Fr.app N0 N5q
  obtain ⟨M5, Y5, N5⟩ : ∃ M, Stand p l e ({ frames := 1, cells := 0, slots := 0, locals := 16 } : Room) s m #[(.ref o0), (.int p1)] below meth c T5 M 0 0 ∧ Fr n0 M := ⟨_, X5, N5⟩
  have pre5 : Lead p e below G (T5.setTop (mkF m 13 #[.val (.ref o0), .val (.int p1), .val (.int (nl - (1 : Int32))), .unset, .unset] [(.int (F6 p1 (nl - (1 : Int32))))])) := fun t k => pre4 t (st5 _ k)
  have pre6 : Lead p e below G (T5.setTop (mkF m 14 #[.val (.ref o0), .val (.int p1), .val (.int (nl - (1 : Int32))), .val (.int (F6 p1 (nl - (1 : Int32)))), .unset] [])) := fun t k => by
    refine pre5 t ?_
    show Steps p.tables e below (T5.setTop (mkF m 13 #[.val (.ref o0), .val (.int p1), .val (.int (nl - (1 : Int32))), .unset, .unset] [(.int (F6 p1 (nl - (1 : Int32))))])) _
    refine XS.istoreN Y5.here hx rfl (hb hby d10_13) rfl (l' := #[.val (.ref o0), .val (.int p1), .val (.int (nl - (1 : Int32))), .val (.int (F6 p1 (nl - (1 : Int32)))), .unset]) rfl ?_
    exact k
  rcases lp10_14 l Z a0 hw o0 p1 sa sn nl ga (nl - (1 : Int32)) n0 hx hZ hby hml hown (show L48 nl from (IS.l48 hS)) (show (nl - (1 : Int32)) = (nl - (1 : Int32)) from (by skip; exact rfl)) (show (TL ga nl.toInt.toNat).length < nl.toInt.toNat from (IS.lt hS hn3)) _ (F6 p1 (nl - (1 : Int32))) _ _ _ (Nat.le_trans Z0 K0.1) rfl (show VT ga nl p1 (F6 p1 (nl - (1 : Int32))) from (by skip; exact vt0 (IS.l48 hS) _ _)) (show VM ga nl p1 (F6 p1 (nl - (1 : Int32))) from (by skip; exact vm0 (IS.l48 hS) _ _)) Y5 e5 N5 P0_E P1_F P3_V with ⟨iv_7, T7, M7, h7, q7_0, q7_1, Y7, e7, N7, K7c, f7_0, f7_1, f7_2, ld7⟩ | ⟨iv_7, T7, M7, h7, q7_0, q7_1, q7_2, Y7, e7, N7, K7c, f7_0, f7_1, f7_2, ld7⟩
  · have K7 : Keep h0 h7 [o0, sa] := K0.trans K7c all0
    have pre7_45 : Lead p e below G (T7.setTop (mkF m 45 #[.val (.ref o0), .val (.int p1), .val (.int (nl - (1 : Int32))), .val (.int iv_7), .unset] [])) := fun t k => pre6 t (ld7 t k)
    have pre8 : Lead p e below G (T7.setTop (mkF m 52 #[.val (.ref o0), .val (.int p1), .val (.int (nl - (1 : Int32))), .val (.int iv_7), .val (.int ((iv_7 + (1 : Int32)) &&& (nl - (1 : Int32))))] [])) := fun t k => by
      refine pre7_45 t ?_
      show Steps p.tables e below (T7.setTop (mkF m 45 #[.val (.ref o0), .val (.int p1), .val (.int (nl - (1 : Int32))), .val (.int iv_7), .unset] [])) _
      refine XS.iloadN Y7.here hx rfl (hb hby d10_45) rfl ?_
      show Steps p.tables e below (T7.setTop (mkF m 46 #[.val (.ref o0), .val (.int p1), .val (.int (nl - (1 : Int32))), .val (.int iv_7), .unset] [(.int iv_7)])) _
      refine XS.iconst Y7.here hx rfl (hb hby d10_46) ?_
      refine XS.iadd Y7.here hx rfl (hb hby d10_47) rfl ?_
      refine XS.iloadN Y7.here hx rfl (hb hby d10_48) rfl ?_
      show Steps p.tables e below (T7.setTop (mkF m 49 #[.val (.ref o0), .val (.int p1), .val (.int (nl - (1 : Int32))), .val (.int iv_7), .unset] [(.int (nl - (1 : Int32))), (.int (iv_7 + (1 : Int32)))])) _
      refine XS.iand Y7.here hx rfl (hb hby d10_49) rfl ?_
      refine XS.istore Y7.here hx rfl (hb hby d10_50) rfl (l' := #[.val (.ref o0), .val (.int p1), .val (.int (nl - (1 : Int32))), .val (.int iv_7), .val (.int ((iv_7 + (1 : Int32)) &&& (nl - (1 : Int32))))]) rfl ?_
      exact k
    obtain ⟨iv_9, nv_9, gr_9, T9, M9, h9, q9_0, Y9, e9, N9, K9c, f9_0, f9_1, f9_2, ld9⟩ := lp10_52 l Z a0 hw o0 p1 sa sn nl ga (nl - (1 : Int32)) n0 hx hZ hby hml hown P5_G P6_NE (show L48 nl from (IS.l48 hS)) (show (nl - (1 : Int32)) = (nl - (1 : Int32)) from (by skip; exact rfl)) _ iv_7 ((iv_7 + (1 : Int32)) &&& (nl - (1 : Int32))) ga _ _ _ (Nat.le_trans Z0 K7.1) rfl (show SH ga ga nl p1 iv_7 ((iv_7 + (1 : Int32)) &&& (nl - (1 : Int32))) from (by skip; exact sh0 (IS.l48 hS) q7_1 q7_0 hm (IS.lt hS hn3))) Y7 e7 N7 f7_0 f7_1 f7_2
    have K9 : Keep h0 h9 [o0, sa] := K7.trans K9c (allS (Or.inl (List.mem_of_getElem? (i := 1) rfl)) all0)
    have pre9_110 : Lead p e below G (T9.setTop (mkF m 110 #[.val (.ref o0), .val (.int p1), .val (.int (nl - (1 : Int32))), .val (.int iv_9), .val (.int nv_9)] [])) := fun t k => pre8 t (ld9 t k)
    have pre10 : Lead p e below G (T9.setTop (mkF m 111 #[.val (.ref o0), .val (.int p1), .val (.int (nl - (1 : Int32))), .val (.int iv_9), .val (.int nv_9)] [(.ref o0)])) := fun t k => by
      refine pre9_110 t ?_
      show Steps p.tables e below (T9.setTop (mkF m 110 #[.val (.ref o0), .val (.int p1), .val (.int (nl - (1 : Int32))), .val (.int iv_9), .val (.int nv_9)] [])) _
      refine XS.aloadN Y9.here hx rfl (hb hby d10_110) rfl rfl ?_
      show Steps p.tables e below (T9.setTop (mkF m 111 #[.val (.ref o0), .val (.int p1), .val (.int (nl - (1 : Int32))), .val (.int iv_9), .val (.int nv_9)] [(.ref o0)])) _
      exact k
    obtain ⟨T11, X11, e11, st11⟩ := getF Y9 hx hZ hown (host := "") (Or.inl (hw _ (List.mem_of_getElem? (i := 15) rfl))) Via.refl e9 f9_1 (g := (mkF m 111 #[.val (.ref o0), .val (.int p1), .val (.int (nl - (1 : Int32))), .val (.int iv_9), .val (.int nv_9)] [(.ref o0)])) rfl rfl (hb hby d10_111)
    have pre11 : Lead p e below G (T11.setTop (mkF m 114 #[.val (.ref o0), .val (.int p1), .val (.int (nl - (1 : Int32))), .val (.int iv_9), .val (.int nv_9)] [(.ref sa)])) := fun t k => pre10 t (st11 _ k)
    have pre12 : Lead p e below G (T11.setTop (mkF m 116 #[.val (.ref o0), .val (.int p1), .val (.int (nl - (1 : Int32))), .val (.int iv_9), .val (.int nv_9)] [(.int (-1 : Int32)), (.int iv_9), (.ref sa)])) := fun t k => by
      refine pre11 t ?_
      show Steps p.tables e below (T11.setTop (mkF m 114 #[.val (.ref o0), .val (.int p1), .val (.int (nl - (1 : Int32))), .val (.int iv_9), .val (.int nv_9)] [(.ref sa)])) _
      refine XS.iloadN X11.here hx rfl (hb hby d10_114) rfl ?_
      refine XS.iconst X11.here hx rfl (hb hby d10_115) ?_
      exact k
    obtain ⟨cl13, Ar13, hin13, -⟩ := f9_2.in (j := iv_9) (shi q9_0)
    obtain ⟨T13, h13, X13, e13, W13, st13⟩ := stI X11 hx hZ e11 Ar13 (j := iv_9) hin13 (g := (mkF m 116 #[.val (.ref o0), .val (.int p1), .val (.int (nl - (1 : Int32))), .val (.int iv_9), .val (.int nv_9)] [(.int (-1 : Int32)), (.int iv_9), (.ref sa)])) rfl rfl (hb hby d10_116)
    have N13 := Fr.snoc X13 N9 P5_G
    have K13 : Keep h0 h13 [o0, sa] := K9.wr W13 (Or.inl (List.mem_of_getElem? (i := 1) rfl))
    obtain ⟨M13, Y13, N13⟩ : ∃ M, Stand p l e ({ frames := 1, cells := 0, slots := 0, locals := 16 } : Room) s m #[(.ref o0), (.int p1)] below meth c T13 M 0 0 ∧ Fr n0 M := ⟨_, X13, N13⟩
    have V13 : JV Value.int Z h13 sa .int nl (updF gr_9 (iv_9).toNatClampNeg (-1 : Int32)) := f9_2.set W13
    have pre13 : Lead p e below G (T13.setTop (mkF m 117 #[.val (.ref o0), .val (.int p1), .val (.int (nl - (1 : Int32))), .val (.int iv_9), .val (.int nv_9)] [])) := fun t k => pre12 t (st13 _ k)
    have pre14 : Lead p e below G (T13.setTop (mkF m 119 #[.val (.ref o0), .val (.int p1), .val (.int (nl - (1 : Int32))), .val (.int iv_9), .val (.int nv_9)] [(.ref o0), (.ref o0)])) := fun t k => by
      refine pre13 t ?_
      show Steps p.tables e below (T13.setTop (mkF m 117 #[.val (.ref o0), .val (.int p1), .val (.int (nl - (1 : Int32))), .val (.int iv_9), .val (.int nv_9)] [])) _
      refine XS.aloadN Y13.here hx rfl (hb hby d10_117) rfl rfl ?_
      show Steps p.tables e below (T13.setTop (mkF m 118 #[.val (.ref o0), .val (.int p1), .val (.int (nl - (1 : Int32))), .val (.int iv_9), .val (.int nv_9)] [(.ref o0)])) _
      refine XS.dup Y13.here hx rfl (hb hby d10_118) rfl rfl ?_
      exact k
    have f16 : Fld Z h13 o0 "com/example/processionary/processionary/automata/IntSet" "size" "I" (.int sn) := (((P2_F.keep K7c nin0).keep K9c (ninS P6_NE nin0)).other W13 (Or.inl P6_NE))
    obtain ⟨T15, X15, e15, st15⟩ := getF Y13 hx hZ hown (host := "") (Or.inl (hw _ (List.mem_of_getElem? (i := 26) rfl))) Via.refl e13 f16 (g := (mkF m 119 #[.val (.ref o0), .val (.int p1), .val (.int (nl - (1 : Int32))), .val (.int iv_9), .val (.int nv_9)] [(.ref o0), (.ref o0)])) rfl rfl (hb hby d10_119)
    have pre15 : Lead p e below G (T15.setTop (mkF m 122 #[.val (.ref o0), .val (.int p1), .val (.int (nl - (1 : Int32))), .val (.int iv_9), .val (.int nv_9)] [(.int sn), (.ref o0)])) := fun t k => pre14 t (st15 _ k)
    have pre17 : Lead p e below G (T15.setTop (mkF m 124 #[.val (.ref o0), .val (.int p1), .val (.int (nl - (1 : Int32))), .val (.int iv_9), .val (.int nv_9)] [(.int (sn - (1 : Int32))), (.ref o0)])) := fun t k => by
      refine pre15 t ?_
      show Steps p.tables e below (T15.setTop (mkF m 122 #[.val (.ref o0), .val (.int p1), .val (.int (nl - (1 : Int32))), .val (.int iv_9), .val (.int nv_9)] [(.int sn), (.ref o0)])) _
      refine XS.iconst X15.here hx rfl (hb hby d10_122) ?_
      refine XS.isub X15.here hx rfl (hb hby d10_123) rfl ?_
      show Steps p.tables e below (T15.setTop (mkF m 124 #[.val (.ref o0), .val (.int p1), .val (.int (nl - (1 : Int32))), .val (.int iv_9), .val (.int nv_9)] [(.int (sn - (1 : Int32))), (.ref o0)])) _
      exact k
    have f19 : Exa Z h13 o0 "com/example/processionary/processionary/automata/IntSet" := (f9_0.wr W13)
    obtain ⟨T18, h18, X18, e18, W18, st18⟩ := putF X15 hx hZ hown (host := "") (Or.inl (hw _ (List.mem_of_getElem? (i := 26) rfl))) Via.refl e15 f16 f19 (Or.inl (hw _ (List.mem_of_getElem? (i := 27) rfl))) (hw _ (List.mem_of_getElem? (i := 6) rfl)) (ty := .int) (by decide) rfl rfl (g := (mkF m 124 #[.val (.ref o0), .val (.int p1), .val (.int (nl - (1 : Int32))), .val (.int iv_9), .val (.int nv_9)] [(.int (sn - (1 : Int32))), (.ref o0)])) rfl rfl (hb hby d10_124)
    have N18 := Fr.snoc X18 N13 P4_G
    have K18 : Keep h0 h18 [o0, sa] := K13.wr W18 (Or.inl (List.mem_of_getElem? (i := 0) rfl))
    obtain ⟨M18, Y18, N18⟩ : ∃ M, Stand p l e ({ frames := 1, cells := 0, slots := 0, locals := 16 } : Room) s m #[(.ref o0), (.int p1)] below meth c T18 M 0 0 ∧ Fr n0 M := ⟨_, X18, N18⟩
    have Fw18 : Fld Z h18 o0 "com/example/processionary/processionary/automata/IntSet" "size" "I" (.int (sn - (1 : Int32))) := f16.same W18
    have pre18 : Lead p e below G (T18.setTop (mkF m 127 #[.val (.ref o0), .val (.int p1), .val (.int (nl - (1 : Int32))), .val (.int iv_9), .val (.int nv_9)] [])) := fun t k => pre17 t (st18 _ k)
    have pre20 : Lead p e below G (T18.setTop (mkF m 128 #[.val (.ref o0), .val (.int p1), .val (.int (nl - (1 : Int32))), .val (.int iv_9), .val (.int nv_9)] [(.ref o0)])) := fun t k => by
      refine pre18 t ?_
      show Steps p.tables e below (T18.setTop (mkF m 127 #[.val (.ref o0), .val (.int p1), .val (.int (nl - (1 : Int32))), .val (.int iv_9), .val (.int nv_9)] [])) _
      refine XS.aloadN Y18.here hx rfl (hb hby d10_127) rfl rfl ?_
      exact k
    have f22 : Fld Z h18 o0 "com/example/processionary/processionary/automata/IntSet" "slots" "[I" (.ref sa) := ((f9_1.other W13 (Or.inl P6_NE)).other W18 (Or.inr (slot_ne (Or.inl (hw _ (List.mem_of_getElem? (i := 16) rfl))) (Or.inl (hw _ (List.mem_of_getElem? (i := 27) rfl))) (by decide) (t := (.array .int)) (t' := .int) (by decide) (by decide))))
    obtain ⟨T21, X21, e21, st21⟩ := getF Y18 hx hZ hown (host := "") (Or.inl (hw _ (List.mem_of_getElem? (i := 15) rfl))) Via.refl e18 f22 (g := (mkF m 128 #[.val (.ref o0), .val (.int p1), .val (.int (nl - (1 : Int32))), .val (.int iv_9), .val (.int nv_9)] [(.ref o0)])) rfl rfl (hb hby d10_128)
    have pre21 : Lead p e below G (T21.setTop (mkF m 131 #[.val (.ref o0), .val (.int p1), .val (.int (nl - (1 : Int32))), .val (.int iv_9), .val (.int nv_9)] [(.ref sa)])) := fun t k => pre20 t (st21 _ k)
    have f24 : JV Value.int Z h18 sa .int nl (updF gr_9 (iv_9).toNatClampNeg (-1 : Int32)) := (V13.other W18 (Ne.symm P6_NE))
    obtain ⟨cl23, Ar23, len23⟩ := f24.len
    have st23 := X21.arraylength hx (by rw [e21]; exact Ar23.1) (State.isArrayOf_alike hZ.alike Ar23.2.1) (g := (mkF m 131 #[.val (.ref o0), .val (.int p1), .val (.int (nl - (1 : Int32))), .val (.int iv_9), .val (.int nv_9)] [(.ref sa)])) rfl rfl (hb hby d10_131)
    rw [len23] at st23
    have pre23 : Lead p e below G (T21.setTop (mkF m 132 #[.val (.ref o0), .val (.int p1), .val (.int (nl - (1 : Int32))), .val (.int iv_9), .val (.int nv_9)] [(.int nl)])) := fun t k => pre21 t (st23 _ k)
    have pre25 : Lead p e below G (T21.setTop (mkF m 133 #[.val (.ref o0), .val (.int p1), .val (.int (nl - (1 : Int32))), .val (.int iv_9), .val (.int nv_9)] [(.int (4 : Int32)), (.int nl)])) := fun t k => by
      refine pre23 t ?_
      show Steps p.tables e below (T21.setTop (mkF m 132 #[.val (.ref o0), .val (.int p1), .val (.int (nl - (1 : Int32))), .val (.int iv_9), .val (.int nv_9)] [(.int nl)])) _
      refine XS.iconst X21.here hx rfl (hb hby d10_132) ?_
      exact k
    by_cases hs133_26 : (4 : Int32) < nl
    · have pre27 : Lead p e below G (T21.setTop (mkF m 139 #[.val (.ref o0), .val (.int p1), .val (.int (nl - (1 : Int32))), .val (.int iv_9), .val (.int nv_9)] [(.ref o0), (.int (8 : Int32))])) := fun t k => by
        refine pre25 t ?_
        show Steps p.tables e below (T21.setTop (mkF m 133 #[.val (.ref o0), .val (.int p1), .val (.int (nl - (1 : Int32))), .val (.int iv_9), .val (.int nv_9)] [(.int (4 : Int32)), (.int nl)])) _
        refine XS.icmpNo X21.here hx rfl (hb hby d10_133) rfl (tlt hs133_26).2.2.2 ?_
        show Steps p.tables e below (T21.setTop (mkF m 136 #[.val (.ref o0), .val (.int p1), .val (.int (nl - (1 : Int32))), .val (.int iv_9), .val (.int nv_9)] [])) _
        refine XS.bipush X21.here hx rfl (hb hby d10_136) ?_
        refine XS.aloadN X21.here hx rfl (hb hby d10_138) rfl rfl ?_
        exact k
      obtain ⟨T28, X28, e28, st28⟩ := getF X21 hx hZ hown (host := "") (Or.inl (hw _ (List.mem_of_getElem? (i := 26) rfl))) Via.refl e21 Fw18 (g := (mkF m 139 #[.val (.ref o0), .val (.int p1), .val (.int (nl - (1 : Int32))), .val (.int iv_9), .val (.int nv_9)] [(.ref o0), (.int (8 : Int32))])) rfl rfl (hb hby d10_139)
      have pre28 : Lead p e below G (T28.setTop (mkF m 142 #[.val (.ref o0), .val (.int p1), .val (.int (nl - (1 : Int32))), .val (.int iv_9), .val (.int nv_9)] [(.int (sn - (1 : Int32))), (.int (8 : Int32))])) := fun t k => pre27 t (st28 _ k)
      have pre29 : Lead p e below G (T28.setTop (mkF m 144 #[.val (.ref o0), .val (.int p1), .val (.int (nl - (1 : Int32))), .val (.int iv_9), .val (.int nv_9)] [(.ref o0), (.int ((8 : Int32) * (sn - (1 : Int32))))])) := fun t k => by
        refine pre28 t ?_
        show Steps p.tables e below (T28.setTop (mkF m 142 #[.val (.ref o0), .val (.int p1), .val (.int (nl - (1 : Int32))), .val (.int iv_9), .val (.int nv_9)] [(.int (sn - (1 : Int32))), (.int (8 : Int32))])) _
        refine XS.imul X28.here hx rfl (hb hby d10_142) rfl ?_
        show Steps p.tables e below (T28.setTop (mkF m 143 #[.val (.ref o0), .val (.int p1), .val (.int (nl - (1 : Int32))), .val (.int iv_9), .val (.int nv_9)] [(.int ((8 : Int32) * (sn - (1 : Int32))))])) _
        refine XS.aloadN X28.here hx rfl (hb hby d10_143) rfl rfl ?_
        exact k
      obtain ⟨T30, X30, e30, st30⟩ := getF X28 hx hZ hown (host := "") (Or.inl (hw _ (List.mem_of_getElem? (i := 15) rfl))) Via.refl e28 f22 (g := (mkF m 144 #[.val (.ref o0), .val (.int p1), .val (.int (nl - (1 : Int32))), .val (.int iv_9), .val (.int nv_9)] [(.ref o0), (.int ((8 : Int32) * (sn - (1 : Int32))))])) rfl rfl (hb hby d10_144)
      have pre30 : Lead p e below G (T30.setTop (mkF m 147 #[.val (.ref o0), .val (.int p1), .val (.int (nl - (1 : Int32))), .val (.int iv_9), .val (.int nv_9)] [(.ref sa), (.int ((8 : Int32) * (sn - (1 : Int32))))])) := fun t k => pre29 t (st30 _ k)
      obtain ⟨cl31, Ar31, len31⟩ := f24.len
      have st31 := X30.arraylength hx (by rw [e30]; exact Ar31.1) (State.isArrayOf_alike hZ.alike Ar31.2.1) (g := (mkF m 147 #[.val (.ref o0), .val (.int p1), .val (.int (nl - (1 : Int32))), .val (.int iv_9), .val (.int nv_9)] [(.ref sa), (.int ((8 : Int32) * (sn - (1 : Int32))))])) rfl rfl (hb hby d10_147)
      rw [len31] at st31
      have pre31 : Lead p e below G (T30.setTop (mkF m 148 #[.val (.ref o0), .val (.int p1), .val (.int (nl - (1 : Int32))), .val (.int iv_9), .val (.int nv_9)] [(.int nl), (.int ((8 : Int32) * (sn - (1 : Int32))))])) := fun t k => pre30 t (st31 _ k)
      have hf32 : ¬ (((8 : Int32) * (sn - (1 : Int32))) < nl) := (own_no8 hS hn3 hs133_26)
      obtain ⟨fs, hr, hrun, hended, hW, hsame⟩ := X30.leave (v := some (.int (nar .boolean (1 : Int32)))) (fun h => by rw [Bd.returns] at h; cases h)
      have preF : Lead p e below (s₁.setTop (entryFrame m #[(.ref o0), (.int p1)] 5)) (T30.setTop (mkF m 148 #[.val (.ref o0), .val (.int p1), .val (.int (nl - (1 : Int32))), .val (.int iv_9), .val (.int nv_9)] [(.int nl), (.int ((8 : Int32) * (sn - (1 : Int32))))])) := by rw [← hG]; exact pre31
      refine ⟨_, _, preF _ ?_, hrun, hended, _, _, rfl, ?_, ⟨_, rfl⟩, hW, hsame.mono (by decide) (by decide)⟩
      · show Steps p.tables e below (T30.setTop (mkF m 148 #[.val (.ref o0), .val (.int p1), .val (.int (nl - (1 : Int32))), .val (.int iv_9), .val (.int nv_9)] [(.int nl), (.int ((8 : Int32) * (sn - (1 : Int32))))])) _
        refine XS.icmpYes X30.here hx rfl (pc0 := 148) (pc' := 162) rfl (hb hby d10_148) rfl (flt hf32).2.1 (by decide) (by decide) ?_
        refine XS.iconst X30.here hx rfl (hb hby d10_162) ?_
        show Steps p.tables e below (T30.setTop (mkF m 163 #[.val (.ref o0), .val (.int p1), .val (.int (nl - (1 : Int32))), .val (.int iv_9), .val (.int nv_9)] [(.int (1 : Int32))])) _
        exact retN X30 hx (t := .boolean) Bd.returns (by simp) (hb hby d10_163) hr
      · show Q10 Z o0 p1 sa sn nl ga h0 n0 _ T30.heap _
        rw [e30]
        have f33 : Exa Z h18 o0 "com/example/processionary/processionary/automata/IntSet" := (f19.wr W18)
        exact ⟨(updF gr_9 (iv_9).toNatClampNeg (-1 : Int32)), (sn - (1 : Int32)), (1 : Int32), congrArg (fun z => some (Value.int z)) (show (nar .boolean (1 : Int32)) = (1 : Int32) from rfl), N18, K18, f33, f22, Fw18, f24, (by skip; exact (own_rr1 hS hn3 q9_0))⟩
    · obtain ⟨fs, hr, hrun, hended, hW, hsame⟩ := X21.leave (v := some (.int (nar .boolean (1 : Int32)))) (fun h => by rw [Bd.returns] at h; cases h)
      have preF : Lead p e below (s₁.setTop (entryFrame m #[(.ref o0), (.int p1)] 5)) (T21.setTop (mkF m 133 #[.val (.ref o0), .val (.int p1), .val (.int (nl - (1 : Int32))), .val (.int iv_9), .val (.int nv_9)] [(.int (4 : Int32)), (.int nl)])) := by rw [← hG]; exact pre25
      refine ⟨_, _, preF _ ?_, hrun, hended, _, _, rfl, ?_, ⟨_, rfl⟩, hW, hsame.mono (by decide) (by decide)⟩
      · show Steps p.tables e below (T21.setTop (mkF m 133 #[.val (.ref o0), .val (.int p1), .val (.int (nl - (1 : Int32))), .val (.int iv_9), .val (.int nv_9)] [(.int (4 : Int32)), (.int nl)])) _
        refine XS.icmpYes X21.here hx rfl (pc0 := 133) (pc' := 162) rfl (hb hby d10_133) rfl (flt hs133_26).2.2.2 (by decide) (by decide) ?_
        refine XS.iconst X21.here hx rfl (hb hby d10_162) ?_
        exact retN X21 hx (t := .boolean) Bd.returns (by simp) (hb hby d10_163) hr
      · show Q10 Z o0 p1 sa sn nl ga h0 n0 _ T21.heap _
        rw [e21]
        have f34 : Exa Z h18 o0 "com/example/processionary/processionary/automata/IntSet" := (f19.wr W18)
        exact ⟨(updF gr_9 (iv_9).toNatClampNeg (-1 : Int32)), (sn - (1 : Int32)), (1 : Int32), congrArg (fun z => some (Value.int z)) (show (nar .boolean (1 : Int32)) = (1 : Int32) from rfl), N18, K18, f34, f22, Fw18, f24, (by skip; exact (own_rr1 hS hn3 q9_0))⟩
  · have K7 : Keep h0 h7 [o0, sa] := K0.trans K7c all0
    have pre7_34 : Lead p e below G (T7.setTop (mkF m 34 #[.val (.ref o0), .val (.int p1), .val (.int (nl - (1 : Int32))), .val (.int iv_7), .unset] [])) := fun t k => pre6 t (ld7 t k)
    obtain ⟨fs, hr, hrun, hended, hW, hsame⟩ := Y7.leave (v := some (.int (nar .boolean (0 : Int32)))) (fun h => by rw [Bd.returns] at h; cases h)
    have preF : Lead p e below (s₁.setTop (entryFrame m #[(.ref o0), (.int p1)] 5)) (T7.setTop (mkF m 34 #[.val (.ref o0), .val (.int p1), .val (.int (nl - (1 : Int32))), .val (.int iv_7), .unset] [])) := by rw [← hG]; exact pre7_34
    refine ⟨_, _, preF _ ?_, hrun, hended, _, _, rfl, ?_, ⟨_, rfl⟩, hW, hsame.mono (by decide) (by decide)⟩
    · show Steps p.tables e below (T7.setTop (mkF m 34 #[.val (.ref o0), .val (.int p1), .val (.int (nl - (1 : Int32))), .val (.int iv_7), .unset] [])) _
      refine XS.iconst Y7.here hx rfl (hb hby d10_34) ?_
      show Steps p.tables e below (T7.setTop (mkF m 35 #[.val (.ref o0), .val (.int p1), .val (.int (nl - (1 : Int32))), .val (.int iv_7), .unset] [(.int (0 : Int32))])) _
      exact retN Y7 hx (t := .boolean) Bd.returns (by simp) (hb hby d10_35) hr
    · show Q10 Z o0 p1 sa sn nl ga h0 n0 _ T7.heap _
      rw [e7]
      have f35 : Fld Z h7 o0 "com/example/processionary/processionary/automata/IntSet" "size" "I" (.int sn) := (P2_F.keep K7c nin0)
      exact ⟨ga, sn, (0 : Int32), congrArg (fun z => some (Value.int z)) (show (nar .boolean (0 : Int32)) = (0 : Int32) from rfl), N7, K7, f7_0, f7_1, f35, f7_2, (Or.inl ⟨vt_absent (IS.l48 hS) hS.2.1 q7_1 q7_2 q7_0 hm, rfl, rfl⟩)⟩
theorem d8_21 : decode prog_12_method_8_code 21 = .ok (.iload 5, 2) := by decide +kernel
theorem d8_23 : decode prog_12_method_8_code 23 = .ok (.iload 4, 2) := by decide +kernel
theorem d8_25 : decode prog_12_method_8_code 25 = .ok (.if_icmp .ge 29, 3) := by decide +kernel
theorem d8_28 : decode prog_12_method_8_code 28 = .ok (.aload_n 3, 1) := by decide +kernel
theorem d8_29 : decode prog_12_method_8_code 29 = .ok (.iload 5, 2) := by decide +kernel
theorem d8_31 : decode prog_12_method_8_code 31 = .ok (.iaload, 1) := by decide +kernel
theorem d8_32 : decode prog_12_method_8_code 32 = .ok (.istore 6, 2) := by decide +kernel
theorem d8_34 : decode prog_12_method_8_code 34 = .ok (.iload 6, 2) := by decide +kernel
theorem d8_36 : decode prog_12_method_8_code 36 = .ok (.iconst (-1), 1) := by decide +kernel
theorem d8_37 : decode prog_12_method_8_code 37 = .ok (.if_icmp .eq 11, 3) := by decide +kernel
theorem d8_40 : decode prog_12_method_8_code 40 = .ok (.aload_n 1, 1) := by decide +kernel
theorem d8_41 : decode prog_12_method_8_code 41 = .ok (.iload_n 2, 1) := by decide +kernel
theorem d8_42 : decode prog_12_method_8_code 42 = .ok (.iinc 2 1, 3) := by decide +kernel
theorem d8_45 : decode prog_12_method_8_code 45 = .ok (.iload 6, 2) := by decide +kernel
theorem d8_47 : decode prog_12_method_8_code 47 = .ok (.iastore, 1) := by decide +kernel
theorem d8_48 : decode prog_12_method_8_code 48 = .ok (.iinc 5 1, 3) := by decide +kernel
theorem d8_51 : decode prog_12_method_8_code 51 = .ok (.goto (-30), 3) := by decide +kernel
set_option maxRecDepth 65536 in
set_option maxHeartbeats 40000000 in
theorem lp8_21 (l : Launch) (Z : State) (a0 : Array Value) (hw : ∀ d ∈ tables_1, d.before a0 Z = true) {p : Program} {e : Env} {s : State} {m : MethodId} {below : List Frame} {meth : Method} {c : Code} (o0 : Addr) (sa : Addr) (sn : Int32) (nl : Int32) (ga : Nat → Int32) (mb : Addr) (n0 : Nat) (hx : p.tables.exec = Jvm.exec) (hZ : Z.Warmed39 s.vm) (hby : c.code = prog_12_method_8_code) (hml : c.maxLocals = 7) (hown : s.vm.findClass "com/example/processionary/processionary/automata/IntSet" = some m.cls) (Q0_G : n0 ≤ mb) (Q1_NE : sa ≠ mb) (hc : sn.toInt = ((TL ga nl.toInt.toNat).length : Int)) :
    ∀ (d : Nat) (cv : Int32) (jv : Int32) (gr : Nat → Int32) (sl6 : Slot) (T0 : State) (M0 : List Loc) (h0 : Heap), n0 ≤ h0.size → (nl.toInt - jv.toInt).toNat = d → One sl6 → (0 ≤ jv.toInt ∧ jv.toInt ≤ nl.toInt) → (MB ga gr jv cv) → Stand p l e ({ frames := 0, cells := 1, slots := 3, locals := 0 } : Room) s m #[(.ref o0)] below meth c T0 M0 1 3 → T0.heap = h0 → Fr n0 M0 → JV Value.int Z h0 sa .int nl ga → JV Value.int Z h0 mb .int sn gr → (∃ (cv_ : Int32) (jv_ : Int32) (gr_ : Nat → Int32) (sl6_ : Slot) (T' : State) (M' : List Loc) (h' : Heap), (∀ k, k < sn.toInt.toNat → (TL ga nl.toInt.toNat)[k]? = some (gr_ k)) ∧ One sl6_ ∧ Stand p l e ({ frames := 0, cells := 1, slots := 3, locals := 0 } : Room) s m #[(.ref o0)] below meth c T' M' 1 3 ∧ T'.heap = h' ∧ Fr n0 M' ∧ Keep h0 h' [mb] ∧ JV Value.int Z h' sa .int nl ga ∧ JV Value.int Z h' mb .int sn gr_ ∧ Lead p e below (T0.setTop (mkF m 21 #[.val (.ref o0), .val (.ref mb), .val (.int cv), .val (.ref sa), .val (.int nl), .val (.int jv), sl6] [])) (T'.setTop (mkF m 54 #[.val (.ref o0), .val (.ref mb), .val (.int cv_), .val (.ref sa), .val (.int nl), .val (.int jv_), sl6_] []))) := by
  intro d
  induction d using Nat.strongRecOn with
  | ind d ih =>
    intro cv jv gr sl6 T0 M0 h0 Z0 hd hsl6 hi hM X0 e0 N0 P0_V P1_V
    have K0 : Keep h0 h0 [mb] := Keep.refl _ _
    obtain ⟨G, hG⟩ : ∃ z, z = T0.setTop (mkF m 21 #[.val (.ref o0), .val (.ref mb), .val (.int cv), .val (.ref sa), .val (.int nl), .val (.int jv), sl6] []) := ⟨_, rfl⟩
    rw [← hG]
    have pre0 : Lead p e below G (T0.setTop (mkF m 21 #[.val (.ref o0), .val (.ref mb), .val (.int cv), .val (.ref sa), .val (.int nl), .val (.int jv), sl6] [])) := fun t k => by rw [hG]; exact k
    have pre1 : Lead p e below G (T0.setTop (mkF m 25 #[.val (.ref o0), .val (.ref mb), .val (.int cv), .val (.ref sa), .val (.int nl), .val (.int jv), sl6] [(.int nl), (.int jv)])) := fun t k => by
      refine pre0 t ?_
      show Steps p.tables e below (T0.setTop (mkF m 21 #[.val (.ref o0), .val (.ref mb), .val (.int cv), .val (.ref sa), .val (.int nl), .val (.int jv), sl6] [])) _
      refine XS.iload X0.here hx rfl (hb hby d8_21) rfl ?_
      refine XS.iload X0.here hx rfl (hb hby d8_23) rfl ?_
      exact k
    by_cases hs25_2 : jv < nl
    · have pre3 : Lead p e below G (T0.setTop (mkF m 31 #[.val (.ref o0), .val (.ref mb), .val (.int cv), .val (.ref sa), .val (.int nl), .val (.int jv), sl6] [(.int jv), (.ref sa)])) := fun t k => by
        refine pre1 t ?_
        show Steps p.tables e below (T0.setTop (mkF m 25 #[.val (.ref o0), .val (.ref mb), .val (.int cv), .val (.ref sa), .val (.int nl), .val (.int jv), sl6] [(.int nl), (.int jv)])) _
        refine XS.icmpNo X0.here hx rfl (hb hby d8_25) rfl (tlt hs25_2).2.1 ?_
        show Steps p.tables e below (T0.setTop (mkF m 28 #[.val (.ref o0), .val (.ref mb), .val (.int cv), .val (.ref sa), .val (.int nl), .val (.int jv), sl6] [])) _
        refine XS.aloadN X0.here hx rfl (hb hby d8_28) rfl rfl ?_
        refine XS.iload X0.here hx rfl (hb hby d8_29) rfl ?_
        exact k
      obtain ⟨cl4, Ar4, hin4, hat4⟩ := P0_V.in (j := jv) (own_bd hi.1 hs25_2)
      have st4 := X0.iaload hx (j := jv) (v := (.int (ga (jv).toNatClampNeg))) (by rw [e0]; exact Ar4.1) (State.isArrayOf_alike hZ.alike Ar4.2.1) Ar4.2.2 hin4 hat4 (g := (mkF m 31 #[.val (.ref o0), .val (.ref mb), .val (.int cv), .val (.ref sa), .val (.int nl), .val (.int jv), sl6] [(.int jv), (.ref sa)])) rfl rfl (hb hby d8_31)
      have pre4 : Lead p e below G (T0.setTop (mkF m 32 #[.val (.ref o0), .val (.ref mb), .val (.int cv), .val (.ref sa), .val (.int nl), .val (.int jv), sl6] [(.int (ga (jv).toNatClampNeg))])) := fun t k => pre3 t (st4 _ k)
      have pre5 : Lead p e below G (T0.setTop (mkF m 37 #[.val (.ref o0), .val (.ref mb), .val (.int cv), .val (.ref sa), .val (.int nl), .val (.int jv), .val (.int (ga (jv).toNatClampNeg))] [(.int (-1 : Int32)), (.int (ga (jv).toNatClampNeg))])) := fun t k => by
        refine pre4 t ?_
        show Steps p.tables e below (T0.setTop (mkF m 32 #[.val (.ref o0), .val (.ref mb), .val (.int cv), .val (.ref sa), .val (.int nl), .val (.int jv), sl6] [(.int (ga (jv).toNatClampNeg))])) _
        refine XS.istore X0.here hx rfl (hb hby d8_32) rfl (l' := #[.val (.ref o0), .val (.ref mb), .val (.int cv), .val (.ref sa), .val (.int nl), .val (.int jv), .val (.int (ga (jv).toNatClampNeg))]) (XS.store1 (o := sl6) rfl hsl6 rfl) ?_
        show Steps p.tables e below (T0.setTop (mkF m 34 #[.val (.ref o0), .val (.ref mb), .val (.int cv), .val (.ref sa), .val (.int nl), .val (.int jv), .val (.int (ga (jv).toNatClampNeg))] [])) _
        refine XS.iload X0.here hx rfl (hb hby d8_34) rfl ?_
        refine XS.iconst X0.here hx rfl (hb hby d8_36) ?_
        exact k
      by_cases hs37_6 : (ga (jv).toNatClampNeg) = (-1 : Int32)
      · have pre7 : Lead p e below G (T0.setTop (mkF m 21 #[.val (.ref o0), .val (.ref mb), .val (.int cv), .val (.ref sa), .val (.int nl), .val (.int (jv + (1 : Int32))), .val (.int (ga (jv).toNatClampNeg))] [])) := fun t k => by
          refine pre5 t ?_
          show Steps p.tables e below (T0.setTop (mkF m 37 #[.val (.ref o0), .val (.ref mb), .val (.int cv), .val (.ref sa), .val (.int nl), .val (.int jv), .val (.int (ga (jv).toNatClampNeg))] [(.int (-1 : Int32)), (.int (ga (jv).toNatClampNeg))])) _
          refine XS.icmpYes X0.here hx rfl (pc0 := 37) (pc' := 48) rfl (hb hby d8_37) rfl (teq hs37_6).1 (by decide) (by decide) ?_
          show Steps p.tables e below (T0.setTop (mkF m 48 #[.val (.ref o0), .val (.ref mb), .val (.int cv), .val (.ref sa), .val (.int nl), .val (.int jv), .val (.int (ga (jv).toNatClampNeg))] [])) _
          refine XS.iinc X0.here hx rfl (hb hby d8_48) rfl (l' := #[.val (.ref o0), .val (.ref mb), .val (.int cv), .val (.ref sa), .val (.int nl), .val (.int (jv + (1 : Int32))), .val (.int (ga (jv).toNatClampNeg))]) rfl ?_
          refine XS.goto X0.here hx rfl (pc0 := 51) (pc' := 21) rfl (hb hby d8_51) (by decide) (by decide) ?_
          exact k
        obtain ⟨cv_8, jv_8, gr_8, sl6_8, T8, M8, h8, q8_0, o8_0, X8, e8, N8, K8, f8_0, f8_1, ld8⟩ := ih ((nl.toInt - (jv + (1 : Int32)).toInt).toNat) (hd ▸ own_dec hs25_2 hi) cv (jv + (1 : Int32)) gr (.val (.int (ga (jv).toNatClampNeg))) _ _ _ (Nat.le_trans Z0 K0.1) rfl (One.val rfl) (show 0 ≤ (jv + (1 : Int32)).toInt ∧ (jv + (1 : Int32)).toInt ≤ nl.toInt from own_nx hs25_2 hi) (show MB ga gr (jv + (1 : Int32)) cv from (by skip; exact mb1 hs25_2 hi.1 hM hs37_6)) X0 e0 N0 P0_V P1_V
        exact ⟨cv_8, jv_8, gr_8, sl6_8, T8, M8, h8, (show ∀ k, k < sn.toInt.toNat → (TL ga nl.toInt.toNat)[k]? = some (gr_8 k) from q8_0), o8_0, X8, e8, N8, K0.trans K8 (fun x hx => Or.inl hx), f8_0, f8_1, fun t k => pre7 t (ld8 t k)⟩
      · have pre9 : Lead p e below G (T0.setTop (mkF m 47 #[.val (.ref o0), .val (.ref mb), .val (.int (cv + (1 : Int32))), .val (.ref sa), .val (.int nl), .val (.int jv), .val (.int (ga (jv).toNatClampNeg))] [(.int (ga (jv).toNatClampNeg)), (.int cv), (.ref mb)])) := fun t k => by
          refine pre5 t ?_
          show Steps p.tables e below (T0.setTop (mkF m 37 #[.val (.ref o0), .val (.ref mb), .val (.int cv), .val (.ref sa), .val (.int nl), .val (.int jv), .val (.int (ga (jv).toNatClampNeg))] [(.int (-1 : Int32)), (.int (ga (jv).toNatClampNeg))])) _
          refine XS.icmpNo X0.here hx rfl (hb hby d8_37) rfl (feq hs37_6).1 ?_
          show Steps p.tables e below (T0.setTop (mkF m 40 #[.val (.ref o0), .val (.ref mb), .val (.int cv), .val (.ref sa), .val (.int nl), .val (.int jv), .val (.int (ga (jv).toNatClampNeg))] [])) _
          refine XS.aloadN X0.here hx rfl (hb hby d8_40) rfl rfl ?_
          refine XS.iloadN X0.here hx rfl (hb hby d8_41) rfl ?_
          refine XS.iinc X0.here hx rfl (hb hby d8_42) rfl (l' := #[.val (.ref o0), .val (.ref mb), .val (.int (cv + (1 : Int32))), .val (.ref sa), .val (.int nl), .val (.int jv), .val (.int (ga (jv).toNatClampNeg))]) rfl ?_
          show Steps p.tables e below (T0.setTop (mkF m 45 #[.val (.ref o0), .val (.ref mb), .val (.int (cv + (1 : Int32))), .val (.ref sa), .val (.int nl), .val (.int jv), .val (.int (ga (jv).toNatClampNeg))] [(.int cv), (.ref mb)])) _
          refine XS.iload X0.here hx rfl (hb hby d8_45) rfl ?_
          exact k
        obtain ⟨cl10, Ar10, hin10, -⟩ := P1_V.in (j := cv) (by skip; exact (mbb hs25_2 hi.1 hM hs37_6 hc))
        obtain ⟨T10, h10, X10, e10, W10, st10⟩ := stI X0 hx hZ e0 Ar10 (j := cv) hin10 (g := (mkF m 47 #[.val (.ref o0), .val (.ref mb), .val (.int (cv + (1 : Int32))), .val (.ref sa), .val (.int nl), .val (.int jv), .val (.int (ga (jv).toNatClampNeg))] [(.int (ga (jv).toNatClampNeg)), (.int cv), (.ref mb)])) rfl rfl (hb hby d8_47)
        have N10 := Fr.snoc X10 N0 Q0_G
        have K10 : Keep h0 h10 [mb] := K0.wr W10 (Or.inl (List.mem_of_getElem? (i := 0) rfl))
        obtain ⟨M10, Y10, N10⟩ : ∃ M, Stand p l e ({ frames := 0, cells := 1, slots := 3, locals := 0 } : Room) s m #[(.ref o0)] below meth c T10 M 1 3 ∧ Fr n0 M := ⟨_, X10, N10⟩
        have V10 : JV Value.int Z h10 mb .int sn (updF gr (cv).toNatClampNeg (ga (jv).toNatClampNeg)) := P1_V.set W10
        have pre10 : Lead p e below G (T10.setTop (mkF m 48 #[.val (.ref o0), .val (.ref mb), .val (.int (cv + (1 : Int32))), .val (.ref sa), .val (.int nl), .val (.int jv), .val (.int (ga (jv).toNatClampNeg))] [])) := fun t k => pre9 t (st10 _ k)
        have pre11 : Lead p e below G (T10.setTop (mkF m 21 #[.val (.ref o0), .val (.ref mb), .val (.int (cv + (1 : Int32))), .val (.ref sa), .val (.int nl), .val (.int (jv + (1 : Int32))), .val (.int (ga (jv).toNatClampNeg))] [])) := fun t k => by
          refine pre10 t ?_
          show Steps p.tables e below (T10.setTop (mkF m 48 #[.val (.ref o0), .val (.ref mb), .val (.int (cv + (1 : Int32))), .val (.ref sa), .val (.int nl), .val (.int jv), .val (.int (ga (jv).toNatClampNeg))] [])) _
          refine XS.iinc Y10.here hx rfl (hb hby d8_48) rfl (l' := #[.val (.ref o0), .val (.ref mb), .val (.int (cv + (1 : Int32))), .val (.ref sa), .val (.int nl), .val (.int (jv + (1 : Int32))), .val (.int (ga (jv).toNatClampNeg))]) rfl ?_
          refine XS.goto Y10.here hx rfl (pc0 := 51) (pc' := 21) rfl (hb hby d8_51) (by decide) (by decide) ?_
          show Steps p.tables e below (T10.setTop (mkF m 21 #[.val (.ref o0), .val (.ref mb), .val (.int (cv + (1 : Int32))), .val (.ref sa), .val (.int nl), .val (.int (jv + (1 : Int32))), .val (.int (ga (jv).toNatClampNeg))] [])) _
          exact k
        have f12 : JV Value.int Z h10 sa .int nl ga := (P0_V.other W10 Q1_NE)
        obtain ⟨cv_13, jv_13, gr_13, sl6_13, T13, M13, h13, q13_0, o13_0, X13, e13, N13, K13, f13_0, f13_1, ld13⟩ := ih ((nl.toInt - (jv + (1 : Int32)).toInt).toNat) (hd ▸ own_dec hs25_2 hi) (cv + (1 : Int32)) (jv + (1 : Int32)) (updF gr (cv).toNatClampNeg (ga (jv).toNatClampNeg)) (.val (.int (ga (jv).toNatClampNeg))) _ _ _ (Nat.le_trans Z0 K10.1) rfl (One.val rfl) (show 0 ≤ (jv + (1 : Int32)).toInt ∧ (jv + (1 : Int32)).toInt ≤ nl.toInt from own_nx hs25_2 hi) (show MB ga (updF gr (cv).toNatClampNeg (ga (jv).toNatClampNeg)) (jv + (1 : Int32)) (cv + (1 : Int32)) from (by skip; exact mb2 hs25_2 hi.1 hM hs37_6 hc)) Y10 e10 N10 f12 V10
        exact ⟨cv_13, jv_13, gr_13, sl6_13, T13, M13, h13, (show ∀ k, k < sn.toInt.toNat → (TL ga nl.toInt.toNat)[k]? = some (gr_13 k) from q13_0), o13_0, X13, e13, N13, K10.trans K13 (fun x hx => Or.inl hx), f13_0, f13_1, fun t k => pre11 t (ld13 t k)⟩
    · have pre14 : Lead p e below G (T0.setTop (mkF m 54 #[.val (.ref o0), .val (.ref mb), .val (.int cv), .val (.ref sa), .val (.int nl), .val (.int jv), sl6] [])) := fun t k => by
        refine pre1 t ?_
        show Steps p.tables e below (T0.setTop (mkF m 25 #[.val (.ref o0), .val (.ref mb), .val (.int cv), .val (.ref sa), .val (.int nl), .val (.int jv), sl6] [(.int nl), (.int jv)])) _
        refine XS.icmpYes X0.here hx rfl (pc0 := 25) (pc' := 54) rfl (hb hby d8_25) rfl (flt hs25_2).2.1 (by decide) (by decide) ?_
        exact k
      exact ⟨cv, jv, gr, (sl6), T0, _, _, (show ∀ k, k < sn.toInt.toNat → (TL ga nl.toInt.toNat)[k]? = some (gr k) from mbf hs25_2 hi hM hc), hsl6, X0, e0, N0, K0, P0_V, P1_V, pre14⟩
theorem d8_0 : decode prog_12_method_8_code 0 = .ok (.aload_n 0, 1) := by decide +kernel
theorem d8_1 : decode prog_12_method_8_code 1 = .ok (.getfield 19, 3) := by decide +kernel
theorem d8_4 : decode prog_12_method_8_code 4 = .ok (.newarray .int, 2) := by decide +kernel
theorem d8_6 : decode prog_12_method_8_code 6 = .ok (.astore_n 1, 1) := by decide +kernel
theorem d8_7 : decode prog_12_method_8_code 7 = .ok (.iconst 0, 1) := by decide +kernel
theorem d8_8 : decode prog_12_method_8_code 8 = .ok (.istore_n 2, 1) := by decide +kernel
theorem d8_9 : decode prog_12_method_8_code 9 = .ok (.aload_n 0, 1) := by decide +kernel
theorem d8_10 : decode prog_12_method_8_code 10 = .ok (.getfield 7, 3) := by decide +kernel
theorem d8_13 : decode prog_12_method_8_code 13 = .ok (.astore_n 3, 1) := by decide +kernel
theorem d8_14 : decode prog_12_method_8_code 14 = .ok (.aload_n 3, 1) := by decide +kernel
theorem d8_15 : decode prog_12_method_8_code 15 = .ok (.arraylength, 1) := by decide +kernel
theorem d8_16 : decode prog_12_method_8_code 16 = .ok (.istore 4, 2) := by decide +kernel
theorem d8_18 : decode prog_12_method_8_code 18 = .ok (.iconst 0, 1) := by decide +kernel
theorem d8_19 : decode prog_12_method_8_code 19 = .ok (.istore 5, 2) := by decide +kernel
theorem d8_54 : decode prog_12_method_8_code 54 = .ok (.aload_n 1, 1) := by decide +kernel
theorem d8_55 : decode prog_12_method_8_code 55 = .ok (.areturn, 1) := by decide +kernel
theorem ef_8 (m : MethodId) (o0 : Addr) : entryFrame m #[(.ref o0)] 7 = mkF m 0 #[.val (.ref o0), .unset, .unset, .unset, .unset, .unset, .unset] [] := by first | (simp [entryFrame, mkF, argsToLocals, Value.category]; done) | rfl
def Q8 (Z : State) (o0 : Addr) (sa : Addr) (sn : Int32) (nl : Int32) (ga : Nat → Int32) (h0 : Heap) (n0 : Nat) (v : Option Value) (h : Heap) (L : List Loc) : Prop := ∃ mb : Addr, ∃ gm : Nat → Int32, v = some (.ref mb) ∧ Fr n0 L ∧ Keep h0 h [] ∧ h0.size ≤ mb ∧ JV Value.int Z h mb .int sn gm ∧ (∀ k, k < sn.toInt.toNat → (TL ga nl.toInt.toNat)[k]? = some (gm k))
set_option maxRecDepth 65536 in
set_option maxHeartbeats 40000000 in
theorem rm8 (l : Launch) (Z : State) (a0 : Array Value) (hw : ∀ d ∈ tables_1, d.before a0 Z = true) (ws : List Jvm.Cond) (o0 : Addr) (sa : Addr) (sn : Int32) (nl : Int32) (ga : Nat → Int32) (h0 : Heap) (n0 : Nat) (Z0 : n0 ≤ h0.size) (P0_E : Exa Z h0 o0 "com/example/processionary/processionary/automata/IntSet") (P1_F : Fld Z h0 o0 "com/example/processionary/processionary/automata/IntSet" "slots" "[I" (.ref sa)) (P2_F : Fld Z h0 o0 "com/example/processionary/processionary/automata/IntSet" "size" "I" (.int sn)) (P3_V : JV Value.int Z h0 sa .int nl ga) (hl : (L48 nl)) (hc : (sn.toInt = ((TL ga nl.toInt.toNat).length : Int))) (hn3 : (sn.toInt ≤ 3)) :
    MetFree l (⟨"com/example/processionary/processionary/automata/IntSet", "members", "()[I"⟩ : MethodName) (head1 (Jvm.Cond.code (⟨"com/example/processionary/processionary/automata/IntSet", "members", "()[I"⟩ : MethodName) prog_12_method_8_code 7 (some (.array .int)) :: ws) ({ frames := 0, cells := 1, slots := 3, locals := 0 } : Room)) (fun a U => a = #[(.ref o0)] ∧ Z.Warmed39 U.vm ∧ U.heap = h0) (fun _ _ _ _ _ => True) (fun _ U o U' => ∃ v L, o = .returned v ∧ Q8 Z o0 sa sn nl ga h0 n0 v U'.heap L ∧ FrameEnd U o U' L ({ frames := 0, cells := 1, slots := 3, locals := 0 } : Room).cells ({ frames := 0, cells := 1, slots := 3, locals := 0 } : Room).slots) := by
  refine MetFree.of_bodySF (plainFor_of_name pn_com_example_processionary_processionary_automata_IntSet) hisR ?_
  intro p e s m args below meth c s₁ Bd hml0 hP hK
  obtain ⟨rfl, hZ, hh⟩ := hP
  have hx := Bd.exec
  have hby := Bd.bytes
  have hml : c.maxLocals = 7 := hml0
  have hown : s.vm.findClass "com/example/processionary/processionary/automata/IntSet" = some m.cls := findClass_of_methodNamed Bd.named
  have hnm := (name_of_methodNamed Bd.named Bd.method).1
  have X0 : Stand p l e ({ frames := 0, cells := 1, slots := 3, locals := 0 } : Room) s m #[(.ref o0)] below meth c s₁ [] 0 0 := Stand.of_body Bd
  have e0 : s₁.heap = h0 := by rw [← hh, Bd.state]; rfl
  have N0 := Fr.nil n0
  have K0 : Keep h0 h0 [] := Keep.refl _ _
  obtain ⟨G, hG⟩ : ∃ z, z = s₁.setTop (entryFrame m #[(.ref o0)] 7) := ⟨_, rfl⟩
  have pre0 : Lead p e below G (s₁.setTop (mkF m 0 #[.val (.ref o0), .unset, .unset, .unset, .unset, .unset, .unset] [])) := fun t k => by rw [hG]; exact castTop (ef_8 m o0) k
  have pre1 : Lead p e below G (s₁.setTop (mkF m 1 #[.val (.ref o0), .unset, .unset, .unset, .unset, .unset, .unset] [(.ref o0)])) := fun t k => by
    refine pre0 t ?_
    show Steps p.tables e below (s₁.setTop (mkF m 0 #[.val (.ref o0), .unset, .unset, .unset, .unset, .unset, .unset] [])) _
    refine XS.aloadN X0.here hx rfl (hb hby d8_0) rfl rfl ?_
    exact k
  obtain ⟨T2, X2, e2, st2⟩ := getF X0 hx hZ hown (host := "") (Or.inl (hw _ (List.mem_of_getElem? (i := 26) rfl))) Via.refl e0 P2_F (g := (mkF m 1 #[.val (.ref o0), .unset, .unset, .unset, .unset, .unset, .unset] [(.ref o0)])) rfl rfl (hb hby d8_1)
  have pre2 : Lead p e below G (T2.setTop (mkF m 4 #[.val (.ref o0), .unset, .unset, .unset, .unset, .unset, .unset] [(.int sn)])) := fun t k => pre1 t (st2 _ k)
  obtain ⟨T3, h3, k3, X3, e3, E3, A3, st3⟩ := newP X2 hx hZ (hw _ (List.mem_of_getElem? (i := 14) rfl)) e2 (g := (mkF m 4 #[.val (.ref o0), .unset, .unset, .unset, .unset, .unset, .unset] [(.int sn)])) rfl (hb hby d8_4) rfl (show ¬ sn < 0 from by rw [Int32.lt_iff_toInt_lt, Int32.toInt_zero]; omega) (cap := 3) (own_nat (by omega)) (by decide) (by decide) (by decide)
  obtain ⟨b3, g3⟩ : ∃ z, z = h0.size := ⟨_, rfl⟩
  rw [← g3] at A3 st3
  have ne3_o0 : o0 ≠ b3 := Nat.ne_of_lt (Nat.lt_of_lt_of_le P0_E.lt (Nat.le_of_eq g3.symm))
  have ne3_sa : sa ≠ b3 := Nat.ne_of_lt (Nat.lt_of_lt_of_le P3_V.lt (Nat.le_of_eq g3.symm))
  have sz3 : h0.size ≤ b3 := Nat.le_trans K0.1 (Nat.le_of_eq g3.symm)
  have ge3 : n0 ≤ b3 := Nat.le_trans Z0 sz3
  have K3 : Keep h0 h3 [] := K0.ext E3
  have V3 : JV Value.int Z h3 b3 .int sn (fun _ => (0 : Int32)) := JV.new A3 (show ¬ sn < 0 from by rw [Int32.lt_iff_toInt_lt, Int32.toInt_zero]; omega) _ rfl
  have pre3 : Lead p e below G (T3.setTop (mkF m 6 #[.val (.ref o0), .unset, .unset, .unset, .unset, .unset, .unset] [(.ref b3)])) := fun t k => pre2 t (st3 _ k)
  have pre4 : Lead p e below G (T3.setTop (mkF m 10 #[.val (.ref o0), .val (.ref b3), .val (.int (0 : Int32)), .unset, .unset, .unset, .unset] [(.ref o0)])) := fun t k => by
    refine pre3 t ?_
    show Steps p.tables e below (T3.setTop (mkF m 6 #[.val (.ref o0), .unset, .unset, .unset, .unset, .unset, .unset] [(.ref b3)])) _
    refine XS.astoreN X3.here hx rfl (hb hby d8_6) rfl rfl (l' := #[.val (.ref o0), .val (.ref b3), .unset, .unset, .unset, .unset, .unset]) rfl ?_
    show Steps p.tables e below (T3.setTop (mkF m 7 #[.val (.ref o0), .val (.ref b3), .unset, .unset, .unset, .unset, .unset] [])) _
    refine XS.iconst X3.here hx rfl (hb hby d8_7) ?_
    refine XS.istoreN X3.here hx rfl (hb hby d8_8) rfl (l' := #[.val (.ref o0), .val (.ref b3), .val (.int (0 : Int32)), .unset, .unset, .unset, .unset]) rfl ?_
    refine XS.aloadN X3.here hx rfl (hb hby d8_9) rfl rfl ?_
    show Steps p.tables e below (T3.setTop (mkF m 10 #[.val (.ref o0), .val (.ref b3), .val (.int (0 : Int32)), .unset, .unset, .unset, .unset] [(.ref o0)])) _
    exact k
  have f6 : Fld Z h3 o0 "com/example/processionary/processionary/automata/IntSet" "slots" "[I" (.ref sa) := (P1_F.ext E3)
  obtain ⟨T5, X5, e5, st5⟩ := getF X3 hx hZ hown (host := "") (Or.inl (hw _ (List.mem_of_getElem? (i := 15) rfl))) Via.refl e3 f6 (g := (mkF m 10 #[.val (.ref o0), .val (.ref b3), .val (.int (0 : Int32)), .unset, .unset, .unset, .unset] [(.ref o0)])) rfl rfl (hb hby d8_10)
  have pre5 : Lead p e below G (T5.setTop (mkF m 13 #[.val (.ref o0), .val (.ref b3), .val (.int (0 : Int32)), .unset, .unset, .unset, .unset] [(.ref sa)])) := fun t k => pre4 t (st5 _ k)
  have pre7 : Lead p e below G (T5.setTop (mkF m 15 #[.val (.ref o0), .val (.ref b3), .val (.int (0 : Int32)), .val (.ref sa), .unset, .unset, .unset] [(.ref sa)])) := fun t k => by
    refine pre5 t ?_
    show Steps p.tables e below (T5.setTop (mkF m 13 #[.val (.ref o0), .val (.ref b3), .val (.int (0 : Int32)), .unset, .unset, .unset, .unset] [(.ref sa)])) _
    refine XS.astoreN X5.here hx rfl (hb hby d8_13) rfl rfl (l' := #[.val (.ref o0), .val (.ref b3), .val (.int (0 : Int32)), .val (.ref sa), .unset, .unset, .unset]) rfl ?_
    refine XS.aloadN X5.here hx rfl (hb hby d8_14) rfl rfl ?_
    exact k
  have f9 : JV Value.int Z h3 sa .int nl ga := (P3_V.ext E3)
  obtain ⟨cl8, Ar8, len8⟩ := f9.len
  have st8 := X5.arraylength hx (by rw [e5]; exact Ar8.1) (State.isArrayOf_alike hZ.alike Ar8.2.1) (g := (mkF m 15 #[.val (.ref o0), .val (.ref b3), .val (.int (0 : Int32)), .val (.ref sa), .unset, .unset, .unset] [(.ref sa)])) rfl rfl (hb hby d8_15)
  rw [len8] at st8
  have pre8 : Lead p e below G (T5.setTop (mkF m 16 #[.val (.ref o0), .val (.ref b3), .val (.int (0 : Int32)), .val (.ref sa), .unset, .unset, .unset] [(.int nl)])) := fun t k => pre7 t (st8 _ k)
  have pre10 : Lead p e below G (T5.setTop (mkF m 21 #[.val (.ref o0), .val (.ref b3), .val (.int (0 : Int32)), .val (.ref sa), .val (.int nl), .val (.int (0 : Int32)), .unset] [])) := fun t k => by
    refine pre8 t ?_
    show Steps p.tables e below (T5.setTop (mkF m 16 #[.val (.ref o0), .val (.ref b3), .val (.int (0 : Int32)), .val (.ref sa), .unset, .unset, .unset] [(.int nl)])) _
    refine XS.istore X5.here hx rfl (hb hby d8_16) rfl (l' := #[.val (.ref o0), .val (.ref b3), .val (.int (0 : Int32)), .val (.ref sa), .val (.int nl), .unset, .unset]) rfl ?_
    show Steps p.tables e below (T5.setTop (mkF m 18 #[.val (.ref o0), .val (.ref b3), .val (.int (0 : Int32)), .val (.ref sa), .val (.int nl), .unset, .unset] [])) _
    refine XS.iconst X5.here hx rfl (hb hby d8_18) ?_
    refine XS.istore X5.here hx rfl (hb hby d8_19) rfl (l' := #[.val (.ref o0), .val (.ref b3), .val (.int (0 : Int32)), .val (.ref sa), .val (.int nl), .val (.int (0 : Int32)), .unset]) rfl ?_
    exact k
  obtain ⟨cv_11, jv_11, gr_11, sl6_11, T11, M11, h11, q11_0, o11_0, Y11, e11, N11, K11c, f11_0, f11_1, ld11⟩ := lp8_21 l Z a0 hw o0 sa sn nl ga b3 n0 hx hZ hby hml hown ge3 ne3_sa (show sn.toInt = ((TL ga nl.toInt.toNat).length : Int) from hc) _ (0 : Int32) (0 : Int32) (fun _ => (0 : Int32)) (.unset) _ _ _ (Nat.le_trans Z0 K3.1) rfl One.u (show 0 ≤ (0 : Int32).toInt ∧ (0 : Int32).toInt ≤ nl.toInt from ⟨by decide, by have z : (0 : Int32).toInt = 0 := (by decide); rcases hl with h | h <;> omega⟩) (show MB ga (fun _ => (0 : Int32)) (0 : Int32) (0 : Int32) from mb0 _ _) X5 e5 N0 f9 V3
  have K11 : Keep h0 h11 [] := K3.trans K11c (allS (Or.inr sz3) all0)
  have pre11_54 : Lead p e below G (T11.setTop (mkF m 54 #[.val (.ref o0), .val (.ref b3), .val (.int cv_11), .val (.ref sa), .val (.int nl), .val (.int jv_11), sl6_11] [])) := fun t k => pre10 t (ld11 t k)
  obtain ⟨fs, hr, hrun, hended, hW, hsame⟩ := Y11.leave (v := some (.ref b3)) (fun h => by rw [Bd.returns] at h; cases h)
  have preF : Lead p e below (s₁.setTop (entryFrame m #[(.ref o0)] 7)) (T11.setTop (mkF m 54 #[.val (.ref o0), .val (.ref b3), .val (.int cv_11), .val (.ref sa), .val (.int nl), .val (.int jv_11), sl6_11] [])) := by rw [← hG]; exact pre11_54
  refine ⟨_, _, preF _ ?_, hrun, hended, _, _, rfl, ?_, ⟨_, rfl⟩, hW, hsame.mono (by decide) (by decide)⟩
  · show Steps p.tables e below (T11.setTop (mkF m 54 #[.val (.ref o0), .val (.ref b3), .val (.int cv_11), .val (.ref sa), .val (.int nl), .val (.int jv_11), sl6_11] [])) _
    refine XS.aloadN Y11.here hx rfl (hb hby d8_54) rfl rfl ?_
    show Steps p.tables e below (T11.setTop (mkF m 55 #[.val (.ref o0), .val (.ref b3), .val (.int cv_11), .val (.ref sa), .val (.int nl), .val (.int jv_11), sl6_11] [(.ref b3)])) _
    jvm_step Y11.here [Y11.here.top, hx, (hb hby d8_55), Y11.method', Bd.returns, Value.isRef, FieldType.isReference]
    first | (intro acts; rw [hr _ acts rfl rfl rfl]) | rw [hr _ _ rfl rfl rfl]
    exact Steps.refl _
  · show Q8 Z o0 sa sn nl ga h0 n0 _ T11.heap _
    rw [e11]
    exact ⟨b3, gr_11, congrArg (fun z => some (Value.ref z)) (show b3 = b3 from rfl), N11, K11, sz3, f11_1, q11_0⟩
def INP (x0 x1 x2 dr x3 v : Int32) : Prop := (v = x0 ∨ v = x1 ∨ v = x2) ∧ ¬ (¬ dr = 0 ∧ v = x3)
theorem own_in (x0 x1 x2 dr x3 v : Int32) : F9 v x0 x1 x2 dr x3 = 0 ↔ ¬ INP x0 x1 x2 dr x3 v := by
  have n0 : nar .boolean (0 : Int32) = 0 := by decide
  have n1 : ¬ nar .boolean (1 : Int32) = 0 := by decide
  have key : nar .boolean (if v = x0 then (1 : Int32) else (if v = x1 then (1 : Int32) else (if v = x2 then (1 : Int32) else (0 : Int32)))) = 0 ↔ ¬ (v = x0 ∨ v = x1 ∨ v = x2) := by
    by_cases h3 : v = x0
    · rw [if_pos h3]; exact ⟨fun z => absurd z n1, fun z => absurd (Or.inl h3) z⟩
    · rw [if_neg h3]
      by_cases h4 : v = x1
      · rw [if_pos h4]; exact ⟨fun z => absurd z n1, fun z => absurd (Or.inr (Or.inl h4)) z⟩
      · rw [if_neg h4]
        by_cases h5 : v = x2
        · rw [if_pos h5]; exact ⟨fun z => absurd z n1, fun z => absurd (Or.inr (Or.inr h5)) z⟩
        · rw [if_neg h5]; exact ⟨fun _ z => z.elim h3 (fun z => z.elim h4 h5), fun _ => n0⟩
  unfold F9 INP
  by_cases h1 : dr = 0
  · rw [if_pos h1]
    exact key.trans ⟨fun z w => z w.1, fun z w => z ⟨w, fun q => q.1 h1⟩⟩
  · rw [if_neg h1]
    by_cases h2 : v = x3
    · rw [if_pos h2]
      exact ⟨fun _ w => w.2 ⟨h1, h2⟩, fun _ => by decide⟩
    · rw [if_neg h2]
      exact key.trans ⟨fun z w => z w.1, fun z w => z ⟨w, fun q => h2 q.2⟩⟩
def CD (S P : Int32 → Prop) (c : Int32) (k : Nat) : Prop := ∃ D : List Int32, D.Nodup ∧ c.toInt = (D.length : Int) ∧ D.length ≤ k ∧ ∀ v, v ∈ D ↔ S v ∧ P v
theorem cd_step {S P : Int32 → Prop} {c c' x : Int32} {k : Nat} (h : CD S P c k) (hk : k ≤ 5) (hc : (S x ∧ c' = c) ∨ (¬ S x ∧ ¬ P x ∧ c' = c) ∨ (¬ S x ∧ P x ∧ c' = c + 1)) : CD (fun v => S v ∨ v = x) P c' (k + 1) := by
  obtain ⟨D, a, b, d, e⟩ := h
  rcases hc with ⟨q, rfl⟩ | ⟨q, q', rfl⟩ | ⟨q, q', rfl⟩
  · exact ⟨D, a, b, by omega, fun v => by rw [e]; exact ⟨fun z => ⟨Or.inl z.1, z.2⟩, fun z => ⟨z.1.elim id (fun w => w ▸ q), z.2⟩⟩⟩
  · exact ⟨D, a, b, by omega, fun v => by rw [e]; exact ⟨fun z => ⟨Or.inl z.1, z.2⟩, fun z => ⟨z.1.elim id (fun w => absurd (w ▸ z.2) q'), z.2⟩⟩⟩
  · refine ⟨x :: D, List.nodup_cons.mpr ⟨fun z => q ((e x).mp z).1, a⟩, ?_, by rw [List.length_cons]; omega, fun v => ?_⟩
    · have c1 : (1 : Int32).toInt = 1 := by decide
      rw [Jvm.Kit.i32_add (by omega) (by omega), c1, List.length_cons]; omega
    · rw [List.mem_cons, e]
      exact ⟨fun z => z.elim (fun w => ⟨Or.inr w, w ▸ q'⟩) (fun w => ⟨Or.inl w.1, w.2⟩), fun z => z.1.elim (fun w => Or.inr ⟨w, z.2⟩) Or.inl⟩
theorem own_cnt {g : Nat → Int32} {L n x0 x1 x2 dr x3 c0 c1 c2 : Int32} (fm : FM g L n x0 x1 x2 dr x3) (h0 : c0 = (if (F9 x0 x0 x1 x2 dr x3) = (0 : Int32) then (0 : Int32) else (1 : Int32))) (h1 : c1 = (if x1 = x0 then c0 else (if (F9 x1 x0 x1 x2 dr x3) = (0 : Int32) then c0 else (c0 + (1 : Int32)))))
    (h2 : c2 = (if x2 = x0 then c1 else (if x2 = x1 then c1 else (if (F9 x2 x0 x1 x2 dr x3) = (0 : Int32) then c1 else (c1 + (1 : Int32)))))) : n = c2 := by
  have B : CD (fun _ => False) (INP x0 x1 x2 dr x3) 0 0 := ⟨[], List.nodup_nil, rfl, Nat.le_refl _, fun v => ⟨fun z => (by cases z), fun z => z.1.elim⟩⟩
  have C0 : CD (fun v => False ∨ v = x0) (INP x0 x1 x2 dr x3) c0 1 := cd_step B (by decide) (by
    by_cases q : F9 x0 x0 x1 x2 dr x3 = 0
    · rw [if_pos q] at h0; exact Or.inr (Or.inl ⟨id, (own_in ..).mp q, h0⟩)
    · rw [if_neg q] at h0; exact Or.inr (Or.inr ⟨id, Classical.not_not.mp (fun z => q ((own_in ..).mpr z)), h0.trans (by decide)⟩))
  have C1 : CD (fun v => (False ∨ v = x0) ∨ v = x1) (INP x0 x1 x2 dr x3) c1 2 := cd_step C0 (by decide) (by
    by_cases e : x1 = x0
    · rw [if_pos e] at h1; exact Or.inl ⟨Or.inr e, h1⟩
    · rw [if_neg e] at h1
      by_cases q : F9 x1 x0 x1 x2 dr x3 = 0
      · rw [if_pos q] at h1; exact Or.inr (Or.inl ⟨fun z => z.elim id e, (own_in ..).mp q, h1⟩)
      · rw [if_neg q] at h1; exact Or.inr (Or.inr ⟨fun z => z.elim id e, Classical.not_not.mp (fun z => q ((own_in ..).mpr z)), h1⟩))
  have C2 : CD (fun v => ((False ∨ v = x0) ∨ v = x1) ∨ v = x2) (INP x0 x1 x2 dr x3) c2 3 := cd_step C1 (by decide) (by
    by_cases e : x2 = x0
    · rw [if_pos e] at h2; exact Or.inl ⟨Or.inl (Or.inr e), h2⟩
    · rw [if_neg e] at h2
      by_cases e' : x2 = x1
      · rw [if_pos e'] at h2; exact Or.inl ⟨Or.inr e', h2⟩
      · rw [if_neg e'] at h2
        by_cases q : F9 x2 x0 x1 x2 dr x3 = 0
        · rw [if_pos q] at h2; exact Or.inr (Or.inl ⟨fun z => z.elim (fun z => z.elim id e) e', (own_in ..).mp q, h2⟩)
        · rw [if_neg q] at h2; exact Or.inr (Or.inr ⟨fun z => z.elim (fun z => z.elim id e) e', Classical.not_not.mp (fun z => q ((own_in ..).mpr z)), h2⟩))
  obtain ⟨D, a, b, -, d⟩ := C2
  have p : List.Perm (TL g L.toInt.toNat) D := (List.perm_ext_iff_of_nodup fm.2.2.2.1 a).mpr (fun v => by
    rw [d, fm.2.2.2.2 v]
    exact ⟨fun z => ⟨z.1.elim (fun w => Or.inl (Or.inl (Or.inr w))) (fun w => w.elim (fun w => Or.inl (Or.inr w)) Or.inr), z⟩, fun z => z.2⟩)
  exact Int32.toInt_inj.mp (by rw [fm.2.1, b, p.length_eq])
theorem own_min {g gm : Nat → Int32} {L n x0 x1 x2 dr x3 : Int32} (k : Int32) (fm : FM g L n x0 x1 x2 dr x3) (fin : ∀ k, k < n.toInt.toNat → (TL g L.toInt.toNat)[k]? = some (gm k)) (h0 : 0 ≤ k.toInt) (hk : k < n) : ¬ F9 (gm k.toNatClampNeg) x0 x1 x2 dr x3 = 0 := by
  rw [Int32.lt_iff_toInt_lt] at hk
  have := List.mem_of_getElem? (fin k.toNatClampNeg (show k.toInt.toNat < _ by omega))
  rw [own_in]
  exact fun z => z ((fm.2.2.2.2 _).mp this)
theorem own_mne {g gm : Nat → Int32} {L n x0 x1 x2 dr x3 : Int32} (j k : Int32) (fm : FM g L n x0 x1 x2 dr x3) (fin : ∀ k, k < n.toInt.toNat → (TL g L.toInt.toNat)[k]? = some (gm k)) (h0 : 0 ≤ j.toInt ∧ j.toInt < k.toInt) (hk : k < n) : ¬ gm j.toNatClampNeg = gm k.toNatClampNeg := by
  rw [Int32.lt_iff_toInt_lt] at hk
  have a := fin j.toNatClampNeg (show j.toInt.toNat < _ by omega)
  have b := fin k.toNatClampNeg (show k.toInt.toNat < _ by omega)
  intro e
  rw [← e, ← a] at b
  obtain ⟨hl, -⟩ := List.getElem?_eq_some_iff.mp a
  have c := (List.getElem?_inj hl fm.2.2.2.1).mp b.symm
  have c' : j.toInt.toNat = k.toInt.toNat := c
  omega
theorem own_nlt {a b n : Int32} (h : ¬ a < n) (q : a.toInt ≤ b.toInt) : ¬ b < n := by
  rw [Int32.lt_iff_toInt_lt] at h ⊢; omega

theorem pd__28_IZ_29_I : parseMethodDescriptor "(IZ)I" = some ⟨[.int, .boolean], some .int⟩ := by decide +kernel
theorem pd__28__29_V : parseMethodDescriptor "()V" = some ⟨[], none⟩ := by decide +kernel
theorem pd__28_I_29_Z : parseMethodDescriptor "(I)Z" = some ⟨[.int], some .boolean⟩ := by decide +kernel
theorem pd__28__29__5b_I : parseMethodDescriptor "()[I" = some ⟨[], some (.array .int)⟩ := by decide +kernel
theorem pd__28_IIIIZI_29_Z : parseMethodDescriptor "(IIIIZI)Z" = some ⟨[.int, .int, .int, .int, .boolean, .int], some .boolean⟩ := by decide +kernel

theorem ef_0 (m : MethodId) (p0 : Int32) (p1 : Int32) (p2 : Int32) (p3 : Int32) (p4 : Int32) : entryFrame m #[(.int p0), (.int p1), (.int p2), (.int p3), (.int p4)] maxLocals = mkF m 0 #[.val (.int p0), .val (.int p1), .val (.int p2), .val (.int p3), .val (.int p4), .unset, .unset, .unset, .unset, .unset, .unset, .unset, .unset, .unset] [] := by first | (simp [entryFrame, mkF, argsToLocals, Value.category, maxLocals]; done) | rfl
def Q0 (Z : State) (p0 : Int32) (p1 : Int32) (p2 : Int32) (p3 : Int32) (p4 : Int32)  (h0 : Heap) (n0 : Nat) (v : Option Value) (h : Heap) (L : List Loc) : Prop := v = some (.int (1 : Int32)) ∧ Fr n0 L
set_option maxRecDepth 65536 in
set_option maxHeartbeats 40000000 in
theorem rm0 (l : Launch) (Z : State) (a0 : Array Value) (hw : ∀ d ∈ tables_1, d.before a0 Z = true) (ws : List Jvm.Cond) (p0 : Int32) (p1 : Int32) (p2 : Int32) (p3 : Int32) (p4 : Int32)  (h0 : Heap) (n0 : Nat) (Z0 : n0 ≤ h0.size)  :
    MetFree l x (head1 (Jvm.Cond.code x code maxLocals ret :: ws) room_1) (fun a U => a = #[(.int p0), (.int p1), (.int p2), (.int p3), (.int p4)] ∧ Z.Warmed39 U.vm ∧ U.heap = h0) (fun _ _ _ _ _ => True) (fun _ U o U' => ∃ v L, o = .returned v ∧ Q0 Z p0 p1 p2 p3 p4 h0 n0 v U'.heap L ∧ FrameEnd U o U' L room_1.cells room_1.slots) := by
  refine MetFree.of_bodySF (plainFor_of_name pn_com_example_processionary_processionary_automata_IntSetMembersPinLaw) hisR ?_
  intro p e s m args below meth c s₁ Bd hml0 hP hK
  obtain ⟨rfl, hZ, hh⟩ := hP
  have hx := Bd.exec
  have hby := Bd.bytes
  have hml : c.maxLocals = 14 := hml0
  have hown : s.vm.findClass "com/example/processionary/processionary/automata/IntSetMembersPinLaw" = some m.cls := findClass_of_methodNamed Bd.named
  have hnm := (name_of_methodNamed Bd.named Bd.method).1
  have X0 : Stand p l e room_1 s m #[(.int p0), (.int p1), (.int p2), (.int p3), (.int p4)] below meth c s₁ [] 0 0 := Stand.of_body Bd
  have e0 : s₁.heap = h0 := by rw [← hh, Bd.state]; rfl
  have N0 := Fr.nil n0
  have K0 : (h0.size ≤ h0.size ∧ True) := ⟨Nat.le_refl _, trivial⟩
  obtain ⟨G, hG⟩ : ∃ z, z = s₁.setTop (entryFrame m #[(.int p0), (.int p1), (.int p2), (.int p3), (.int p4)] maxLocals) := ⟨_, rfl⟩
  have pre0 : Lead p e below G (s₁.setTop (mkF m 0 #[.val (.int p0), .val (.int p1), .val (.int p2), .val (.int p3), .val (.int p4), .unset, .unset, .unset, .unset, .unset, .unset, .unset, .unset, .unset] [])) := fun t k => by rw [hG]; exact castTop (ef_0 m p0 p1 p2 p3 p4) k
  have pre3 : Lead p e below G (s₁.setTop (mkF m 12 #[.val (.int p0), .val (.int p1), .val (.int p2), .val (.int p3), .val (.int p4), .unset, .unset, .unset, .unset, .unset, .unset, .unset, .unset, .unset] [(.int (if (p4 &&& (1 : Int32)) = (0 : Int32) then (0 : Int32) else (1 : Int32)))])) := fun t k => by
    refine pre0 t ?_
    show Steps p.tables e below (s₁.setTop (mkF m 0 #[.val (.int p0), .val (.int p1), .val (.int p2), .val (.int p3), .val (.int p4), .unset, .unset, .unset, .unset, .unset, .unset, .unset, .unset, .unset] [])) _
    refine XS.iload X0.here hx rfl (hb hby at_0) rfl ?_
    show Steps p.tables e below (s₁.setTop (mkF m 2 #[.val (.int p0), .val (.int p1), .val (.int p2), .val (.int p3), .val (.int p4), .unset, .unset, .unset, .unset, .unset, .unset, .unset, .unset, .unset] [(.int p4)])) _
    refine XS.iconst X0.here hx rfl (hb hby at_2) ?_
    refine XS.iand X0.here hx rfl (hb hby at_3) rfl ?_
    show Steps p.tables e below (s₁.setTop (mkF m 4 #[.val (.int p0), .val (.int p1), .val (.int p2), .val (.int p3), .val (.int p4), .unset, .unset, .unset, .unset, .unset, .unset, .unset, .unset, .unset] [(.int (p4 &&& (1 : Int32)))])) _
    have j2 : ∀ t, Steps p.tables e below (s₁.setTop (mkF m 12 #[.val (.int p0), .val (.int p1), .val (.int p2), .val (.int p3), .val (.int p4), .unset, .unset, .unset, .unset, .unset, .unset, .unset, .unset, .unset] [(.int (if (p4 &&& (1 : Int32)) = (0 : Int32) then (0 : Int32) else (1 : Int32)))])) t → Steps p.tables e below (s₁.setTop (mkF m 4 #[.val (.int p0), .val (.int p1), .val (.int p2), .val (.int p3), .val (.int p4), .unset, .unset, .unset, .unset, .unset, .unset, .unset, .unset, .unset] [(.int (p4 &&& (1 : Int32)))])) t := fun t k => by
      by_cases hc4_1 : (p4 &&& (1 : Int32)) = (0 : Int32)
      · simp only [if_pos hc4_1] at k
        refine XS.ifYes X0.here hx rfl (pc0 := 4) (pc' := 11) rfl (hb hby at_4) rfl ((if0 _ _).trans (teq hc4_1).1) (by decide) (by decide) ?_
        refine XS.iconst X0.here hx rfl (hb hby at_11) ?_
        show Steps p.tables e below (s₁.setTop (mkF m 12 #[.val (.int p0), .val (.int p1), .val (.int p2), .val (.int p3), .val (.int p4), .unset, .unset, .unset, .unset, .unset, .unset, .unset, .unset, .unset] [(.int (0 : Int32))])) _
        exact k
      · simp only [if_neg hc4_1] at k
        refine XS.ifNo X0.here hx rfl (hb hby at_4) rfl ((if0 _ _).trans (feq hc4_1).1) ?_
        refine XS.iconst X0.here hx rfl (hb hby at_7) ?_
        refine XS.goto X0.here hx rfl (pc0 := 8) (pc' := 12) rfl (hb hby at_8) (by decide) (by decide) ?_
        show Steps p.tables e below (s₁.setTop (mkF m 12 #[.val (.int p0), .val (.int p1), .val (.int p2), .val (.int p3), .val (.int p4), .unset, .unset, .unset, .unset, .unset, .unset, .unset, .unset, .unset] [(.int (1 : Int32))])) _
        exact k
    refine j2 _ ?_
    show Steps p.tables e below (s₁.setTop (mkF m 12 #[.val (.int p0), .val (.int p1), .val (.int p2), .val (.int p3), .val (.int p4), .unset, .unset, .unset, .unset, .unset, .unset, .unset, .unset, .unset] [(.int (if (p4 &&& (1 : Int32)) = (0 : Int32) then (0 : Int32) else (1 : Int32)))])) _
    exact k
  obtain ⟨v4, hv4⟩ : ∃ z : Int32, z = (if (p4 &&& (1 : Int32)) = (0 : Int32) then (0 : Int32) else (1 : Int32)) := ⟨_, rfl⟩
  have pre4 : Lead p e below G (s₁.setTop (mkF m 12 #[.val (.int p0), .val (.int p1), .val (.int p2), .val (.int p3), .val (.int p4), .unset, .unset, .unset, .unset, .unset, .unset, .unset, .unset, .unset] [(.int v4)])) := by rw [hv4]; exact pre3
  have pre7 : Lead p e below G (s₁.setTop (mkF m 26 #[.val (.int p0), .val (.int p1), .val (.int p2), .val (.int p3), .val (.int p4), .val (.int v4), .unset, .unset, .unset, .unset, .unset, .unset, .unset, .unset] [(.int (if (p4 &&& (2 : Int32)) = (0 : Int32) then (0 : Int32) else (1 : Int32)))])) := fun t k => by
    refine pre4 t ?_
    show Steps p.tables e below (s₁.setTop (mkF m 12 #[.val (.int p0), .val (.int p1), .val (.int p2), .val (.int p3), .val (.int p4), .unset, .unset, .unset, .unset, .unset, .unset, .unset, .unset, .unset] [(.int v4)])) _
    refine XS.istore X0.here hx rfl (hb hby at_12) rfl (l' := #[.val (.int p0), .val (.int p1), .val (.int p2), .val (.int p3), .val (.int p4), .val (.int v4), .unset, .unset, .unset, .unset, .unset, .unset, .unset, .unset]) rfl ?_
    refine XS.iload X0.here hx rfl (hb hby at_14) rfl ?_
    refine XS.iconst X0.here hx rfl (hb hby at_16) ?_
    show Steps p.tables e below (s₁.setTop (mkF m 17 #[.val (.int p0), .val (.int p1), .val (.int p2), .val (.int p3), .val (.int p4), .val (.int v4), .unset, .unset, .unset, .unset, .unset, .unset, .unset, .unset] [(.int (2 : Int32)), (.int p4)])) _
    refine XS.iand X0.here hx rfl (hb hby at_17) rfl ?_
    show Steps p.tables e below (s₁.setTop (mkF m 18 #[.val (.int p0), .val (.int p1), .val (.int p2), .val (.int p3), .val (.int p4), .val (.int v4), .unset, .unset, .unset, .unset, .unset, .unset, .unset, .unset] [(.int (p4 &&& (2 : Int32)))])) _
    have j6 : ∀ t, Steps p.tables e below (s₁.setTop (mkF m 26 #[.val (.int p0), .val (.int p1), .val (.int p2), .val (.int p3), .val (.int p4), .val (.int v4), .unset, .unset, .unset, .unset, .unset, .unset, .unset, .unset] [(.int (if (p4 &&& (2 : Int32)) = (0 : Int32) then (0 : Int32) else (1 : Int32)))])) t → Steps p.tables e below (s₁.setTop (mkF m 18 #[.val (.int p0), .val (.int p1), .val (.int p2), .val (.int p3), .val (.int p4), .val (.int v4), .unset, .unset, .unset, .unset, .unset, .unset, .unset, .unset] [(.int (p4 &&& (2 : Int32)))])) t := fun t k => by
      by_cases hc18_5 : (p4 &&& (2 : Int32)) = (0 : Int32)
      · simp only [if_pos hc18_5] at k
        refine XS.ifYes X0.here hx rfl (pc0 := 18) (pc' := 25) rfl (hb hby at_18) rfl ((if0 _ _).trans (teq hc18_5).1) (by decide) (by decide) ?_
        refine XS.iconst X0.here hx rfl (hb hby at_25) ?_
        exact k
      · simp only [if_neg hc18_5] at k
        refine XS.ifNo X0.here hx rfl (hb hby at_18) rfl ((if0 _ _).trans (feq hc18_5).1) ?_
        show Steps p.tables e below (s₁.setTop (mkF m 21 #[.val (.int p0), .val (.int p1), .val (.int p2), .val (.int p3), .val (.int p4), .val (.int v4), .unset, .unset, .unset, .unset, .unset, .unset, .unset, .unset] [])) _
        refine XS.iconst X0.here hx rfl (hb hby at_21) ?_
        refine XS.goto X0.here hx rfl (pc0 := 22) (pc' := 26) rfl (hb hby at_22) (by decide) (by decide) ?_
        exact k
    refine j6 _ ?_
    show Steps p.tables e below (s₁.setTop (mkF m 26 #[.val (.int p0), .val (.int p1), .val (.int p2), .val (.int p3), .val (.int p4), .val (.int v4), .unset, .unset, .unset, .unset, .unset, .unset, .unset, .unset] [(.int (if (p4 &&& (2 : Int32)) = (0 : Int32) then (0 : Int32) else (1 : Int32)))])) _
    exact k
  obtain ⟨v8, hv8⟩ : ∃ z : Int32, z = (if (p4 &&& (2 : Int32)) = (0 : Int32) then (0 : Int32) else (1 : Int32)) := ⟨_, rfl⟩
  have pre8 : Lead p e below G (s₁.setTop (mkF m 26 #[.val (.int p0), .val (.int p1), .val (.int p2), .val (.int p3), .val (.int p4), .val (.int v4), .unset, .unset, .unset, .unset, .unset, .unset, .unset, .unset] [(.int v8)])) := by rw [hv8]; exact pre7
  have pre9 : Lead p e below G (s₁.setTop (mkF m 31 #[.val (.int p0), .val (.int p1), .val (.int p2), .val (.int p3), .val (.int p4), .val (.int v4), .val (.int v8), .unset, .unset, .unset, .unset, .unset, .unset, .unset] [(.int v4), (.int p0)])) := fun t k => by
    refine pre8 t ?_
    show Steps p.tables e below (s₁.setTop (mkF m 26 #[.val (.int p0), .val (.int p1), .val (.int p2), .val (.int p3), .val (.int p4), .val (.int v4), .unset, .unset, .unset, .unset, .unset, .unset, .unset, .unset] [(.int v8)])) _
    refine XS.istore X0.here hx rfl (hb hby at_26) rfl (l' := #[.val (.int p0), .val (.int p1), .val (.int p2), .val (.int p3), .val (.int p4), .val (.int v4), .val (.int v8), .unset, .unset, .unset, .unset, .unset, .unset, .unset]) rfl ?_
    show Steps p.tables e below (s₁.setTop (mkF m 28 #[.val (.int p0), .val (.int p1), .val (.int p2), .val (.int p3), .val (.int p4), .val (.int v4), .val (.int v8), .unset, .unset, .unset, .unset, .unset, .unset, .unset] [])) _
    refine XS.iloadN X0.here hx rfl (hb hby at_28) rfl ?_
    refine XS.iload X0.here hx rfl (hb hby at_29) rfl ?_
    exact k
  obtain ⟨_, _, ⟨T10, L10, k10, n10⟩, -, X10, ⟨Lc10, hQ10, l10, y10, z10⟩, st10⟩ := Jvm.LawKit.callS X0 hx (y := (⟨"com/example/processionary/processionary/automata/IntSetMembersPinLaw", "pick", "(IZ)I"⟩ : MethodName)) hown (mvT hZ (hw _ (List.mem_of_getElem? (i := 0) rfl))) (mvT hZ (hw _ (List.mem_of_getElem? (i := 1) rfl))) (mvT hZ (hw _ (List.mem_of_getElem? (i := 2) rfl))) (mvT hZ (hw _ (List.mem_of_getElem? (i := 3) rfl))) (by decide) (backOf (W := 0) (rm1 l Z a0 hw [] p0 v4  h0 n0 (Nat.le_trans Z0 K0.1) ) hZ (hw _ (List.mem_of_getElem? (i := 3) rfl)) (hw _ (List.mem_of_getElem? (i := 2) rfl)) (by decide) (by decide)) (g := (mkF m 31 #[.val (.int p0), .val (.int p1), .val (.int p2), .val (.int p3), .val (.int p4), .val (.int v4), .val (.int v8), .unset, .unset, .unset, .unset, .unset, .unset, .unset] [(.int v4), (.int p0)])) rfl (by rw [hml]; rfl) (argsL := [(.int p0), (.int v4)]) (rest := []) (lenOf pd__28_IZ_29_I rfl) rfl (by show 2 * 0 + _ ≤ _; exact Nat.le_of_eq rfl) (hb hby at_31) (fun _ _ => ⟨rfl, e0, (by decide : 0 + 0 ≤ _), (by decide : 0 + 0 ≤ _)⟩)
  dsimp only [Pt.U, Pt.locs, Pt.cells, Pt.slots] at X10 l10 y10 z10 st10 hQ10
  subst l10 y10 z10
  obtain ⟨rfl, N10q, e10⟩ := hQ10
  have N10 := Fr.app N0 N10q
  obtain ⟨M10, Y10, N10⟩ : ∃ M, Stand p l e room_1 s m #[(.int p0), (.int p1), (.int p2), (.int p3), (.int p4)] below meth c T10 M 0 0 ∧ Fr n0 M := ⟨_, X10, N10⟩
  have pre10 : Lead p e below G (T10.setTop (mkF m 34 #[.val (.int p0), .val (.int p1), .val (.int p2), .val (.int p3), .val (.int p4), .val (.int v4), .val (.int v8), .unset, .unset, .unset, .unset, .unset, .unset, .unset] [(.int (F1 p0 v4))])) := fun t k => pre9 t (st10 _ k)
  have pre11 : Lead p e below G (T10.setTop (mkF m 39 #[.val (.int p0), .val (.int p1), .val (.int p2), .val (.int p3), .val (.int p4), .val (.int v4), .val (.int v8), .val (.int (F1 p0 v4)), .unset, .unset, .unset, .unset, .unset, .unset] [(.int v4), (.int p1)])) := fun t k => by
    refine pre10 t ?_
    show Steps p.tables e below (T10.setTop (mkF m 34 #[.val (.int p0), .val (.int p1), .val (.int p2), .val (.int p3), .val (.int p4), .val (.int v4), .val (.int v8), .unset, .unset, .unset, .unset, .unset, .unset, .unset] [(.int (F1 p0 v4))])) _
    refine XS.istore Y10.here hx rfl (hb hby at_34) rfl (l' := #[.val (.int p0), .val (.int p1), .val (.int p2), .val (.int p3), .val (.int p4), .val (.int v4), .val (.int v8), .val (.int (F1 p0 v4)), .unset, .unset, .unset, .unset, .unset, .unset]) rfl ?_
    show Steps p.tables e below (T10.setTop (mkF m 36 #[.val (.int p0), .val (.int p1), .val (.int p2), .val (.int p3), .val (.int p4), .val (.int v4), .val (.int v8), .val (.int (F1 p0 v4)), .unset, .unset, .unset, .unset, .unset, .unset] [])) _
    refine XS.iloadN Y10.here hx rfl (hb hby at_36) rfl ?_
    refine XS.iload Y10.here hx rfl (hb hby at_37) rfl ?_
    exact k
  obtain ⟨_, _, ⟨T12, L12, k12, n12⟩, -, X12, ⟨Lc12, hQ12, l12, y12, z12⟩, st12⟩ := Jvm.LawKit.callS Y10 hx (y := (⟨"com/example/processionary/processionary/automata/IntSetMembersPinLaw", "pick", "(IZ)I"⟩ : MethodName)) hown (mvT hZ (hw _ (List.mem_of_getElem? (i := 0) rfl))) (mvT hZ (hw _ (List.mem_of_getElem? (i := 1) rfl))) (mvT hZ (hw _ (List.mem_of_getElem? (i := 2) rfl))) (mvT hZ (hw _ (List.mem_of_getElem? (i := 3) rfl))) (by decide) (backOf (W := 0) (rm1 l Z a0 hw [] p1 v4  h0 n0 (Nat.le_trans Z0 K0.1) ) hZ (hw _ (List.mem_of_getElem? (i := 3) rfl)) (hw _ (List.mem_of_getElem? (i := 2) rfl)) (by decide) (by decide)) (g := (mkF m 39 #[.val (.int p0), .val (.int p1), .val (.int p2), .val (.int p3), .val (.int p4), .val (.int v4), .val (.int v8), .val (.int (F1 p0 v4)), .unset, .unset, .unset, .unset, .unset, .unset] [(.int v4), (.int p1)])) rfl (by rw [hml]; rfl) (argsL := [(.int p1), (.int v4)]) (rest := []) (lenOf pd__28_IZ_29_I rfl) rfl (by show 2 * 0 + _ ≤ _; exact Nat.le_of_eq rfl) (hb hby at_39) (fun _ _ => ⟨rfl, e10, (by decide : 0 + 0 ≤ _), (by decide : 0 + 0 ≤ _)⟩)
  dsimp only [Pt.U, Pt.locs, Pt.cells, Pt.slots] at X12 l12 y12 z12 st12 hQ12
  subst l12 y12 z12
  obtain ⟨rfl, N12q, e12⟩ := hQ12
  have N12 := Fr.app N10 N12q
  obtain ⟨M12, Y12, N12⟩ : ∃ M, Stand p l e room_1 s m #[(.int p0), (.int p1), (.int p2), (.int p3), (.int p4)] below meth c T12 M 0 0 ∧ Fr n0 M := ⟨_, X12, N12⟩
  have pre12 : Lead p e below G (T12.setTop (mkF m 42 #[.val (.int p0), .val (.int p1), .val (.int p2), .val (.int p3), .val (.int p4), .val (.int v4), .val (.int v8), .val (.int (F1 p0 v4)), .unset, .unset, .unset, .unset, .unset, .unset] [(.int (F1 p1 v4))])) := fun t k => pre11 t (st12 _ k)
  have pre13 : Lead p e below G (T12.setTop (mkF m 47 #[.val (.int p0), .val (.int p1), .val (.int p2), .val (.int p3), .val (.int p4), .val (.int v4), .val (.int v8), .val (.int (F1 p0 v4)), .val (.int (F1 p1 v4)), .unset, .unset, .unset, .unset, .unset] [(.int v4), (.int p2)])) := fun t k => by
    refine pre12 t ?_
    show Steps p.tables e below (T12.setTop (mkF m 42 #[.val (.int p0), .val (.int p1), .val (.int p2), .val (.int p3), .val (.int p4), .val (.int v4), .val (.int v8), .val (.int (F1 p0 v4)), .unset, .unset, .unset, .unset, .unset, .unset] [(.int (F1 p1 v4))])) _
    refine XS.istore Y12.here hx rfl (hb hby at_42) rfl (l' := #[.val (.int p0), .val (.int p1), .val (.int p2), .val (.int p3), .val (.int p4), .val (.int v4), .val (.int v8), .val (.int (F1 p0 v4)), .val (.int (F1 p1 v4)), .unset, .unset, .unset, .unset, .unset]) rfl ?_
    show Steps p.tables e below (T12.setTop (mkF m 44 #[.val (.int p0), .val (.int p1), .val (.int p2), .val (.int p3), .val (.int p4), .val (.int v4), .val (.int v8), .val (.int (F1 p0 v4)), .val (.int (F1 p1 v4)), .unset, .unset, .unset, .unset, .unset] [])) _
    refine XS.iloadN Y12.here hx rfl (hb hby at_44) rfl ?_
    refine XS.iload Y12.here hx rfl (hb hby at_45) rfl ?_
    exact k
  obtain ⟨_, _, ⟨T14, L14, k14, n14⟩, -, X14, ⟨Lc14, hQ14, l14, y14, z14⟩, st14⟩ := Jvm.LawKit.callS Y12 hx (y := (⟨"com/example/processionary/processionary/automata/IntSetMembersPinLaw", "pick", "(IZ)I"⟩ : MethodName)) hown (mvT hZ (hw _ (List.mem_of_getElem? (i := 0) rfl))) (mvT hZ (hw _ (List.mem_of_getElem? (i := 1) rfl))) (mvT hZ (hw _ (List.mem_of_getElem? (i := 2) rfl))) (mvT hZ (hw _ (List.mem_of_getElem? (i := 3) rfl))) (by decide) (backOf (W := 0) (rm1 l Z a0 hw [] p2 v4  h0 n0 (Nat.le_trans Z0 K0.1) ) hZ (hw _ (List.mem_of_getElem? (i := 3) rfl)) (hw _ (List.mem_of_getElem? (i := 2) rfl)) (by decide) (by decide)) (g := (mkF m 47 #[.val (.int p0), .val (.int p1), .val (.int p2), .val (.int p3), .val (.int p4), .val (.int v4), .val (.int v8), .val (.int (F1 p0 v4)), .val (.int (F1 p1 v4)), .unset, .unset, .unset, .unset, .unset] [(.int v4), (.int p2)])) rfl (by rw [hml]; rfl) (argsL := [(.int p2), (.int v4)]) (rest := []) (lenOf pd__28_IZ_29_I rfl) rfl (by show 2 * 0 + _ ≤ _; exact Nat.le_of_eq rfl) (hb hby at_47) (fun _ _ => ⟨rfl, e12, (by decide : 0 + 0 ≤ _), (by decide : 0 + 0 ≤ _)⟩)
  dsimp only [Pt.U, Pt.locs, Pt.cells, Pt.slots] at X14 l14 y14 z14 st14 hQ14
  subst l14 y14 z14
  obtain ⟨rfl, N14q, e14⟩ := hQ14
  have N14 := Fr.app N12 N14q
  obtain ⟨M14, Y14, N14⟩ : ∃ M, Stand p l e room_1 s m #[(.int p0), (.int p1), (.int p2), (.int p3), (.int p4)] below meth c T14 M 0 0 ∧ Fr n0 M := ⟨_, X14, N14⟩
  have pre14 : Lead p e below G (T14.setTop (mkF m 50 #[.val (.int p0), .val (.int p1), .val (.int p2), .val (.int p3), .val (.int p4), .val (.int v4), .val (.int v8), .val (.int (F1 p0 v4)), .val (.int (F1 p1 v4)), .unset, .unset, .unset, .unset, .unset] [(.int (F1 p2 v4))])) := fun t k => pre13 t (st14 _ k)
  have pre15 : Lead p e below G (T14.setTop (mkF m 56 #[.val (.int p0), .val (.int p1), .val (.int p2), .val (.int p3), .val (.int p4), .val (.int v4), .val (.int v8), .val (.int (F1 p0 v4)), .val (.int (F1 p1 v4)), .val (.int (F1 p2 v4)), .unset, .unset, .unset, .unset] [(.int (p4 &&& (4 : Int32)))])) := fun t k => by
    refine pre14 t ?_
    show Steps p.tables e below (T14.setTop (mkF m 50 #[.val (.int p0), .val (.int p1), .val (.int p2), .val (.int p3), .val (.int p4), .val (.int v4), .val (.int v8), .val (.int (F1 p0 v4)), .val (.int (F1 p1 v4)), .unset, .unset, .unset, .unset, .unset] [(.int (F1 p2 v4))])) _
    refine XS.istore Y14.here hx rfl (hb hby at_50) rfl (l' := #[.val (.int p0), .val (.int p1), .val (.int p2), .val (.int p3), .val (.int p4), .val (.int v4), .val (.int v8), .val (.int (F1 p0 v4)), .val (.int (F1 p1 v4)), .val (.int (F1 p2 v4)), .unset, .unset, .unset, .unset]) rfl ?_
    show Steps p.tables e below (T14.setTop (mkF m 52 #[.val (.int p0), .val (.int p1), .val (.int p2), .val (.int p3), .val (.int p4), .val (.int v4), .val (.int v8), .val (.int (F1 p0 v4)), .val (.int (F1 p1 v4)), .val (.int (F1 p2 v4)), .unset, .unset, .unset, .unset] [])) _
    refine XS.iload Y14.here hx rfl (hb hby at_52) rfl ?_
    refine XS.iconst Y14.here hx rfl (hb hby at_54) ?_
    refine XS.iand Y14.here hx rfl (hb hby at_55) rfl ?_
    show Steps p.tables e below (T14.setTop (mkF m 56 #[.val (.int p0), .val (.int p1), .val (.int p2), .val (.int p3), .val (.int p4), .val (.int v4), .val (.int v8), .val (.int (F1 p0 v4)), .val (.int (F1 p1 v4)), .val (.int (F1 p2 v4)), .unset, .unset, .unset, .unset] [(.int (p4 &&& (4 : Int32)))])) _
    exact k
  obtain ⟨v20, T16, M16, h16, hv20, Y16, e16, N16, K16, pre16⟩ : ∃ (v20 : Int32) (T16 : State) (M16 : List Loc) (h16 : Heap), v20 = (if (p4 &&& (4 : Int32)) = (0 : Int32) then (F1 p3 v4) else (F1 p0 v4)) ∧ Stand p l e room_1 s m #[(.int p0), (.int p1), (.int p2), (.int p3), (.int p4)] below meth c T16 M16 0 0 ∧ T16.heap = h16 ∧ Fr n0 M16 ∧ (h0.size ≤ h16.size ∧ True) ∧ Lead p e below G (T16.setTop (mkF m 70 #[.val (.int p0), .val (.int p1), .val (.int p2), .val (.int p3), .val (.int p4), .val (.int v4), .val (.int v8), .val (.int (F1 p0 v4)), .val (.int (F1 p1 v4)), .val (.int (F1 p2 v4)), .unset, .unset, .unset, .unset] [(.int v20)])) := by
    by_cases hj56_16 : (p4 &&& (4 : Int32)) = (0 : Int32)
    · have pre17 : Lead p e below G (T14.setTop (mkF m 67 #[.val (.int p0), .val (.int p1), .val (.int p2), .val (.int p3), .val (.int p4), .val (.int v4), .val (.int v8), .val (.int (F1 p0 v4)), .val (.int (F1 p1 v4)), .val (.int (F1 p2 v4)), .unset, .unset, .unset, .unset] [(.int v4), (.int p3)])) := fun t k => by
        refine pre15 t ?_
        show Steps p.tables e below (T14.setTop (mkF m 56 #[.val (.int p0), .val (.int p1), .val (.int p2), .val (.int p3), .val (.int p4), .val (.int v4), .val (.int v8), .val (.int (F1 p0 v4)), .val (.int (F1 p1 v4)), .val (.int (F1 p2 v4)), .unset, .unset, .unset, .unset] [(.int (p4 &&& (4 : Int32)))])) _
        refine XS.ifYes Y14.here hx rfl (pc0 := 56) (pc' := 64) rfl (hb hby at_56) rfl ((if0 _ _).trans (teq hj56_16).1) (by decide) (by decide) ?_
        refine XS.iloadN Y14.here hx rfl (hb hby at_64) rfl ?_
        refine XS.iload Y14.here hx rfl (hb hby at_65) rfl ?_
        show Steps p.tables e below (T14.setTop (mkF m 67 #[.val (.int p0), .val (.int p1), .val (.int p2), .val (.int p3), .val (.int p4), .val (.int v4), .val (.int v8), .val (.int (F1 p0 v4)), .val (.int (F1 p1 v4)), .val (.int (F1 p2 v4)), .unset, .unset, .unset, .unset] [(.int v4), (.int p3)])) _
        exact k
      obtain ⟨_, _, ⟨T18, L18, k18, n18⟩, -, X18, ⟨Lc18, hQ18, l18, y18, z18⟩, st18⟩ := Jvm.LawKit.callS Y14 hx (y := (⟨"com/example/processionary/processionary/automata/IntSetMembersPinLaw", "pick", "(IZ)I"⟩ : MethodName)) hown (mvT hZ (hw _ (List.mem_of_getElem? (i := 0) rfl))) (mvT hZ (hw _ (List.mem_of_getElem? (i := 1) rfl))) (mvT hZ (hw _ (List.mem_of_getElem? (i := 2) rfl))) (mvT hZ (hw _ (List.mem_of_getElem? (i := 3) rfl))) (by decide) (backOf (W := 0) (rm1 l Z a0 hw [] p3 v4  h0 n0 (Nat.le_trans Z0 K0.1) ) hZ (hw _ (List.mem_of_getElem? (i := 3) rfl)) (hw _ (List.mem_of_getElem? (i := 2) rfl)) (by decide) (by decide)) (g := (mkF m 67 #[.val (.int p0), .val (.int p1), .val (.int p2), .val (.int p3), .val (.int p4), .val (.int v4), .val (.int v8), .val (.int (F1 p0 v4)), .val (.int (F1 p1 v4)), .val (.int (F1 p2 v4)), .unset, .unset, .unset, .unset] [(.int v4), (.int p3)])) rfl (by rw [hml]; rfl) (argsL := [(.int p3), (.int v4)]) (rest := []) (lenOf pd__28_IZ_29_I rfl) rfl (by show 2 * 0 + _ ≤ _; exact Nat.le_of_eq rfl) (hb hby at_67) (fun _ _ => ⟨rfl, e14, (by decide : 0 + 0 ≤ _), (by decide : 0 + 0 ≤ _)⟩)
      dsimp only [Pt.U, Pt.locs, Pt.cells, Pt.slots] at X18 l18 y18 z18 st18 hQ18
      subst l18 y18 z18
      obtain ⟨rfl, N18q, e18⟩ := hQ18
      have N18 := Fr.app N14 N18q
      obtain ⟨M18, Y18, N18⟩ : ∃ M, Stand p l e room_1 s m #[(.int p0), (.int p1), (.int p2), (.int p3), (.int p4)] below meth c T18 M 0 0 ∧ Fr n0 M := ⟨_, X18, N18⟩
      have pre18 : Lead p e below G (T18.setTop (mkF m 70 #[.val (.int p0), .val (.int p1), .val (.int p2), .val (.int p3), .val (.int p4), .val (.int v4), .val (.int v8), .val (.int (F1 p0 v4)), .val (.int (F1 p1 v4)), .val (.int (F1 p2 v4)), .unset, .unset, .unset, .unset] [(.int (F1 p3 v4))])) := fun t k => pre17 t (st18 _ k)
      exact ⟨(F1 p3 v4), T18, _, _, (by skip; exact (if_pos hj56_16).symm), Y18.mono (by decide) (by decide), e18, N18, K0, pre18⟩
    · have pre19 : Lead p e below G (T14.setTop (mkF m 70 #[.val (.int p0), .val (.int p1), .val (.int p2), .val (.int p3), .val (.int p4), .val (.int v4), .val (.int v8), .val (.int (F1 p0 v4)), .val (.int (F1 p1 v4)), .val (.int (F1 p2 v4)), .unset, .unset, .unset, .unset] [(.int (F1 p0 v4))])) := fun t k => by
        refine pre15 t ?_
        show Steps p.tables e below (T14.setTop (mkF m 56 #[.val (.int p0), .val (.int p1), .val (.int p2), .val (.int p3), .val (.int p4), .val (.int v4), .val (.int v8), .val (.int (F1 p0 v4)), .val (.int (F1 p1 v4)), .val (.int (F1 p2 v4)), .unset, .unset, .unset, .unset] [(.int (p4 &&& (4 : Int32)))])) _
        refine XS.ifNo Y14.here hx rfl (hb hby at_56) rfl ((if0 _ _).trans (feq hj56_16).1) ?_
        refine XS.iload Y14.here hx rfl (hb hby at_59) rfl ?_
        refine XS.goto Y14.here hx rfl (pc0 := 61) (pc' := 70) rfl (hb hby at_61) (by decide) (by decide) ?_
        show Steps p.tables e below (T14.setTop (mkF m 70 #[.val (.int p0), .val (.int p1), .val (.int p2), .val (.int p3), .val (.int p4), .val (.int v4), .val (.int v8), .val (.int (F1 p0 v4)), .val (.int (F1 p1 v4)), .val (.int (F1 p2 v4)), .unset, .unset, .unset, .unset] [(.int (F1 p0 v4))])) _
        exact k
      exact ⟨(F1 p0 v4), T14, _, _, (by skip; exact (if_neg hj56_16).symm), Y14.mono (by decide) (by decide), e14, N14, K0, pre19⟩
  have pre21 : Lead p e below G (T16.setTop (mkF m 72 #[.val (.int p0), .val (.int p1), .val (.int p2), .val (.int p3), .val (.int p4), .val (.int v4), .val (.int v8), .val (.int (F1 p0 v4)), .val (.int (F1 p1 v4)), .val (.int (F1 p2 v4)), .val (.int v20), .unset, .unset, .unset] [])) := fun t k => by
    refine pre16 t ?_
    show Steps p.tables e below (T16.setTop (mkF m 70 #[.val (.int p0), .val (.int p1), .val (.int p2), .val (.int p3), .val (.int p4), .val (.int v4), .val (.int v8), .val (.int (F1 p0 v4)), .val (.int (F1 p1 v4)), .val (.int (F1 p2 v4)), .unset, .unset, .unset, .unset] [(.int v20)])) _
    refine XS.istore Y16.here hx rfl (hb hby at_70) rfl (l' := #[.val (.int p0), .val (.int p1), .val (.int p2), .val (.int p3), .val (.int p4), .val (.int v4), .val (.int v8), .val (.int (F1 p0 v4)), .val (.int (F1 p1 v4)), .val (.int (F1 p2 v4)), .val (.int v20), .unset, .unset, .unset]) rfl ?_
    exact k
  obtain ⟨T22, h22, X22, e22, E22, A22, D22, -, st22⟩ := newO Y16 hx hZ hown (hw _ (List.mem_of_getElem? (i := 5) rfl)) (hw _ (List.mem_of_getElem? (i := 6) rfl)) (hw _ (List.mem_of_getElem? (i := 7) rfl)) e16 (g := (mkF m 72 #[.val (.int p0), .val (.int p1), .val (.int p2), .val (.int p3), .val (.int p4), .val (.int v4), .val (.int v8), .val (.int (F1 p0 v4)), .val (.int (F1 p1 v4)), .val (.int (F1 p2 v4)), .val (.int v20), .unset, .unset, .unset] [])) rfl (hb hby at_72) (by decide) (by decide)
  obtain ⟨b22, g22⟩ : ∃ z, z = h16.size := ⟨_, rfl⟩
  rw [← g22] at A22 D22 st22
  have sz22 : h0.size ≤ b22 := Nat.le_trans K16.1 (Nat.le_of_eq g22.symm)
  have ge22 : n0 ≤ b22 := Nat.le_trans Z0 sz22
  have K22 : h0.size ≤ h22.size ∧ True := ⟨Nat.le_trans K16.1 E22.1, trivial⟩
  have F22_slots : Fld Z h22 b22 "com/example/processionary/processionary/automata/IntSet" "slots" "[I" .null := D22 (Or.inl (hw _ (List.mem_of_getElem? (i := 16) rfl))) (ty := (.array .int)) (by decide)
  have F22_size : Fld Z h22 b22 "com/example/processionary/processionary/automata/IntSet" "size" "I" (.int (0 : Int32)) := D22 (Or.inl (hw _ (List.mem_of_getElem? (i := 27) rfl))) (ty := .int) (by decide)
  have pre22 : Lead p e below G (T22.setTop (mkF m 75 #[.val (.int p0), .val (.int p1), .val (.int p2), .val (.int p3), .val (.int p4), .val (.int v4), .val (.int v8), .val (.int (F1 p0 v4)), .val (.int (F1 p1 v4)), .val (.int (F1 p2 v4)), .val (.int v20), .unset, .unset, .unset] [(.ref b22)])) := fun t k => pre21 t (st22 _ k)
  have pre23 : Lead p e below G (T22.setTop (mkF m 76 #[.val (.int p0), .val (.int p1), .val (.int p2), .val (.int p3), .val (.int p4), .val (.int v4), .val (.int v8), .val (.int (F1 p0 v4)), .val (.int (F1 p1 v4)), .val (.int (F1 p2 v4)), .val (.int v20), .unset, .unset, .unset] [(.ref b22), (.ref b22)])) := fun t k => by
    refine pre22 t ?_
    show Steps p.tables e below (T22.setTop (mkF m 75 #[.val (.int p0), .val (.int p1), .val (.int p2), .val (.int p3), .val (.int p4), .val (.int v4), .val (.int v8), .val (.int (F1 p0 v4)), .val (.int (F1 p1 v4)), .val (.int (F1 p2 v4)), .val (.int v20), .unset, .unset, .unset] [(.ref b22)])) _
    refine XS.dup X22.here hx rfl (hb hby at_75) rfl rfl ?_
    exact k
  obtain ⟨_, _, ⟨T24, L24, k24, n24⟩, -, X24, ⟨Lc24, hQ24, l24, y24, z24⟩, st24⟩ := X22.specialBack hx (y := (⟨"com/example/processionary/processionary/automata/IntSet", "<init>", "()V"⟩ : MethodName)) rfl hown (mvT hZ (hw _ (List.mem_of_getElem? (i := 8) rfl))) (mvT hZ (hw _ (List.mem_of_getElem? (i := 9) rfl))) (mvT hZ (hw _ (List.mem_of_getElem? (i := 10) rfl))) (by decide) (backOf (W := 1) (rm2 l Z a0 hw [] b22  h22 n0 (Nat.le_trans Z0 K22.1) A22 ge22 F22_slots F22_size) hZ (hw _ (List.mem_of_getElem? (i := 10) rfl)) (hw _ (List.mem_of_getElem? (i := 7) rfl)) (by decide) (by decide)) (g := (mkF m 76 #[.val (.int p0), .val (.int p1), .val (.int p2), .val (.int p3), .val (.int p4), .val (.int v4), .val (.int v8), .val (.int (F1 p0 v4)), .val (.int (F1 p1 v4)), .val (.int (F1 p2 v4)), .val (.int v20), .unset, .unset, .unset] [(.ref b22), (.ref b22)])) rfl (by rw [hml]; rfl) (Steps.refl _) (a := b22) (argsL := []) (rest := [(.ref b22)]) (lenOf pd__28__29_V rfl) rfl (by show 2 * 0 + _ ≤ _; exact Nat.le_of_eq rfl) (hb hby at_76) (fun _ _ => ⟨rfl, e22, (by decide : 1 + 1 ≤ _), (by decide : 2 + 4 ≤ _)⟩)
  dsimp only [Pt.U, Pt.locs, Pt.cells, Pt.slots] at X24 l24 y24 z24 st24 hQ24
  subst l24 y24 z24
  obtain ⟨wb_24, gr_24, rfl, N24q, K24c, c24_0, c24_1, c24_2, c24_3, c24_4, c24_5⟩ := hQ24
  have N24 := Fr.app N16 N24q
  have ne24_b22_wb_24 : b22 ≠ wb_24 := Nat.ne_of_lt (Nat.lt_of_lt_of_le A22.lt c24_3)
  have szwb_24 : h0.size ≤ wb_24 := Nat.le_trans K22.1 c24_3
  have gewb_24 : n0 ≤ wb_24 := Nat.le_trans Z0 szwb_24
  have K24 : h0.size ≤ T24.heap.size ∧ True := ⟨Nat.le_trans K22.1 K24c.1, trivial⟩
  obtain ⟨M24, Y24, N24⟩ : ∃ M, Stand p l e room_1 s m #[(.int p0), (.int p1), (.int p2), (.int p3), (.int p4)] below meth c T24 M 2 6 ∧ Fr n0 M := ⟨_, X24, N24⟩
  have pre24 : Lead p e below G (T24.setTop (mkF m 79 #[.val (.int p0), .val (.int p1), .val (.int p2), .val (.int p3), .val (.int p4), .val (.int v4), .val (.int v8), .val (.int (F1 p0 v4)), .val (.int (F1 p1 v4)), .val (.int (F1 p2 v4)), .val (.int v20), .unset, .unset, .unset] [(.ref b22)])) := fun t k => pre23 t (st24.trans k)
  have LS0 : LS gr_24 4 0 [] := ls0 c24_5
  have hx0 : ¬ (F1 p0 v4) = (-1 : Int32) := (by subst hv20 hv8 hv4; exact own_pk _ _)
  have hx1 : ¬ (F1 p1 v4) = (-1 : Int32) := (by subst hv20 hv8 hv4; exact own_pk _ _)
  have hx2 : ¬ (F1 p2 v4) = (-1 : Int32) := (by subst hv20 hv8 hv4; exact own_pk _ _)
  have hx3 : ¬ v20 = (-1 : Int32) := (by subst hv20 hv8 hv4; first | exact own_pk _ _ | (split <;> exact own_pk _ _))
  have pre25 : Lead p e below G (T24.setTop (mkF m 85 #[.val (.int p0), .val (.int p1), .val (.int p2), .val (.int p3), .val (.int p4), .val (.int v4), .val (.int v8), .val (.int (F1 p0 v4)), .val (.int (F1 p1 v4)), .val (.int (F1 p2 v4)), .val (.int v20), .val (.ref b22), .unset, .unset] [(.int (F1 p0 v4)), (.ref b22)])) := fun t k => by
    refine pre24 t ?_
    show Steps p.tables e below (T24.setTop (mkF m 79 #[.val (.int p0), .val (.int p1), .val (.int p2), .val (.int p3), .val (.int p4), .val (.int v4), .val (.int v8), .val (.int (F1 p0 v4)), .val (.int (F1 p1 v4)), .val (.int (F1 p2 v4)), .val (.int v20), .unset, .unset, .unset] [(.ref b22)])) _
    refine XS.astore Y24.here hx rfl (hb hby at_79) rfl rfl (l' := #[.val (.int p0), .val (.int p1), .val (.int p2), .val (.int p3), .val (.int p4), .val (.int v4), .val (.int v8), .val (.int (F1 p0 v4)), .val (.int (F1 p1 v4)), .val (.int (F1 p2 v4)), .val (.int v20), .val (.ref b22), .unset, .unset]) rfl ?_
    show Steps p.tables e below (T24.setTop (mkF m 81 #[.val (.int p0), .val (.int p1), .val (.int p2), .val (.int p3), .val (.int p4), .val (.int v4), .val (.int v8), .val (.int (F1 p0 v4)), .val (.int (F1 p1 v4)), .val (.int (F1 p2 v4)), .val (.int v20), .val (.ref b22), .unset, .unset] [])) _
    refine XS.aload Y24.here hx rfl (hb hby at_81) rfl rfl ?_
    refine XS.iload Y24.here hx rfl (hb hby at_83) rfl ?_
    exact k
  obtain ⟨cq26, kq26, q26a, q26b, q26c⟩ := isOf hZ rfl c24_0
  obtain ⟨_, _, ⟨T26, L26, k26, n26⟩, -, X26, ⟨Lc26, hQ26, l26, y26, z26⟩, st26⟩ := Y24.virtualBack hx (y := (⟨"com/example/processionary/processionary/automata/IntSet", "add", "(I)Z"⟩ : MethodName)) (z := (⟨"com/example/processionary/processionary/automata/IntSet", "add", "(I)Z"⟩ : MethodName)) hown (mvT hZ (hw _ (List.mem_of_getElem? (i := 21) rfl))) (mvT hZ (hw _ (List.mem_of_getElem? (i := 22) rfl))) (notFace_of_selects (args := #[]) (mvT hZ (hw _ (List.mem_of_getElem? (i := 24) rfl)))) (mvT hZ (hw _ (List.mem_of_getElem? (i := 24) rfl))) (mvT hZ (hw _ (List.mem_of_getElem? (i := 23) rfl))) (by decide) (backOf (W := 0) (rm5 l Z a0 hw [] b22 (F1 p0 v4) wb_24 (0 : Int32) (4 : Int32) gr_24 T24.heap n0 (Nat.le_trans Z0 K24.1) c24_0 c24_1 c24_2 c24_4 ge22 gewb_24 ne24_b22_wb_24 (show IS gr_24 (4 : Int32) (0 : Int32) from LS0.1) (show (0 : Int32).toInt ≤ 2 from (LS.le LS0 (show ((0 : Nat) : Int) ≤ 2 from by decide))) (show ¬ (F1 p0 v4) = (-1 : Int32) from hx0)) hZ (hw _ (List.mem_of_getElem? (i := 25) rfl)) (hw _ (List.mem_of_getElem? (i := 7) rfl)) (by decide) (by decide)) q26a q26c (g := (mkF m 85 #[.val (.int p0), .val (.int p1), .val (.int p2), .val (.int p3), .val (.int p4), .val (.int v4), .val (.int v8), .val (.int (F1 p0 v4)), .val (.int (F1 p1 v4)), .val (.int (F1 p2 v4)), .val (.int v20), .val (.ref b22), .unset, .unset] [(.int (F1 p0 v4)), (.ref b22)])) rfl (by rw [hml]; rfl) (Steps.refl _) (argsL := [(.int (F1 p0 v4))]) (rest := []) (lenOf pd__28_I_29_Z rfl) rfl (by show 2 * 0 + _ ≤ _; exact Nat.le_of_eq rfl) (hb hby at_85) (fun _ _ => ⟨rfl, rfl, (by decide : 2 + 1 ≤ _), (by decide : 6 + 8 ≤ _)⟩)
  dsimp only [Pt.U, Pt.locs, Pt.cells, Pt.slots] at X26 l26 y26 z26 st26 hQ26
  subst l26 y26 z26
  obtain ⟨s2_26, l2_26, g2_26, n2_26, rv_26, rfl, N26q, K26c, c26_0, c26_1, c26_2, c26_3, c26_4, c26_5, c26_6, c26_7⟩ := hQ26
  have N26 := Fr.app N24 N26q
  have K26 : h0.size ≤ T26.heap.size ∧ True := ⟨Nat.le_trans K24.1 K26c.1, trivial⟩
  obtain ⟨M26, Y26, N26⟩ : ∃ M, Stand p l e room_1 s m #[(.int p0), (.int p1), (.int p2), (.int p3), (.int p4)] below meth c T26 M 3 14 ∧ Fr n0 M := ⟨_, X26, N26⟩
  have pre26 : Lead p e below G (T26.setTop (mkF m 88 #[.val (.int p0), .val (.int p1), .val (.int p2), .val (.int p3), .val (.int p4), .val (.int v4), .val (.int v8), .val (.int (F1 p0 v4)), .val (.int (F1 p1 v4)), .val (.int (F1 p2 v4)), .val (.int v20), .val (.ref b22), .unset, .unset] [(.int rv_26)])) := fun t k => pre25 t (st26.trans k)
  have LS1 := ls1 LS0 c26_6 c26_7
  have pre27 : Lead p e below G (T26.setTop (mkF m 93 #[.val (.int p0), .val (.int p1), .val (.int p2), .val (.int p3), .val (.int p4), .val (.int v4), .val (.int v8), .val (.int (F1 p0 v4)), .val (.int (F1 p1 v4)), .val (.int (F1 p2 v4)), .val (.int v20), .val (.ref b22), .unset, .unset] [(.int (F1 p1 v4)), (.ref b22)])) := fun t k => by
    refine pre26 t ?_
    show Steps p.tables e below (T26.setTop (mkF m 88 #[.val (.int p0), .val (.int p1), .val (.int p2), .val (.int p3), .val (.int p4), .val (.int v4), .val (.int v8), .val (.int (F1 p0 v4)), .val (.int (F1 p1 v4)), .val (.int (F1 p2 v4)), .val (.int v20), .val (.ref b22), .unset, .unset] [(.int rv_26)])) _
    refine XS.pop Y26.here hx rfl (hb hby at_88) rfl rfl ?_
    show Steps p.tables e below (T26.setTop (mkF m 89 #[.val (.int p0), .val (.int p1), .val (.int p2), .val (.int p3), .val (.int p4), .val (.int v4), .val (.int v8), .val (.int (F1 p0 v4)), .val (.int (F1 p1 v4)), .val (.int (F1 p2 v4)), .val (.int v20), .val (.ref b22), .unset, .unset] [])) _
    refine XS.aload Y26.here hx rfl (hb hby at_89) rfl rfl ?_
    refine XS.iload Y26.here hx rfl (hb hby at_91) rfl ?_
    exact k
  obtain ⟨cq28, kq28, q28a, q28b, q28c⟩ := isOf hZ rfl c26_0
  obtain ⟨_, _, ⟨T28, L28, k28, n28⟩, -, X28, ⟨Lc28, hQ28, l28, y28, z28⟩, st28⟩ := Y26.virtualBack hx (y := (⟨"com/example/processionary/processionary/automata/IntSet", "add", "(I)Z"⟩ : MethodName)) (z := (⟨"com/example/processionary/processionary/automata/IntSet", "add", "(I)Z"⟩ : MethodName)) hown (mvT hZ (hw _ (List.mem_of_getElem? (i := 21) rfl))) (mvT hZ (hw _ (List.mem_of_getElem? (i := 22) rfl))) (notFace_of_selects (args := #[]) (mvT hZ (hw _ (List.mem_of_getElem? (i := 24) rfl)))) (mvT hZ (hw _ (List.mem_of_getElem? (i := 24) rfl))) (mvT hZ (hw _ (List.mem_of_getElem? (i := 23) rfl))) (by decide) (backOf (W := 0) (rm5 l Z a0 hw [] b22 (F1 p1 v4) s2_26 n2_26 l2_26 g2_26 T26.heap n0 (Nat.le_trans Z0 K26.1) c26_0 c26_1 c26_2 c26_3 ge22 c26_4 c26_5 (show IS g2_26 l2_26 n2_26 from LS1.1) (show n2_26.toInt ≤ 2 from (LS.le LS1 (show ((1 : Nat) : Int) ≤ 2 from by decide))) (show ¬ (F1 p1 v4) = (-1 : Int32) from hx1)) hZ (hw _ (List.mem_of_getElem? (i := 25) rfl)) (hw _ (List.mem_of_getElem? (i := 7) rfl)) (by decide) (by decide)) q28a q28c (g := (mkF m 93 #[.val (.int p0), .val (.int p1), .val (.int p2), .val (.int p3), .val (.int p4), .val (.int v4), .val (.int v8), .val (.int (F1 p0 v4)), .val (.int (F1 p1 v4)), .val (.int (F1 p2 v4)), .val (.int v20), .val (.ref b22), .unset, .unset] [(.int (F1 p1 v4)), (.ref b22)])) rfl (by rw [hml]; rfl) (Steps.refl _) (argsL := [(.int (F1 p1 v4))]) (rest := []) (lenOf pd__28_I_29_Z rfl) rfl (by show 2 * 0 + _ ≤ _; exact Nat.le_of_eq rfl) (hb hby at_93) (fun _ _ => ⟨rfl, rfl, (by decide : 3 + 1 ≤ _), (by decide : 14 + 8 ≤ _)⟩)
  dsimp only [Pt.U, Pt.locs, Pt.cells, Pt.slots] at X28 l28 y28 z28 st28 hQ28
  subst l28 y28 z28
  obtain ⟨s2_28, l2_28, g2_28, n2_28, rv_28, rfl, N28q, K28c, c28_0, c28_1, c28_2, c28_3, c28_4, c28_5, c28_6, c28_7⟩ := hQ28
  have N28 := Fr.app N26 N28q
  have K28 : h0.size ≤ T28.heap.size ∧ True := ⟨Nat.le_trans K26.1 K28c.1, trivial⟩
  obtain ⟨M28, Y28, N28⟩ : ∃ M, Stand p l e room_1 s m #[(.int p0), (.int p1), (.int p2), (.int p3), (.int p4)] below meth c T28 M 4 22 ∧ Fr n0 M := ⟨_, X28, N28⟩
  have pre28 : Lead p e below G (T28.setTop (mkF m 96 #[.val (.int p0), .val (.int p1), .val (.int p2), .val (.int p3), .val (.int p4), .val (.int v4), .val (.int v8), .val (.int (F1 p0 v4)), .val (.int (F1 p1 v4)), .val (.int (F1 p2 v4)), .val (.int v20), .val (.ref b22), .unset, .unset] [(.int rv_28)])) := fun t k => pre27 t (st28.trans k)
  have LS2 := ls1 LS1 c28_6 c28_7
  have pre29 : Lead p e below G (T28.setTop (mkF m 101 #[.val (.int p0), .val (.int p1), .val (.int p2), .val (.int p3), .val (.int p4), .val (.int v4), .val (.int v8), .val (.int (F1 p0 v4)), .val (.int (F1 p1 v4)), .val (.int (F1 p2 v4)), .val (.int v20), .val (.ref b22), .unset, .unset] [(.int (F1 p2 v4)), (.ref b22)])) := fun t k => by
    refine pre28 t ?_
    show Steps p.tables e below (T28.setTop (mkF m 96 #[.val (.int p0), .val (.int p1), .val (.int p2), .val (.int p3), .val (.int p4), .val (.int v4), .val (.int v8), .val (.int (F1 p0 v4)), .val (.int (F1 p1 v4)), .val (.int (F1 p2 v4)), .val (.int v20), .val (.ref b22), .unset, .unset] [(.int rv_28)])) _
    refine XS.pop Y28.here hx rfl (hb hby at_96) rfl rfl ?_
    show Steps p.tables e below (T28.setTop (mkF m 97 #[.val (.int p0), .val (.int p1), .val (.int p2), .val (.int p3), .val (.int p4), .val (.int v4), .val (.int v8), .val (.int (F1 p0 v4)), .val (.int (F1 p1 v4)), .val (.int (F1 p2 v4)), .val (.int v20), .val (.ref b22), .unset, .unset] [])) _
    refine XS.aload Y28.here hx rfl (hb hby at_97) rfl rfl ?_
    refine XS.iload Y28.here hx rfl (hb hby at_99) rfl ?_
    exact k
  obtain ⟨cq30, kq30, q30a, q30b, q30c⟩ := isOf hZ rfl c28_0
  obtain ⟨_, _, ⟨T30, L30, k30, n30⟩, -, X30, ⟨Lc30, hQ30, l30, y30, z30⟩, st30⟩ := Y28.virtualBack hx (y := (⟨"com/example/processionary/processionary/automata/IntSet", "add", "(I)Z"⟩ : MethodName)) (z := (⟨"com/example/processionary/processionary/automata/IntSet", "add", "(I)Z"⟩ : MethodName)) hown (mvT hZ (hw _ (List.mem_of_getElem? (i := 21) rfl))) (mvT hZ (hw _ (List.mem_of_getElem? (i := 22) rfl))) (notFace_of_selects (args := #[]) (mvT hZ (hw _ (List.mem_of_getElem? (i := 24) rfl)))) (mvT hZ (hw _ (List.mem_of_getElem? (i := 24) rfl))) (mvT hZ (hw _ (List.mem_of_getElem? (i := 23) rfl))) (by decide) (backOf (W := 0) (rm5 l Z a0 hw [] b22 (F1 p2 v4) s2_28 n2_28 l2_28 g2_28 T28.heap n0 (Nat.le_trans Z0 K28.1) c28_0 c28_1 c28_2 c28_3 ge22 c28_4 c28_5 (show IS g2_28 l2_28 n2_28 from LS2.1) (show n2_28.toInt ≤ 2 from (LS.le LS2 (show ((2 : Nat) : Int) ≤ 2 from by decide))) (show ¬ (F1 p2 v4) = (-1 : Int32) from hx2)) hZ (hw _ (List.mem_of_getElem? (i := 25) rfl)) (hw _ (List.mem_of_getElem? (i := 7) rfl)) (by decide) (by decide)) q30a q30c (g := (mkF m 101 #[.val (.int p0), .val (.int p1), .val (.int p2), .val (.int p3), .val (.int p4), .val (.int v4), .val (.int v8), .val (.int (F1 p0 v4)), .val (.int (F1 p1 v4)), .val (.int (F1 p2 v4)), .val (.int v20), .val (.ref b22), .unset, .unset] [(.int (F1 p2 v4)), (.ref b22)])) rfl (by rw [hml]; rfl) (Steps.refl _) (argsL := [(.int (F1 p2 v4))]) (rest := []) (lenOf pd__28_I_29_Z rfl) rfl (by show 2 * 0 + _ ≤ _; exact Nat.le_of_eq rfl) (hb hby at_101) (fun _ _ => ⟨rfl, rfl, (by decide : 4 + 1 ≤ _), (by decide : 22 + 8 ≤ _)⟩)
  dsimp only [Pt.U, Pt.locs, Pt.cells, Pt.slots] at X30 l30 y30 z30 st30 hQ30
  subst l30 y30 z30
  obtain ⟨s2_30, l2_30, g2_30, n2_30, rv_30, rfl, N30q, K30c, c30_0, c30_1, c30_2, c30_3, c30_4, c30_5, c30_6, c30_7⟩ := hQ30
  have N30 := Fr.app N28 N30q
  have K30 : h0.size ≤ T30.heap.size ∧ True := ⟨Nat.le_trans K28.1 K30c.1, trivial⟩
  obtain ⟨M30, Y30, N30⟩ : ∃ M, Stand p l e room_1 s m #[(.int p0), (.int p1), (.int p2), (.int p3), (.int p4)] below meth c T30 M 5 30 ∧ Fr n0 M := ⟨_, X30, N30⟩
  have pre30 : Lead p e below G (T30.setTop (mkF m 104 #[.val (.int p0), .val (.int p1), .val (.int p2), .val (.int p3), .val (.int p4), .val (.int v4), .val (.int v8), .val (.int (F1 p0 v4)), .val (.int (F1 p1 v4)), .val (.int (F1 p2 v4)), .val (.int v20), .val (.ref b22), .unset, .unset] [(.int rv_30)])) := fun t k => pre29 t (st30.trans k)
  have LS3 := ls1 LS2 c30_6 c30_7
  have pre31 : Lead p e below G (T30.setTop (mkF m 107 #[.val (.int p0), .val (.int p1), .val (.int p2), .val (.int p3), .val (.int p4), .val (.int v4), .val (.int v8), .val (.int (F1 p0 v4)), .val (.int (F1 p1 v4)), .val (.int (F1 p2 v4)), .val (.int v20), .val (.ref b22), .unset, .unset] [(.int v8)])) := fun t k => by
    refine pre30 t ?_
    show Steps p.tables e below (T30.setTop (mkF m 104 #[.val (.int p0), .val (.int p1), .val (.int p2), .val (.int p3), .val (.int p4), .val (.int v4), .val (.int v8), .val (.int (F1 p0 v4)), .val (.int (F1 p1 v4)), .val (.int (F1 p2 v4)), .val (.int v20), .val (.ref b22), .unset, .unset] [(.int rv_30)])) _
    refine XS.pop Y30.here hx rfl (hb hby at_104) rfl rfl ?_
    show Steps p.tables e below (T30.setTop (mkF m 105 #[.val (.int p0), .val (.int p1), .val (.int p2), .val (.int p3), .val (.int p4), .val (.int v4), .val (.int v8), .val (.int (F1 p0 v4)), .val (.int (F1 p1 v4)), .val (.int (F1 p2 v4)), .val (.int v20), .val (.ref b22), .unset, .unset] [])) _
    refine XS.iload Y30.here hx rfl (hb hby at_105) rfl ?_
    exact k
  obtain ⟨g9_32, n9_32, T32, M32, h32, q32_0, Y32, e32, N32, K32, f32_0, f32_1, f32_2, f32_3, pre32⟩ : ∃ (g9_32 : Nat → Int32) (n9_32 : Int32) (T32 : State) (M32 : List Loc) (h32 : Heap), (FM g9_32 l2_30 n9_32 (F1 p0 v4) (F1 p1 v4) (F1 p2 v4) v8 v20) ∧ Stand p l e room_1 s m #[(.int p0), (.int p1), (.int p2), (.int p3), (.int p4)] below meth c T32 M32 5 30 ∧ T32.heap = h32 ∧ Fr n0 M32 ∧ (h0.size ≤ h32.size ∧ True) ∧ Exa Z h32 b22 "com/example/processionary/processionary/automata/IntSet" ∧ Fld Z h32 b22 "com/example/processionary/processionary/automata/IntSet" "slots" "[I" (.ref s2_30) ∧ Fld Z h32 b22 "com/example/processionary/processionary/automata/IntSet" "size" "I" (.int n9_32) ∧ JV Value.int Z h32 s2_30 .int l2_30 g9_32 ∧ Lead p e below G (T32.setTop (mkF m 118 #[.val (.int p0), .val (.int p1), .val (.int p2), .val (.int p3), .val (.int p4), .val (.int v4), .val (.int v8), .val (.int (F1 p0 v4)), .val (.int (F1 p1 v4)), .val (.int (F1 p2 v4)), .val (.int v20), .val (.ref b22), .unset, .unset] [])) := by
    by_cases hj107_32 : v8 = (0 : Int32)
    · have pre33 : Lead p e below G (T30.setTop (mkF m 118 #[.val (.int p0), .val (.int p1), .val (.int p2), .val (.int p3), .val (.int p4), .val (.int v4), .val (.int v8), .val (.int (F1 p0 v4)), .val (.int (F1 p1 v4)), .val (.int (F1 p2 v4)), .val (.int v20), .val (.ref b22), .unset, .unset] [])) := fun t k => by
        refine pre31 t ?_
        show Steps p.tables e below (T30.setTop (mkF m 107 #[.val (.int p0), .val (.int p1), .val (.int p2), .val (.int p3), .val (.int p4), .val (.int v4), .val (.int v8), .val (.int (F1 p0 v4)), .val (.int (F1 p1 v4)), .val (.int (F1 p2 v4)), .val (.int v20), .val (.ref b22), .unset, .unset] [(.int v8)])) _
        refine XS.ifYes Y30.here hx rfl (pc0 := 107) (pc' := 118) rfl (hb hby at_107) rfl ((if0 _ _).trans (teq hj107_32).1) (by decide) (by decide) ?_
        exact k
      exact ⟨g2_30, n2_30, T30, _, _, (fm0 LS3 hj107_32), Y30.mono (by decide) (by decide), rfl, N30, K30, c30_0, c30_1, c30_2, c30_3, pre33⟩
    · have pre34 : Lead p e below G (T30.setTop (mkF m 114 #[.val (.int p0), .val (.int p1), .val (.int p2), .val (.int p3), .val (.int p4), .val (.int v4), .val (.int v8), .val (.int (F1 p0 v4)), .val (.int (F1 p1 v4)), .val (.int (F1 p2 v4)), .val (.int v20), .val (.ref b22), .unset, .unset] [(.int v20), (.ref b22)])) := fun t k => by
        refine pre31 t ?_
        show Steps p.tables e below (T30.setTop (mkF m 107 #[.val (.int p0), .val (.int p1), .val (.int p2), .val (.int p3), .val (.int p4), .val (.int v4), .val (.int v8), .val (.int (F1 p0 v4)), .val (.int (F1 p1 v4)), .val (.int (F1 p2 v4)), .val (.int v20), .val (.ref b22), .unset, .unset] [(.int v8)])) _
        refine XS.ifNo Y30.here hx rfl (hb hby at_107) rfl ((if0 _ _).trans (feq hj107_32).1) ?_
        show Steps p.tables e below (T30.setTop (mkF m 110 #[.val (.int p0), .val (.int p1), .val (.int p2), .val (.int p3), .val (.int p4), .val (.int v4), .val (.int v8), .val (.int (F1 p0 v4)), .val (.int (F1 p1 v4)), .val (.int (F1 p2 v4)), .val (.int v20), .val (.ref b22), .unset, .unset] [])) _
        refine XS.aload Y30.here hx rfl (hb hby at_110) rfl rfl ?_
        refine XS.iload Y30.here hx rfl (hb hby at_112) rfl ?_
        exact k
      obtain ⟨cq35, kq35, q35a, q35b, q35c⟩ := isOf hZ rfl c30_0
      obtain ⟨_, _, ⟨T35, L35, k35, n35⟩, -, X35, ⟨Lc35, hQ35, l35, y35, z35⟩, st35⟩ := Y30.virtualBack hx (y := (⟨"com/example/processionary/processionary/automata/IntSet", "remove", "(I)Z"⟩ : MethodName)) (z := (⟨"com/example/processionary/processionary/automata/IntSet", "remove", "(I)Z"⟩ : MethodName)) hown (mvT hZ (hw _ (List.mem_of_getElem? (i := 44) rfl))) (mvT hZ (hw _ (List.mem_of_getElem? (i := 45) rfl))) (notFace_of_selects (args := #[]) (mvT hZ (hw _ (List.mem_of_getElem? (i := 47) rfl)))) (mvT hZ (hw _ (List.mem_of_getElem? (i := 47) rfl))) (mvT hZ (hw _ (List.mem_of_getElem? (i := 46) rfl))) (by decide) (backOf (W := 0) (rm10 l Z a0 hw [] b22 v20 s2_30 n2_30 l2_30 g2_30 T30.heap n0 (Nat.le_trans Z0 K30.1) c30_0 c30_1 c30_2 c30_3 ge22 c30_4 c30_5 (show IS g2_30 l2_30 n2_30 from LS3.1) (show n2_30.toInt ≤ 3 from (LS.le LS3 (show ((3 : Nat) : Int) ≤ 3 from by decide))) (show ¬ v20 = (-1 : Int32) from hx3)) hZ (hw _ (List.mem_of_getElem? (i := 48) rfl)) (hw _ (List.mem_of_getElem? (i := 7) rfl)) (by decide) (by decide)) q35a q35c (g := (mkF m 114 #[.val (.int p0), .val (.int p1), .val (.int p2), .val (.int p3), .val (.int p4), .val (.int v4), .val (.int v8), .val (.int (F1 p0 v4)), .val (.int (F1 p1 v4)), .val (.int (F1 p2 v4)), .val (.int v20), .val (.ref b22), .unset, .unset] [(.int v20), (.ref b22)])) rfl (by rw [hml]; rfl) (Steps.refl _) (argsL := [(.int v20)]) (rest := []) (lenOf pd__28_I_29_Z rfl) rfl (by show 2 * 0 + _ ≤ _; exact Nat.le_of_eq rfl) (hb hby at_114) (fun _ _ => ⟨rfl, rfl, (by decide : 5 + 0 ≤ _), (by decide : 30 + 0 ≤ _)⟩)
      dsimp only [Pt.U, Pt.locs, Pt.cells, Pt.slots] at X35 l35 y35 z35 st35 hQ35
      subst l35 y35 z35
      obtain ⟨g2_35, n2_35, rv_35, rfl, N35q, K35c, c35_0, c35_1, c35_2, c35_3, c35_4⟩ := hQ35
      have N35 := Fr.app N30 N35q
      have K35 : h0.size ≤ T35.heap.size ∧ True := ⟨Nat.le_trans K30.1 K35c.1, trivial⟩
      obtain ⟨M35, Y35, N35⟩ : ∃ M, Stand p l e room_1 s m #[(.int p0), (.int p1), (.int p2), (.int p3), (.int p4)] below meth c T35 M 5 30 ∧ Fr n0 M := ⟨_, X35, N35⟩
      have pre35 : Lead p e below G (T35.setTop (mkF m 117 #[.val (.int p0), .val (.int p1), .val (.int p2), .val (.int p3), .val (.int p4), .val (.int v4), .val (.int v8), .val (.int (F1 p0 v4)), .val (.int (F1 p1 v4)), .val (.int (F1 p2 v4)), .val (.int v20), .val (.ref b22), .unset, .unset] [(.int rv_35)])) := fun t k => pre34 t (st35.trans k)
      have pre36 : Lead p e below G (T35.setTop (mkF m 118 #[.val (.int p0), .val (.int p1), .val (.int p2), .val (.int p3), .val (.int p4), .val (.int v4), .val (.int v8), .val (.int (F1 p0 v4)), .val (.int (F1 p1 v4)), .val (.int (F1 p2 v4)), .val (.int v20), .val (.ref b22), .unset, .unset] [])) := fun t k => by
        refine pre35 t ?_
        show Steps p.tables e below (T35.setTop (mkF m 117 #[.val (.int p0), .val (.int p1), .val (.int p2), .val (.int p3), .val (.int p4), .val (.int v4), .val (.int v8), .val (.int (F1 p0 v4)), .val (.int (F1 p1 v4)), .val (.int (F1 p2 v4)), .val (.int v20), .val (.ref b22), .unset, .unset] [(.int rv_35)])) _
        refine XS.pop Y35.here hx rfl (hb hby at_117) rfl rfl ?_
        show Steps p.tables e below (T35.setTop (mkF m 118 #[.val (.int p0), .val (.int p1), .val (.int p2), .val (.int p3), .val (.int p4), .val (.int v4), .val (.int v8), .val (.int (F1 p0 v4)), .val (.int (F1 p1 v4)), .val (.int (F1 p2 v4)), .val (.int v20), .val (.ref b22), .unset, .unset] [])) _
        exact k
      exact ⟨g2_35, n2_35, T35, _, _, (fm1 LS3 hj107_32 c35_4), Y35.mono (by decide) (by decide), rfl, N35, K35, c35_0, c35_1, c35_2, c35_3, pre36⟩
  have pre37 : Lead p e below G (T32.setTop (mkF m 120 #[.val (.int p0), .val (.int p1), .val (.int p2), .val (.int p3), .val (.int p4), .val (.int v4), .val (.int v8), .val (.int (F1 p0 v4)), .val (.int (F1 p1 v4)), .val (.int (F1 p2 v4)), .val (.int v20), .val (.ref b22), .unset, .unset] [(.ref b22)])) := fun t k => by
    refine pre32 t ?_
    show Steps p.tables e below (T32.setTop (mkF m 118 #[.val (.int p0), .val (.int p1), .val (.int p2), .val (.int p3), .val (.int p4), .val (.int v4), .val (.int v8), .val (.int (F1 p0 v4)), .val (.int (F1 p1 v4)), .val (.int (F1 p2 v4)), .val (.int v20), .val (.ref b22), .unset, .unset] [])) _
    refine XS.aload Y32.here hx rfl (hb hby at_118) rfl rfl ?_
    exact k
  obtain ⟨cq38, kq38, q38a, q38b, q38c⟩ := isOf hZ e32 f32_0
  obtain ⟨_, _, ⟨T38, L38, k38, n38⟩, -, X38, ⟨Lc38, hQ38, l38, y38, z38⟩, st38⟩ := Y32.virtualBack hx (y := (⟨"com/example/processionary/processionary/automata/IntSet", "members", "()[I"⟩ : MethodName)) (z := (⟨"com/example/processionary/processionary/automata/IntSet", "members", "()[I"⟩ : MethodName)) hown (mvT hZ (hw _ (List.mem_of_getElem? (i := 36) rfl))) (mvT hZ (hw _ (List.mem_of_getElem? (i := 37) rfl))) (notFace_of_selects (args := #[]) (mvT hZ (hw _ (List.mem_of_getElem? (i := 39) rfl)))) (mvT hZ (hw _ (List.mem_of_getElem? (i := 39) rfl))) (mvT hZ (hw _ (List.mem_of_getElem? (i := 38) rfl))) (by decide) (backOf (W := 0) (rm8 l Z a0 hw [] b22 s2_30 n9_32 l2_30 g9_32 h32 n0 (Nat.le_trans Z0 K32.1) f32_0 f32_1 f32_2 f32_3 (show L48 l2_30 from (q32_0).1) (show n9_32.toInt = ((TL g9_32 l2_30.toInt.toNat).length : Int) from (q32_0).2.1) (show n9_32.toInt ≤ 3 from (q32_0).2.2.1)) hZ (hw _ (List.mem_of_getElem? (i := 40) rfl)) (hw _ (List.mem_of_getElem? (i := 7) rfl)) (by decide) (by decide)) q38a q38c (g := (mkF m 120 #[.val (.int p0), .val (.int p1), .val (.int p2), .val (.int p3), .val (.int p4), .val (.int v4), .val (.int v8), .val (.int (F1 p0 v4)), .val (.int (F1 p1 v4)), .val (.int (F1 p2 v4)), .val (.int v20), .val (.ref b22), .unset, .unset] [(.ref b22)])) rfl (by rw [hml]; rfl) (Steps.refl _) (argsL := []) (rest := []) (lenOf pd__28__29__5b_I rfl) rfl (by show 2 * 0 + _ ≤ _; exact Nat.le_of_eq rfl) (hb hby at_120) (fun _ _ => ⟨rfl, e32, (by decide : 5 + 1 ≤ _), (by decide : 30 + 3 ≤ _)⟩)
  dsimp only [Pt.U, Pt.locs, Pt.cells, Pt.slots] at X38 l38 y38 z38 st38 hQ38
  subst l38 y38 z38
  obtain ⟨mb_38, gm_38, rfl, N38q, K38c, c38_0, c38_1, c38_2⟩ := hQ38
  have N38 := Fr.app N32 N38q
  have ne38_b22_mb_38 : b22 ≠ mb_38 := Nat.ne_of_lt (Nat.lt_of_lt_of_le f32_0.lt c38_0)
  have ne38_s2_30_mb_38 : s2_30 ≠ mb_38 := Nat.ne_of_lt (Nat.lt_of_lt_of_le f32_3.lt c38_0)
  have szmb_38 : h0.size ≤ mb_38 := Nat.le_trans K32.1 c38_0
  have gemb_38 : n0 ≤ mb_38 := Nat.le_trans Z0 szmb_38
  have K38 : h0.size ≤ T38.heap.size ∧ True := ⟨Nat.le_trans K32.1 K38c.1, trivial⟩
  obtain ⟨M38, Y38, N38⟩ : ∃ M, Stand p l e room_1 s m #[(.int p0), (.int p1), (.int p2), (.int p3), (.int p4)] below meth c T38 M 6 33 ∧ Fr n0 M := ⟨_, X38, N38⟩
  have pre38 : Lead p e below G (T38.setTop (mkF m 123 #[.val (.int p0), .val (.int p1), .val (.int p2), .val (.int p3), .val (.int p4), .val (.int v4), .val (.int v8), .val (.int (F1 p0 v4)), .val (.int (F1 p1 v4)), .val (.int (F1 p2 v4)), .val (.int v20), .val (.ref b22), .unset, .unset] [(.ref mb_38)])) := fun t k => pre37 t (st38.trans k)
  have pre39 : Lead p e below G (T38.setTop (mkF m 140 #[.val (.int p0), .val (.int p1), .val (.int p2), .val (.int p3), .val (.int p4), .val (.int v4), .val (.int v8), .val (.int (F1 p0 v4)), .val (.int (F1 p1 v4)), .val (.int (F1 p2 v4)), .val (.int v20), .val (.ref b22), .val (.ref mb_38), .val (.int (0 : Int32))] [(.int v20), (.int v8), (.int (F1 p2 v4)), (.int (F1 p1 v4)), (.int (F1 p0 v4)), (.int (F1 p0 v4))])) := fun t k => by
    refine pre38 t ?_
    show Steps p.tables e below (T38.setTop (mkF m 123 #[.val (.int p0), .val (.int p1), .val (.int p2), .val (.int p3), .val (.int p4), .val (.int v4), .val (.int v8), .val (.int (F1 p0 v4)), .val (.int (F1 p1 v4)), .val (.int (F1 p2 v4)), .val (.int v20), .val (.ref b22), .unset, .unset] [(.ref mb_38)])) _
    refine XS.astore Y38.here hx rfl (hb hby at_123) rfl rfl (l' := #[.val (.int p0), .val (.int p1), .val (.int p2), .val (.int p3), .val (.int p4), .val (.int v4), .val (.int v8), .val (.int (F1 p0 v4)), .val (.int (F1 p1 v4)), .val (.int (F1 p2 v4)), .val (.int v20), .val (.ref b22), .val (.ref mb_38), .unset]) rfl ?_
    refine XS.iconst Y38.here hx rfl (hb hby at_125) ?_
    show Steps p.tables e below (T38.setTop (mkF m 126 #[.val (.int p0), .val (.int p1), .val (.int p2), .val (.int p3), .val (.int p4), .val (.int v4), .val (.int v8), .val (.int (F1 p0 v4)), .val (.int (F1 p1 v4)), .val (.int (F1 p2 v4)), .val (.int v20), .val (.ref b22), .val (.ref mb_38), .unset] [(.int (0 : Int32))])) _
    refine XS.istore Y38.here hx rfl (hb hby at_126) rfl (l' := #[.val (.int p0), .val (.int p1), .val (.int p2), .val (.int p3), .val (.int p4), .val (.int v4), .val (.int v8), .val (.int (F1 p0 v4)), .val (.int (F1 p1 v4)), .val (.int (F1 p2 v4)), .val (.int v20), .val (.ref b22), .val (.ref mb_38), .val (.int (0 : Int32))]) rfl ?_
    refine XS.iload Y38.here hx rfl (hb hby at_128) rfl ?_
    refine XS.iload Y38.here hx rfl (hb hby at_130) rfl ?_
    show Steps p.tables e below (T38.setTop (mkF m 132 #[.val (.int p0), .val (.int p1), .val (.int p2), .val (.int p3), .val (.int p4), .val (.int v4), .val (.int v8), .val (.int (F1 p0 v4)), .val (.int (F1 p1 v4)), .val (.int (F1 p2 v4)), .val (.int v20), .val (.ref b22), .val (.ref mb_38), .val (.int (0 : Int32))] [(.int (F1 p0 v4)), (.int (F1 p0 v4))])) _
    refine XS.iload Y38.here hx rfl (hb hby at_132) rfl ?_
    refine XS.iload Y38.here hx rfl (hb hby at_134) rfl ?_
    refine XS.iload Y38.here hx rfl (hb hby at_136) rfl ?_
    show Steps p.tables e below (T38.setTop (mkF m 138 #[.val (.int p0), .val (.int p1), .val (.int p2), .val (.int p3), .val (.int p4), .val (.int v4), .val (.int v8), .val (.int (F1 p0 v4)), .val (.int (F1 p1 v4)), .val (.int (F1 p2 v4)), .val (.int v20), .val (.ref b22), .val (.ref mb_38), .val (.int (0 : Int32))] [(.int v8), (.int (F1 p2 v4)), (.int (F1 p1 v4)), (.int (F1 p0 v4)), (.int (F1 p0 v4))])) _
    refine XS.iload Y38.here hx rfl (hb hby at_138) rfl ?_
    exact k
  obtain ⟨_, _, ⟨T40, L40, k40, n40⟩, -, X40, ⟨Lc40, hQ40, l40, y40, z40⟩, st40⟩ := Jvm.LawKit.callS Y38 hx (y := (⟨"com/example/processionary/processionary/automata/IntSetMembersPinLaw", "in", "(IIIIZI)Z"⟩ : MethodName)) hown (mvT hZ (hw _ (List.mem_of_getElem? (i := 41) rfl))) (mvT hZ (hw _ (List.mem_of_getElem? (i := 42) rfl))) (mvT hZ (hw _ (List.mem_of_getElem? (i := 2) rfl))) (mvT hZ (hw _ (List.mem_of_getElem? (i := 43) rfl))) (by decide) (backOf (W := 0) (rm9 l Z a0 hw [] (F1 p0 v4) (F1 p0 v4) (F1 p1 v4) (F1 p2 v4) v8 v20  T38.heap n0 (Nat.le_trans Z0 K38.1) ) hZ (hw _ (List.mem_of_getElem? (i := 43) rfl)) (hw _ (List.mem_of_getElem? (i := 2) rfl)) (by decide) (by decide)) (g := (mkF m 140 #[.val (.int p0), .val (.int p1), .val (.int p2), .val (.int p3), .val (.int p4), .val (.int v4), .val (.int v8), .val (.int (F1 p0 v4)), .val (.int (F1 p1 v4)), .val (.int (F1 p2 v4)), .val (.int v20), .val (.ref b22), .val (.ref mb_38), .val (.int (0 : Int32))] [(.int v20), (.int v8), (.int (F1 p2 v4)), (.int (F1 p1 v4)), (.int (F1 p0 v4)), (.int (F1 p0 v4))])) rfl (by rw [hml]; rfl) (argsL := [(.int (F1 p0 v4)), (.int (F1 p0 v4)), (.int (F1 p1 v4)), (.int (F1 p2 v4)), (.int v8), (.int v20)]) (rest := []) (lenOf pd__28_IIIIZI_29_Z rfl) rfl (by show 2 * 0 + _ ≤ _; exact Nat.le_of_eq rfl) (hb hby at_140) (fun _ _ => ⟨rfl, rfl, (by decide : 6 + 0 ≤ _), (by decide : 33 + 0 ≤ _)⟩)
  dsimp only [Pt.U, Pt.locs, Pt.cells, Pt.slots] at X40 l40 y40 z40 st40 hQ40
  subst l40 y40 z40
  obtain ⟨rfl, N40q, e40⟩ := hQ40
  have N40 := Fr.app N38 N40q
  obtain ⟨M40, Y40, N40⟩ : ∃ M, Stand p l e room_1 s m #[(.int p0), (.int p1), (.int p2), (.int p3), (.int p4)] below meth c T40 M 6 33 ∧ Fr n0 M := ⟨_, X40, N40⟩
  have pre40 : Lead p e below G (T40.setTop (mkF m 143 #[.val (.int p0), .val (.int p1), .val (.int p2), .val (.int p3), .val (.int p4), .val (.int v4), .val (.int v8), .val (.int (F1 p0 v4)), .val (.int (F1 p1 v4)), .val (.int (F1 p2 v4)), .val (.int v20), .val (.ref b22), .val (.ref mb_38), .val (.int (0 : Int32))] [(.int (F9 (F1 p0 v4) (F1 p0 v4) (F1 p1 v4) (F1 p2 v4) v8 v20))])) := fun t k => pre39 t (st40 _ k)
  have pre43 : Lead p e below G (T40.setTop (mkF m 149 #[.val (.int p0), .val (.int p1), .val (.int p2), .val (.int p3), .val (.int p4), .val (.int v4), .val (.int v8), .val (.int (F1 p0 v4)), .val (.int (F1 p1 v4)), .val (.int (F1 p2 v4)), .val (.int v20), .val (.ref b22), .val (.ref mb_38), .val (.int (if (F9 (F1 p0 v4) (F1 p0 v4) (F1 p1 v4) (F1 p2 v4) v8 v20) = (0 : Int32) then (0 : Int32) else (1 : Int32)))] [])) := fun t k => by
    refine pre40 t ?_
    show Steps p.tables e below (T40.setTop (mkF m 143 #[.val (.int p0), .val (.int p1), .val (.int p2), .val (.int p3), .val (.int p4), .val (.int v4), .val (.int v8), .val (.int (F1 p0 v4)), .val (.int (F1 p1 v4)), .val (.int (F1 p2 v4)), .val (.int v20), .val (.ref b22), .val (.ref mb_38), .val (.int (0 : Int32))] [(.int (F9 (F1 p0 v4) (F1 p0 v4) (F1 p1 v4) (F1 p2 v4) v8 v20))])) _
    have j42 : ∀ t, Steps p.tables e below (T40.setTop (mkF m 149 #[.val (.int p0), .val (.int p1), .val (.int p2), .val (.int p3), .val (.int p4), .val (.int v4), .val (.int v8), .val (.int (F1 p0 v4)), .val (.int (F1 p1 v4)), .val (.int (F1 p2 v4)), .val (.int v20), .val (.ref b22), .val (.ref mb_38), .val (.int (if (F9 (F1 p0 v4) (F1 p0 v4) (F1 p1 v4) (F1 p2 v4) v8 v20) = (0 : Int32) then (0 : Int32) else (1 : Int32)))] [])) t → Steps p.tables e below (T40.setTop (mkF m 143 #[.val (.int p0), .val (.int p1), .val (.int p2), .val (.int p3), .val (.int p4), .val (.int v4), .val (.int v8), .val (.int (F1 p0 v4)), .val (.int (F1 p1 v4)), .val (.int (F1 p2 v4)), .val (.int v20), .val (.ref b22), .val (.ref mb_38), .val (.int (0 : Int32))] [(.int (F9 (F1 p0 v4) (F1 p0 v4) (F1 p1 v4) (F1 p2 v4) v8 v20))])) t := fun t k => by
      by_cases hc143_41 : (F9 (F1 p0 v4) (F1 p0 v4) (F1 p1 v4) (F1 p2 v4) v8 v20) = (0 : Int32)
      · simp only [if_pos hc143_41] at k
        refine XS.ifYes Y40.here hx rfl (pc0 := 143) (pc' := 149) rfl (hb hby at_143) rfl ((if0 _ _).trans (teq hc143_41).1) (by decide) (by decide) ?_
        exact k
      · simp only [if_neg hc143_41] at k
        refine XS.ifNo Y40.here hx rfl (hb hby at_143) rfl ((if0 _ _).trans (feq hc143_41).1) ?_
        show Steps p.tables e below (T40.setTop (mkF m 146 #[.val (.int p0), .val (.int p1), .val (.int p2), .val (.int p3), .val (.int p4), .val (.int v4), .val (.int v8), .val (.int (F1 p0 v4)), .val (.int (F1 p1 v4)), .val (.int (F1 p2 v4)), .val (.int v20), .val (.ref b22), .val (.ref mb_38), .val (.int (0 : Int32))] [])) _
        refine XS.iinc Y40.here hx rfl (hb hby at_146) rfl (l' := #[.val (.int p0), .val (.int p1), .val (.int p2), .val (.int p3), .val (.int p4), .val (.int v4), .val (.int v8), .val (.int (F1 p0 v4)), .val (.int (F1 p1 v4)), .val (.int (F1 p2 v4)), .val (.int v20), .val (.ref b22), .val (.ref mb_38), .val (.int (1 : Int32))]) rfl ?_
        exact k
    refine j42 _ ?_
    show Steps p.tables e below (T40.setTop (mkF m 149 #[.val (.int p0), .val (.int p1), .val (.int p2), .val (.int p3), .val (.int p4), .val (.int v4), .val (.int v8), .val (.int (F1 p0 v4)), .val (.int (F1 p1 v4)), .val (.int (F1 p2 v4)), .val (.int v20), .val (.ref b22), .val (.ref mb_38), .val (.int (if (F9 (F1 p0 v4) (F1 p0 v4) (F1 p1 v4) (F1 p2 v4) v8 v20) = (0 : Int32) then (0 : Int32) else (1 : Int32)))] [])) _
    exact k
  obtain ⟨v44, hv44⟩ : ∃ z : Int32, z = (if (F9 (F1 p0 v4) (F1 p0 v4) (F1 p1 v4) (F1 p2 v4) v8 v20) = (0 : Int32) then (0 : Int32) else (1 : Int32)) := ⟨_, rfl⟩
  have pre44 : Lead p e below G (T40.setTop (mkF m 149 #[.val (.int p0), .val (.int p1), .val (.int p2), .val (.int p3), .val (.int p4), .val (.int v4), .val (.int v8), .val (.int (F1 p0 v4)), .val (.int (F1 p1 v4)), .val (.int (F1 p2 v4)), .val (.int v20), .val (.ref b22), .val (.ref mb_38), .val (.int v44)] [])) := by rw [hv44]; exact pre43
  have pre45 : Lead p e below G (T40.setTop (mkF m 153 #[.val (.int p0), .val (.int p1), .val (.int p2), .val (.int p3), .val (.int p4), .val (.int v4), .val (.int v8), .val (.int (F1 p0 v4)), .val (.int (F1 p1 v4)), .val (.int (F1 p2 v4)), .val (.int v20), .val (.ref b22), .val (.ref mb_38), .val (.int v44)] [(.int (F1 p0 v4)), (.int (F1 p1 v4))])) := fun t k => by
    refine pre44 t ?_
    show Steps p.tables e below (T40.setTop (mkF m 149 #[.val (.int p0), .val (.int p1), .val (.int p2), .val (.int p3), .val (.int p4), .val (.int v4), .val (.int v8), .val (.int (F1 p0 v4)), .val (.int (F1 p1 v4)), .val (.int (F1 p2 v4)), .val (.int v20), .val (.ref b22), .val (.ref mb_38), .val (.int v44)] [])) _
    refine XS.iload Y40.here hx rfl (hb hby at_149) rfl ?_
    refine XS.iload Y40.here hx rfl (hb hby at_151) rfl ?_
    show Steps p.tables e below (T40.setTop (mkF m 153 #[.val (.int p0), .val (.int p1), .val (.int p2), .val (.int p3), .val (.int p4), .val (.int v4), .val (.int v8), .val (.int (F1 p0 v4)), .val (.int (F1 p1 v4)), .val (.int (F1 p2 v4)), .val (.int v20), .val (.ref b22), .val (.ref mb_38), .val (.int v44)] [(.int (F1 p0 v4)), (.int (F1 p1 v4))])) _
    exact k
  obtain ⟨v54, T46, M46, h46, hv54, Y46, e46, N46, K46, f46_0, pre46⟩ : ∃ (v54 : Int32) (T46 : State) (M46 : List Loc) (h46 : Heap), v54 = (if (F1 p1 v4) = (F1 p0 v4) then v44 else (if (F9 (F1 p1 v4) (F1 p0 v4) (F1 p1 v4) (F1 p2 v4) v8 v20) = (0 : Int32) then v44 else (v44 + (1 : Int32)))) ∧ Stand p l e room_1 s m #[(.int p0), (.int p1), (.int p2), (.int p3), (.int p4)] below meth c T46 M46 6 33 ∧ T46.heap = h46 ∧ Fr n0 M46 ∧ (h0.size ≤ h46.size ∧ True) ∧ JV Value.int Z h46 mb_38 .int n9_32 gm_38 ∧ Lead p e below G (T46.setTop (mkF m 177 #[.val (.int p0), .val (.int p1), .val (.int p2), .val (.int p3), .val (.int p4), .val (.int v4), .val (.int v8), .val (.int (F1 p0 v4)), .val (.int (F1 p1 v4)), .val (.int (F1 p2 v4)), .val (.int v20), .val (.ref b22), .val (.ref mb_38), .val (.int v54)] [])) := by
    by_cases hj153_46 : (F1 p1 v4) = (F1 p0 v4)
    · have pre47 : Lead p e below G (T40.setTop (mkF m 177 #[.val (.int p0), .val (.int p1), .val (.int p2), .val (.int p3), .val (.int p4), .val (.int v4), .val (.int v8), .val (.int (F1 p0 v4)), .val (.int (F1 p1 v4)), .val (.int (F1 p2 v4)), .val (.int v20), .val (.ref b22), .val (.ref mb_38), .val (.int v44)] [])) := fun t k => by
        refine pre45 t ?_
        show Steps p.tables e below (T40.setTop (mkF m 153 #[.val (.int p0), .val (.int p1), .val (.int p2), .val (.int p3), .val (.int p4), .val (.int v4), .val (.int v8), .val (.int (F1 p0 v4)), .val (.int (F1 p1 v4)), .val (.int (F1 p2 v4)), .val (.int v20), .val (.ref b22), .val (.ref mb_38), .val (.int v44)] [(.int (F1 p0 v4)), (.int (F1 p1 v4))])) _
        refine XS.icmpYes Y40.here hx rfl (pc0 := 153) (pc' := 177) rfl (hb hby at_153) rfl (teq hj153_46).1 (by decide) (by decide) ?_
        exact k
      exact ⟨v44, T40, _, _, (by skip; exact (if_pos hj153_46).symm), Y40.mono (by decide) (by decide), e40, N40, K38, c38_1, pre47⟩
    · have pre48 : Lead p e below G (T40.setTop (mkF m 168 #[.val (.int p0), .val (.int p1), .val (.int p2), .val (.int p3), .val (.int p4), .val (.int v4), .val (.int v8), .val (.int (F1 p0 v4)), .val (.int (F1 p1 v4)), .val (.int (F1 p2 v4)), .val (.int v20), .val (.ref b22), .val (.ref mb_38), .val (.int v44)] [(.int v20), (.int v8), (.int (F1 p2 v4)), (.int (F1 p1 v4)), (.int (F1 p0 v4)), (.int (F1 p1 v4))])) := fun t k => by
        refine pre45 t ?_
        show Steps p.tables e below (T40.setTop (mkF m 153 #[.val (.int p0), .val (.int p1), .val (.int p2), .val (.int p3), .val (.int p4), .val (.int v4), .val (.int v8), .val (.int (F1 p0 v4)), .val (.int (F1 p1 v4)), .val (.int (F1 p2 v4)), .val (.int v20), .val (.ref b22), .val (.ref mb_38), .val (.int v44)] [(.int (F1 p0 v4)), (.int (F1 p1 v4))])) _
        refine XS.icmpNo Y40.here hx rfl (hb hby at_153) rfl (feq hj153_46).1 ?_
        refine XS.iload Y40.here hx rfl (hb hby at_156) rfl ?_
        show Steps p.tables e below (T40.setTop (mkF m 158 #[.val (.int p0), .val (.int p1), .val (.int p2), .val (.int p3), .val (.int p4), .val (.int v4), .val (.int v8), .val (.int (F1 p0 v4)), .val (.int (F1 p1 v4)), .val (.int (F1 p2 v4)), .val (.int v20), .val (.ref b22), .val (.ref mb_38), .val (.int v44)] [(.int (F1 p1 v4))])) _
        refine XS.iload Y40.here hx rfl (hb hby at_158) rfl ?_
        refine XS.iload Y40.here hx rfl (hb hby at_160) rfl ?_
        refine XS.iload Y40.here hx rfl (hb hby at_162) rfl ?_
        show Steps p.tables e below (T40.setTop (mkF m 164 #[.val (.int p0), .val (.int p1), .val (.int p2), .val (.int p3), .val (.int p4), .val (.int v4), .val (.int v8), .val (.int (F1 p0 v4)), .val (.int (F1 p1 v4)), .val (.int (F1 p2 v4)), .val (.int v20), .val (.ref b22), .val (.ref mb_38), .val (.int v44)] [(.int (F1 p2 v4)), (.int (F1 p1 v4)), (.int (F1 p0 v4)), (.int (F1 p1 v4))])) _
        refine XS.iload Y40.here hx rfl (hb hby at_164) rfl ?_
        refine XS.iload Y40.here hx rfl (hb hby at_166) rfl ?_
        exact k
      obtain ⟨_, _, ⟨T49, L49, k49, n49⟩, -, X49, ⟨Lc49, hQ49, l49, y49, z49⟩, st49⟩ := Jvm.LawKit.callS Y40 hx (y := (⟨"com/example/processionary/processionary/automata/IntSetMembersPinLaw", "in", "(IIIIZI)Z"⟩ : MethodName)) hown (mvT hZ (hw _ (List.mem_of_getElem? (i := 41) rfl))) (mvT hZ (hw _ (List.mem_of_getElem? (i := 42) rfl))) (mvT hZ (hw _ (List.mem_of_getElem? (i := 2) rfl))) (mvT hZ (hw _ (List.mem_of_getElem? (i := 43) rfl))) (by decide) (backOf (W := 0) (rm9 l Z a0 hw [] (F1 p1 v4) (F1 p0 v4) (F1 p1 v4) (F1 p2 v4) v8 v20  T38.heap n0 (Nat.le_trans Z0 K38.1) ) hZ (hw _ (List.mem_of_getElem? (i := 43) rfl)) (hw _ (List.mem_of_getElem? (i := 2) rfl)) (by decide) (by decide)) (g := (mkF m 168 #[.val (.int p0), .val (.int p1), .val (.int p2), .val (.int p3), .val (.int p4), .val (.int v4), .val (.int v8), .val (.int (F1 p0 v4)), .val (.int (F1 p1 v4)), .val (.int (F1 p2 v4)), .val (.int v20), .val (.ref b22), .val (.ref mb_38), .val (.int v44)] [(.int v20), (.int v8), (.int (F1 p2 v4)), (.int (F1 p1 v4)), (.int (F1 p0 v4)), (.int (F1 p1 v4))])) rfl (by rw [hml]; rfl) (argsL := [(.int (F1 p1 v4)), (.int (F1 p0 v4)), (.int (F1 p1 v4)), (.int (F1 p2 v4)), (.int v8), (.int v20)]) (rest := []) (lenOf pd__28_IIIIZI_29_Z rfl) rfl (by show 2 * 0 + _ ≤ _; exact Nat.le_of_eq rfl) (hb hby at_168) (fun _ _ => ⟨rfl, e40, (by decide : 6 + 0 ≤ _), (by decide : 33 + 0 ≤ _)⟩)
      dsimp only [Pt.U, Pt.locs, Pt.cells, Pt.slots] at X49 l49 y49 z49 st49 hQ49
      subst l49 y49 z49
      obtain ⟨rfl, N49q, e49⟩ := hQ49
      have N49 := Fr.app N40 N49q
      obtain ⟨M49, Y49, N49⟩ : ∃ M, Stand p l e room_1 s m #[(.int p0), (.int p1), (.int p2), (.int p3), (.int p4)] below meth c T49 M 6 33 ∧ Fr n0 M := ⟨_, X49, N49⟩
      have pre49 : Lead p e below G (T49.setTop (mkF m 171 #[.val (.int p0), .val (.int p1), .val (.int p2), .val (.int p3), .val (.int p4), .val (.int v4), .val (.int v8), .val (.int (F1 p0 v4)), .val (.int (F1 p1 v4)), .val (.int (F1 p2 v4)), .val (.int v20), .val (.ref b22), .val (.ref mb_38), .val (.int v44)] [(.int (F9 (F1 p1 v4) (F1 p0 v4) (F1 p1 v4) (F1 p2 v4) v8 v20))])) := fun t k => pre48 t (st49 _ k)
      have pre52 : Lead p e below G (T49.setTop (mkF m 177 #[.val (.int p0), .val (.int p1), .val (.int p2), .val (.int p3), .val (.int p4), .val (.int v4), .val (.int v8), .val (.int (F1 p0 v4)), .val (.int (F1 p1 v4)), .val (.int (F1 p2 v4)), .val (.int v20), .val (.ref b22), .val (.ref mb_38), .val (.int (if (F9 (F1 p1 v4) (F1 p0 v4) (F1 p1 v4) (F1 p2 v4) v8 v20) = (0 : Int32) then v44 else (v44 + (1 : Int32))))] [])) := fun t k => by
        refine pre49 t ?_
        show Steps p.tables e below (T49.setTop (mkF m 171 #[.val (.int p0), .val (.int p1), .val (.int p2), .val (.int p3), .val (.int p4), .val (.int v4), .val (.int v8), .val (.int (F1 p0 v4)), .val (.int (F1 p1 v4)), .val (.int (F1 p2 v4)), .val (.int v20), .val (.ref b22), .val (.ref mb_38), .val (.int v44)] [(.int (F9 (F1 p1 v4) (F1 p0 v4) (F1 p1 v4) (F1 p2 v4) v8 v20))])) _
        have j51 : ∀ t, Steps p.tables e below (T49.setTop (mkF m 177 #[.val (.int p0), .val (.int p1), .val (.int p2), .val (.int p3), .val (.int p4), .val (.int v4), .val (.int v8), .val (.int (F1 p0 v4)), .val (.int (F1 p1 v4)), .val (.int (F1 p2 v4)), .val (.int v20), .val (.ref b22), .val (.ref mb_38), .val (.int (if (F9 (F1 p1 v4) (F1 p0 v4) (F1 p1 v4) (F1 p2 v4) v8 v20) = (0 : Int32) then v44 else (v44 + (1 : Int32))))] [])) t → Steps p.tables e below (T49.setTop (mkF m 171 #[.val (.int p0), .val (.int p1), .val (.int p2), .val (.int p3), .val (.int p4), .val (.int v4), .val (.int v8), .val (.int (F1 p0 v4)), .val (.int (F1 p1 v4)), .val (.int (F1 p2 v4)), .val (.int v20), .val (.ref b22), .val (.ref mb_38), .val (.int v44)] [(.int (F9 (F1 p1 v4) (F1 p0 v4) (F1 p1 v4) (F1 p2 v4) v8 v20))])) t := fun t k => by
          by_cases hc171_50 : (F9 (F1 p1 v4) (F1 p0 v4) (F1 p1 v4) (F1 p2 v4) v8 v20) = (0 : Int32)
          · simp only [if_pos hc171_50] at k
            refine XS.ifYes Y49.here hx rfl (pc0 := 171) (pc' := 177) rfl (hb hby at_171) rfl ((if0 _ _).trans (teq hc171_50).1) (by decide) (by decide) ?_
            show Steps p.tables e below (T49.setTop (mkF m 177 #[.val (.int p0), .val (.int p1), .val (.int p2), .val (.int p3), .val (.int p4), .val (.int v4), .val (.int v8), .val (.int (F1 p0 v4)), .val (.int (F1 p1 v4)), .val (.int (F1 p2 v4)), .val (.int v20), .val (.ref b22), .val (.ref mb_38), .val (.int v44)] [])) _
            exact k
          · simp only [if_neg hc171_50] at k
            refine XS.ifNo Y49.here hx rfl (hb hby at_171) rfl ((if0 _ _).trans (feq hc171_50).1) ?_
            refine XS.iinc Y49.here hx rfl (hb hby at_174) rfl (l' := #[.val (.int p0), .val (.int p1), .val (.int p2), .val (.int p3), .val (.int p4), .val (.int v4), .val (.int v8), .val (.int (F1 p0 v4)), .val (.int (F1 p1 v4)), .val (.int (F1 p2 v4)), .val (.int v20), .val (.ref b22), .val (.ref mb_38), .val (.int (v44 + (1 : Int32)))]) rfl ?_
            exact k
        refine j51 _ ?_
        show Steps p.tables e below (T49.setTop (mkF m 177 #[.val (.int p0), .val (.int p1), .val (.int p2), .val (.int p3), .val (.int p4), .val (.int v4), .val (.int v8), .val (.int (F1 p0 v4)), .val (.int (F1 p1 v4)), .val (.int (F1 p2 v4)), .val (.int v20), .val (.ref b22), .val (.ref mb_38), .val (.int (if (F9 (F1 p1 v4) (F1 p0 v4) (F1 p1 v4) (F1 p2 v4) v8 v20) = (0 : Int32) then v44 else (v44 + (1 : Int32))))] [])) _
        exact k
      obtain ⟨v53, hv53⟩ : ∃ z : Int32, z = (if (F9 (F1 p1 v4) (F1 p0 v4) (F1 p1 v4) (F1 p2 v4) v8 v20) = (0 : Int32) then v44 else (v44 + (1 : Int32))) := ⟨_, rfl⟩
      have pre53 : Lead p e below G (T49.setTop (mkF m 177 #[.val (.int p0), .val (.int p1), .val (.int p2), .val (.int p3), .val (.int p4), .val (.int v4), .val (.int v8), .val (.int (F1 p0 v4)), .val (.int (F1 p1 v4)), .val (.int (F1 p2 v4)), .val (.int v20), .val (.ref b22), .val (.ref mb_38), .val (.int v53)] [])) := by rw [hv53]; exact pre52
      exact ⟨v53, T49, _, _, (by subst hv53; exact (if_neg hj153_46).symm), Y49.mono (by decide) (by decide), e49, N49, K38, c38_1, pre53⟩
  have pre55 : Lead p e below G (T46.setTop (mkF m 181 #[.val (.int p0), .val (.int p1), .val (.int p2), .val (.int p3), .val (.int p4), .val (.int v4), .val (.int v8), .val (.int (F1 p0 v4)), .val (.int (F1 p1 v4)), .val (.int (F1 p2 v4)), .val (.int v20), .val (.ref b22), .val (.ref mb_38), .val (.int v54)] [(.int (F1 p0 v4)), (.int (F1 p2 v4))])) := fun t k => by
    refine pre46 t ?_
    show Steps p.tables e below (T46.setTop (mkF m 177 #[.val (.int p0), .val (.int p1), .val (.int p2), .val (.int p3), .val (.int p4), .val (.int v4), .val (.int v8), .val (.int (F1 p0 v4)), .val (.int (F1 p1 v4)), .val (.int (F1 p2 v4)), .val (.int v20), .val (.ref b22), .val (.ref mb_38), .val (.int v54)] [])) _
    refine XS.iload Y46.here hx rfl (hb hby at_177) rfl ?_
    show Steps p.tables e below (T46.setTop (mkF m 179 #[.val (.int p0), .val (.int p1), .val (.int p2), .val (.int p3), .val (.int p4), .val (.int v4), .val (.int v8), .val (.int (F1 p0 v4)), .val (.int (F1 p1 v4)), .val (.int (F1 p2 v4)), .val (.int v20), .val (.ref b22), .val (.ref mb_38), .val (.int v54)] [(.int (F1 p2 v4))])) _
    refine XS.iload Y46.here hx rfl (hb hby at_179) rfl ?_
    exact k
  obtain ⟨v68, T56, M56, h56, hv68, Y56, e56, N56, K56, f56_0, pre56⟩ : ∃ (v68 : Int32) (T56 : State) (M56 : List Loc) (h56 : Heap), v68 = (if (F1 p2 v4) = (F1 p0 v4) then v54 else (if (F1 p2 v4) = (F1 p1 v4) then v54 else (if (F9 (F1 p2 v4) (F1 p0 v4) (F1 p1 v4) (F1 p2 v4) v8 v20) = (0 : Int32) then v54 else (v54 + (1 : Int32))))) ∧ Stand p l e room_1 s m #[(.int p0), (.int p1), (.int p2), (.int p3), (.int p4)] below meth c T56 M56 6 33 ∧ T56.heap = h56 ∧ Fr n0 M56 ∧ (h0.size ≤ h56.size ∧ True) ∧ JV Value.int Z h56 mb_38 .int n9_32 gm_38 ∧ Lead p e below G (T56.setTop (mkF m 212 #[.val (.int p0), .val (.int p1), .val (.int p2), .val (.int p3), .val (.int p4), .val (.int v4), .val (.int v8), .val (.int (F1 p0 v4)), .val (.int (F1 p1 v4)), .val (.int (F1 p2 v4)), .val (.int v20), .val (.ref b22), .val (.ref mb_38), .val (.int v68)] [])) := by
    by_cases hj181_56 : (F1 p2 v4) = (F1 p0 v4)
    · have pre57 : Lead p e below G (T46.setTop (mkF m 212 #[.val (.int p0), .val (.int p1), .val (.int p2), .val (.int p3), .val (.int p4), .val (.int v4), .val (.int v8), .val (.int (F1 p0 v4)), .val (.int (F1 p1 v4)), .val (.int (F1 p2 v4)), .val (.int v20), .val (.ref b22), .val (.ref mb_38), .val (.int v54)] [])) := fun t k => by
        refine pre55 t ?_
        show Steps p.tables e below (T46.setTop (mkF m 181 #[.val (.int p0), .val (.int p1), .val (.int p2), .val (.int p3), .val (.int p4), .val (.int v4), .val (.int v8), .val (.int (F1 p0 v4)), .val (.int (F1 p1 v4)), .val (.int (F1 p2 v4)), .val (.int v20), .val (.ref b22), .val (.ref mb_38), .val (.int v54)] [(.int (F1 p0 v4)), (.int (F1 p2 v4))])) _
        refine XS.icmpYes Y46.here hx rfl (pc0 := 181) (pc' := 212) rfl (hb hby at_181) rfl (teq hj181_56).1 (by decide) (by decide) ?_
        exact k
      exact ⟨v54, T46, _, _, (by skip; exact (if_pos hj181_56).symm), Y46.mono (by decide) (by decide), e46, N46, K46, f46_0, pre57⟩
    · have pre58 : Lead p e below G (T46.setTop (mkF m 188 #[.val (.int p0), .val (.int p1), .val (.int p2), .val (.int p3), .val (.int p4), .val (.int v4), .val (.int v8), .val (.int (F1 p0 v4)), .val (.int (F1 p1 v4)), .val (.int (F1 p2 v4)), .val (.int v20), .val (.ref b22), .val (.ref mb_38), .val (.int v54)] [(.int (F1 p1 v4)), (.int (F1 p2 v4))])) := fun t k => by
        refine pre55 t ?_
        show Steps p.tables e below (T46.setTop (mkF m 181 #[.val (.int p0), .val (.int p1), .val (.int p2), .val (.int p3), .val (.int p4), .val (.int v4), .val (.int v8), .val (.int (F1 p0 v4)), .val (.int (F1 p1 v4)), .val (.int (F1 p2 v4)), .val (.int v20), .val (.ref b22), .val (.ref mb_38), .val (.int v54)] [(.int (F1 p0 v4)), (.int (F1 p2 v4))])) _
        refine XS.icmpNo Y46.here hx rfl (hb hby at_181) rfl (feq hj181_56).1 ?_
        show Steps p.tables e below (T46.setTop (mkF m 184 #[.val (.int p0), .val (.int p1), .val (.int p2), .val (.int p3), .val (.int p4), .val (.int v4), .val (.int v8), .val (.int (F1 p0 v4)), .val (.int (F1 p1 v4)), .val (.int (F1 p2 v4)), .val (.int v20), .val (.ref b22), .val (.ref mb_38), .val (.int v54)] [])) _
        refine XS.iload Y46.here hx rfl (hb hby at_184) rfl ?_
        refine XS.iload Y46.here hx rfl (hb hby at_186) rfl ?_
        exact k
      obtain ⟨v67, T59, M59, h59, hv67, Y59, e59, N59, K59, f59_0, pre59⟩ : ∃ (v67 : Int32) (T59 : State) (M59 : List Loc) (h59 : Heap), v67 = (if (F1 p2 v4) = (F1 p1 v4) then v54 else (if (F9 (F1 p2 v4) (F1 p0 v4) (F1 p1 v4) (F1 p2 v4) v8 v20) = (0 : Int32) then v54 else (v54 + (1 : Int32)))) ∧ Stand p l e room_1 s m #[(.int p0), (.int p1), (.int p2), (.int p3), (.int p4)] below meth c T59 M59 6 33 ∧ T59.heap = h59 ∧ Fr n0 M59 ∧ (h0.size ≤ h59.size ∧ True) ∧ JV Value.int Z h59 mb_38 .int n9_32 gm_38 ∧ Lead p e below G (T59.setTop (mkF m 212 #[.val (.int p0), .val (.int p1), .val (.int p2), .val (.int p3), .val (.int p4), .val (.int v4), .val (.int v8), .val (.int (F1 p0 v4)), .val (.int (F1 p1 v4)), .val (.int (F1 p2 v4)), .val (.int v20), .val (.ref b22), .val (.ref mb_38), .val (.int v67)] [])) := by
        by_cases hj188_59 : (F1 p2 v4) = (F1 p1 v4)
        · have pre60 : Lead p e below G (T46.setTop (mkF m 212 #[.val (.int p0), .val (.int p1), .val (.int p2), .val (.int p3), .val (.int p4), .val (.int v4), .val (.int v8), .val (.int (F1 p0 v4)), .val (.int (F1 p1 v4)), .val (.int (F1 p2 v4)), .val (.int v20), .val (.ref b22), .val (.ref mb_38), .val (.int v54)] [])) := fun t k => by
            refine pre58 t ?_
            show Steps p.tables e below (T46.setTop (mkF m 188 #[.val (.int p0), .val (.int p1), .val (.int p2), .val (.int p3), .val (.int p4), .val (.int v4), .val (.int v8), .val (.int (F1 p0 v4)), .val (.int (F1 p1 v4)), .val (.int (F1 p2 v4)), .val (.int v20), .val (.ref b22), .val (.ref mb_38), .val (.int v54)] [(.int (F1 p1 v4)), (.int (F1 p2 v4))])) _
            refine XS.icmpYes Y46.here hx rfl (pc0 := 188) (pc' := 212) rfl (hb hby at_188) rfl (teq hj188_59).1 (by decide) (by decide) ?_
            show Steps p.tables e below (T46.setTop (mkF m 212 #[.val (.int p0), .val (.int p1), .val (.int p2), .val (.int p3), .val (.int p4), .val (.int v4), .val (.int v8), .val (.int (F1 p0 v4)), .val (.int (F1 p1 v4)), .val (.int (F1 p2 v4)), .val (.int v20), .val (.ref b22), .val (.ref mb_38), .val (.int v54)] [])) _
            exact k
          exact ⟨v54, T46, _, _, (by skip; exact (if_pos hj188_59).symm), Y46.mono (by decide) (by decide), e46, N46, K46, f46_0, pre60⟩
        · have pre61 : Lead p e below G (T46.setTop (mkF m 203 #[.val (.int p0), .val (.int p1), .val (.int p2), .val (.int p3), .val (.int p4), .val (.int v4), .val (.int v8), .val (.int (F1 p0 v4)), .val (.int (F1 p1 v4)), .val (.int (F1 p2 v4)), .val (.int v20), .val (.ref b22), .val (.ref mb_38), .val (.int v54)] [(.int v20), (.int v8), (.int (F1 p2 v4)), (.int (F1 p1 v4)), (.int (F1 p0 v4)), (.int (F1 p2 v4))])) := fun t k => by
            refine pre58 t ?_
            show Steps p.tables e below (T46.setTop (mkF m 188 #[.val (.int p0), .val (.int p1), .val (.int p2), .val (.int p3), .val (.int p4), .val (.int v4), .val (.int v8), .val (.int (F1 p0 v4)), .val (.int (F1 p1 v4)), .val (.int (F1 p2 v4)), .val (.int v20), .val (.ref b22), .val (.ref mb_38), .val (.int v54)] [(.int (F1 p1 v4)), (.int (F1 p2 v4))])) _
            refine XS.icmpNo Y46.here hx rfl (hb hby at_188) rfl (feq hj188_59).1 ?_
            refine XS.iload Y46.here hx rfl (hb hby at_191) rfl ?_
            refine XS.iload Y46.here hx rfl (hb hby at_193) rfl ?_
            show Steps p.tables e below (T46.setTop (mkF m 195 #[.val (.int p0), .val (.int p1), .val (.int p2), .val (.int p3), .val (.int p4), .val (.int v4), .val (.int v8), .val (.int (F1 p0 v4)), .val (.int (F1 p1 v4)), .val (.int (F1 p2 v4)), .val (.int v20), .val (.ref b22), .val (.ref mb_38), .val (.int v54)] [(.int (F1 p0 v4)), (.int (F1 p2 v4))])) _
            refine XS.iload Y46.here hx rfl (hb hby at_195) rfl ?_
            refine XS.iload Y46.here hx rfl (hb hby at_197) rfl ?_
            refine XS.iload Y46.here hx rfl (hb hby at_199) rfl ?_
            show Steps p.tables e below (T46.setTop (mkF m 201 #[.val (.int p0), .val (.int p1), .val (.int p2), .val (.int p3), .val (.int p4), .val (.int v4), .val (.int v8), .val (.int (F1 p0 v4)), .val (.int (F1 p1 v4)), .val (.int (F1 p2 v4)), .val (.int v20), .val (.ref b22), .val (.ref mb_38), .val (.int v54)] [(.int v8), (.int (F1 p2 v4)), (.int (F1 p1 v4)), (.int (F1 p0 v4)), (.int (F1 p2 v4))])) _
            refine XS.iload Y46.here hx rfl (hb hby at_201) rfl ?_
            exact k
          obtain ⟨_, _, ⟨T62, L62, k62, n62⟩, -, X62, ⟨Lc62, hQ62, l62, y62, z62⟩, st62⟩ := Jvm.LawKit.callS Y46 hx (y := (⟨"com/example/processionary/processionary/automata/IntSetMembersPinLaw", "in", "(IIIIZI)Z"⟩ : MethodName)) hown (mvT hZ (hw _ (List.mem_of_getElem? (i := 41) rfl))) (mvT hZ (hw _ (List.mem_of_getElem? (i := 42) rfl))) (mvT hZ (hw _ (List.mem_of_getElem? (i := 2) rfl))) (mvT hZ (hw _ (List.mem_of_getElem? (i := 43) rfl))) (by decide) (backOf (W := 0) (rm9 l Z a0 hw [] (F1 p2 v4) (F1 p0 v4) (F1 p1 v4) (F1 p2 v4) v8 v20  h46 n0 (Nat.le_trans Z0 K46.1) ) hZ (hw _ (List.mem_of_getElem? (i := 43) rfl)) (hw _ (List.mem_of_getElem? (i := 2) rfl)) (by decide) (by decide)) (g := (mkF m 203 #[.val (.int p0), .val (.int p1), .val (.int p2), .val (.int p3), .val (.int p4), .val (.int v4), .val (.int v8), .val (.int (F1 p0 v4)), .val (.int (F1 p1 v4)), .val (.int (F1 p2 v4)), .val (.int v20), .val (.ref b22), .val (.ref mb_38), .val (.int v54)] [(.int v20), (.int v8), (.int (F1 p2 v4)), (.int (F1 p1 v4)), (.int (F1 p0 v4)), (.int (F1 p2 v4))])) rfl (by rw [hml]; rfl) (argsL := [(.int (F1 p2 v4)), (.int (F1 p0 v4)), (.int (F1 p1 v4)), (.int (F1 p2 v4)), (.int v8), (.int v20)]) (rest := []) (lenOf pd__28_IIIIZI_29_Z rfl) rfl (by show 2 * 0 + _ ≤ _; exact Nat.le_of_eq rfl) (hb hby at_203) (fun _ _ => ⟨rfl, e46, (by decide : 6 + 0 ≤ _), (by decide : 33 + 0 ≤ _)⟩)
          dsimp only [Pt.U, Pt.locs, Pt.cells, Pt.slots] at X62 l62 y62 z62 st62 hQ62
          subst l62 y62 z62
          obtain ⟨rfl, N62q, e62⟩ := hQ62
          have N62 := Fr.app N46 N62q
          obtain ⟨M62, Y62, N62⟩ : ∃ M, Stand p l e room_1 s m #[(.int p0), (.int p1), (.int p2), (.int p3), (.int p4)] below meth c T62 M 6 33 ∧ Fr n0 M := ⟨_, X62, N62⟩
          have pre62 : Lead p e below G (T62.setTop (mkF m 206 #[.val (.int p0), .val (.int p1), .val (.int p2), .val (.int p3), .val (.int p4), .val (.int v4), .val (.int v8), .val (.int (F1 p0 v4)), .val (.int (F1 p1 v4)), .val (.int (F1 p2 v4)), .val (.int v20), .val (.ref b22), .val (.ref mb_38), .val (.int v54)] [(.int (F9 (F1 p2 v4) (F1 p0 v4) (F1 p1 v4) (F1 p2 v4) v8 v20))])) := fun t k => pre61 t (st62 _ k)
          have pre65 : Lead p e below G (T62.setTop (mkF m 212 #[.val (.int p0), .val (.int p1), .val (.int p2), .val (.int p3), .val (.int p4), .val (.int v4), .val (.int v8), .val (.int (F1 p0 v4)), .val (.int (F1 p1 v4)), .val (.int (F1 p2 v4)), .val (.int v20), .val (.ref b22), .val (.ref mb_38), .val (.int (if (F9 (F1 p2 v4) (F1 p0 v4) (F1 p1 v4) (F1 p2 v4) v8 v20) = (0 : Int32) then v54 else (v54 + (1 : Int32))))] [])) := fun t k => by
            refine pre62 t ?_
            show Steps p.tables e below (T62.setTop (mkF m 206 #[.val (.int p0), .val (.int p1), .val (.int p2), .val (.int p3), .val (.int p4), .val (.int v4), .val (.int v8), .val (.int (F1 p0 v4)), .val (.int (F1 p1 v4)), .val (.int (F1 p2 v4)), .val (.int v20), .val (.ref b22), .val (.ref mb_38), .val (.int v54)] [(.int (F9 (F1 p2 v4) (F1 p0 v4) (F1 p1 v4) (F1 p2 v4) v8 v20))])) _
            have j64 : ∀ t, Steps p.tables e below (T62.setTop (mkF m 212 #[.val (.int p0), .val (.int p1), .val (.int p2), .val (.int p3), .val (.int p4), .val (.int v4), .val (.int v8), .val (.int (F1 p0 v4)), .val (.int (F1 p1 v4)), .val (.int (F1 p2 v4)), .val (.int v20), .val (.ref b22), .val (.ref mb_38), .val (.int (if (F9 (F1 p2 v4) (F1 p0 v4) (F1 p1 v4) (F1 p2 v4) v8 v20) = (0 : Int32) then v54 else (v54 + (1 : Int32))))] [])) t → Steps p.tables e below (T62.setTop (mkF m 206 #[.val (.int p0), .val (.int p1), .val (.int p2), .val (.int p3), .val (.int p4), .val (.int v4), .val (.int v8), .val (.int (F1 p0 v4)), .val (.int (F1 p1 v4)), .val (.int (F1 p2 v4)), .val (.int v20), .val (.ref b22), .val (.ref mb_38), .val (.int v54)] [(.int (F9 (F1 p2 v4) (F1 p0 v4) (F1 p1 v4) (F1 p2 v4) v8 v20))])) t := fun t k => by
              by_cases hc206_63 : (F9 (F1 p2 v4) (F1 p0 v4) (F1 p1 v4) (F1 p2 v4) v8 v20) = (0 : Int32)
              · simp only [if_pos hc206_63] at k
                refine XS.ifYes Y62.here hx rfl (pc0 := 206) (pc' := 212) rfl (hb hby at_206) rfl ((if0 _ _).trans (teq hc206_63).1) (by decide) (by decide) ?_
                exact k
              · simp only [if_neg hc206_63] at k
                refine XS.ifNo Y62.here hx rfl (hb hby at_206) rfl ((if0 _ _).trans (feq hc206_63).1) ?_
                show Steps p.tables e below (T62.setTop (mkF m 209 #[.val (.int p0), .val (.int p1), .val (.int p2), .val (.int p3), .val (.int p4), .val (.int v4), .val (.int v8), .val (.int (F1 p0 v4)), .val (.int (F1 p1 v4)), .val (.int (F1 p2 v4)), .val (.int v20), .val (.ref b22), .val (.ref mb_38), .val (.int v54)] [])) _
                refine XS.iinc Y62.here hx rfl (hb hby at_209) rfl (l' := #[.val (.int p0), .val (.int p1), .val (.int p2), .val (.int p3), .val (.int p4), .val (.int v4), .val (.int v8), .val (.int (F1 p0 v4)), .val (.int (F1 p1 v4)), .val (.int (F1 p2 v4)), .val (.int v20), .val (.ref b22), .val (.ref mb_38), .val (.int (v54 + (1 : Int32)))]) rfl ?_
                exact k
            refine j64 _ ?_
            show Steps p.tables e below (T62.setTop (mkF m 212 #[.val (.int p0), .val (.int p1), .val (.int p2), .val (.int p3), .val (.int p4), .val (.int v4), .val (.int v8), .val (.int (F1 p0 v4)), .val (.int (F1 p1 v4)), .val (.int (F1 p2 v4)), .val (.int v20), .val (.ref b22), .val (.ref mb_38), .val (.int (if (F9 (F1 p2 v4) (F1 p0 v4) (F1 p1 v4) (F1 p2 v4) v8 v20) = (0 : Int32) then v54 else (v54 + (1 : Int32))))] [])) _
            exact k
          obtain ⟨v66, hv66⟩ : ∃ z : Int32, z = (if (F9 (F1 p2 v4) (F1 p0 v4) (F1 p1 v4) (F1 p2 v4) v8 v20) = (0 : Int32) then v54 else (v54 + (1 : Int32))) := ⟨_, rfl⟩
          have pre66 : Lead p e below G (T62.setTop (mkF m 212 #[.val (.int p0), .val (.int p1), .val (.int p2), .val (.int p3), .val (.int p4), .val (.int v4), .val (.int v8), .val (.int (F1 p0 v4)), .val (.int (F1 p1 v4)), .val (.int (F1 p2 v4)), .val (.int v20), .val (.ref b22), .val (.ref mb_38), .val (.int v66)] [])) := by rw [hv66]; exact pre65
          exact ⟨v66, T62, _, _, (by subst hv66; exact (if_neg hj188_59).symm), Y62.mono (by decide) (by decide), e62, N62, K46, f46_0, pre66⟩
      exact ⟨v67, T59, _, _, (by subst hv67; exact (if_neg hj181_56).symm), Y59.mono (by decide) (by decide), e59, N59, K59, f59_0, pre59⟩
  have pre69 : Lead p e below G (T56.setTop (mkF m 219 #[.val (.int p0), .val (.int p1), .val (.int p2), .val (.int p3), .val (.int p4), .val (.int v4), .val (.int v8), .val (.int (F1 p0 v4)), .val (.int (F1 p1 v4)), .val (.int (F1 p2 v4)), .val (.int v20), .val (.ref b22), .val (.ref mb_38), .val (.int v68)] [(.ref mb_38)])) := fun t k => by
    refine pre56 t ?_
    show Steps p.tables e below (T56.setTop (mkF m 212 #[.val (.int p0), .val (.int p1), .val (.int p2), .val (.int p3), .val (.int p4), .val (.int v4), .val (.int v8), .val (.int (F1 p0 v4)), .val (.int (F1 p1 v4)), .val (.int (F1 p2 v4)), .val (.int v20), .val (.ref b22), .val (.ref mb_38), .val (.int v68)] [])) _
    refine XS.aload Y56.here hx rfl (hb hby at_212) rfl rfl ?_
    refine XS.ifnullNo Y56.here hx rfl (hb hby at_214) rfl ?_
    show Steps p.tables e below (T56.setTop (mkF m 217 #[.val (.int p0), .val (.int p1), .val (.int p2), .val (.int p3), .val (.int p4), .val (.int v4), .val (.int v8), .val (.int (F1 p0 v4)), .val (.int (F1 p1 v4)), .val (.int (F1 p2 v4)), .val (.int v20), .val (.ref b22), .val (.ref mb_38), .val (.int v68)] [])) _
    refine XS.aload Y56.here hx rfl (hb hby at_217) rfl rfl ?_
    exact k
  obtain ⟨cl70, Ar70, len70⟩ := f56_0.len
  have st70 := Y56.arraylength hx (by rw [e56]; exact Ar70.1) (State.isArrayOf_alike hZ.alike Ar70.2.1) (g := (mkF m 219 #[.val (.int p0), .val (.int p1), .val (.int p2), .val (.int p3), .val (.int p4), .val (.int v4), .val (.int v8), .val (.int (F1 p0 v4)), .val (.int (F1 p1 v4)), .val (.int (F1 p2 v4)), .val (.int v20), .val (.ref b22), .val (.ref mb_38), .val (.int v68)] [(.ref mb_38)])) rfl rfl (hb hby at_219)
  rw [len70] at st70
  have pre70 : Lead p e below G (T56.setTop (mkF m 220 #[.val (.int p0), .val (.int p1), .val (.int p2), .val (.int p3), .val (.int p4), .val (.int v4), .val (.int v8), .val (.int (F1 p0 v4)), .val (.int (F1 p1 v4)), .val (.int (F1 p2 v4)), .val (.int v20), .val (.ref b22), .val (.ref mb_38), .val (.int v68)] [(.int n9_32)])) := fun t k => pre69 t (st70 _ k)
  have hf71 : n9_32 = v68 := (own_cnt q32_0 hv44 hv54 hv68)
  have pre72 : Lead p e below G (T56.setTop (mkF m 229 #[.val (.int p0), .val (.int p1), .val (.int p2), .val (.int p3), .val (.int p4), .val (.int v4), .val (.int v8), .val (.int (F1 p0 v4)), .val (.int (F1 p1 v4)), .val (.int (F1 p2 v4)), .val (.int v20), .val (.ref b22), .val (.ref mb_38), .val (.int v68)] [(.ref mb_38)])) := fun t k => by
    refine pre70 t ?_
    show Steps p.tables e below (T56.setTop (mkF m 220 #[.val (.int p0), .val (.int p1), .val (.int p2), .val (.int p3), .val (.int p4), .val (.int v4), .val (.int v8), .val (.int (F1 p0 v4)), .val (.int (F1 p1 v4)), .val (.int (F1 p2 v4)), .val (.int v20), .val (.ref b22), .val (.ref mb_38), .val (.int v68)] [(.int n9_32)])) _
    refine XS.iload Y56.here hx rfl (hb hby at_220) rfl ?_
    refine XS.icmpYes Y56.here hx rfl (pc0 := 222) (pc' := 227) rfl (hb hby at_222) rfl (teq hf71).1 (by decide) (by decide) ?_
    show Steps p.tables e below (T56.setTop (mkF m 227 #[.val (.int p0), .val (.int p1), .val (.int p2), .val (.int p3), .val (.int p4), .val (.int v4), .val (.int v8), .val (.int (F1 p0 v4)), .val (.int (F1 p1 v4)), .val (.int (F1 p2 v4)), .val (.int v20), .val (.ref b22), .val (.ref mb_38), .val (.int v68)] [])) _
    refine XS.aload Y56.here hx rfl (hb hby at_227) rfl rfl ?_
    exact k
  obtain ⟨cl73, Ar73, len73⟩ := f56_0.len
  have st73 := Y56.arraylength hx (by rw [e56]; exact Ar73.1) (State.isArrayOf_alike hZ.alike Ar73.2.1) (g := (mkF m 229 #[.val (.int p0), .val (.int p1), .val (.int p2), .val (.int p3), .val (.int p4), .val (.int v4), .val (.int v8), .val (.int (F1 p0 v4)), .val (.int (F1 p1 v4)), .val (.int (F1 p2 v4)), .val (.int v20), .val (.ref b22), .val (.ref mb_38), .val (.int v68)] [(.ref mb_38)])) rfl rfl (hb hby at_229)
  rw [len73] at st73
  have pre73 : Lead p e below G (T56.setTop (mkF m 230 #[.val (.int p0), .val (.int p1), .val (.int p2), .val (.int p3), .val (.int p4), .val (.int v4), .val (.int v8), .val (.int (F1 p0 v4)), .val (.int (F1 p1 v4)), .val (.int (F1 p2 v4)), .val (.int v20), .val (.ref b22), .val (.ref mb_38), .val (.int v68)] [(.int n9_32)])) := fun t k => pre72 t (st73 _ k)
  by_cases hs230_74 : (0 : Int32) < n9_32
  · have pre75 : Lead p e below G (T56.setTop (mkF m 236 #[.val (.int p0), .val (.int p1), .val (.int p2), .val (.int p3), .val (.int p4), .val (.int v4), .val (.int v8), .val (.int (F1 p0 v4)), .val (.int (F1 p1 v4)), .val (.int (F1 p2 v4)), .val (.int v20), .val (.ref b22), .val (.ref mb_38), .val (.int v68)] [(.int (0 : Int32)), (.ref mb_38)])) := fun t k => by
      refine pre73 t ?_
      show Steps p.tables e below (T56.setTop (mkF m 230 #[.val (.int p0), .val (.int p1), .val (.int p2), .val (.int p3), .val (.int p4), .val (.int v4), .val (.int v8), .val (.int (F1 p0 v4)), .val (.int (F1 p1 v4)), .val (.int (F1 p2 v4)), .val (.int v20), .val (.ref b22), .val (.ref mb_38), .val (.int v68)] [(.int n9_32)])) _
      refine XS.ifNo Y56.here hx rfl (hb hby at_230) rfl ((if0 _ _).trans (tlt hs230_74).2.2.2) ?_
      refine XS.aload Y56.here hx rfl (hb hby at_233) rfl rfl ?_
      show Steps p.tables e below (T56.setTop (mkF m 235 #[.val (.int p0), .val (.int p1), .val (.int p2), .val (.int p3), .val (.int p4), .val (.int v4), .val (.int v8), .val (.int (F1 p0 v4)), .val (.int (F1 p1 v4)), .val (.int (F1 p2 v4)), .val (.int v20), .val (.ref b22), .val (.ref mb_38), .val (.int v68)] [(.ref mb_38)])) _
      refine XS.iconst Y56.here hx rfl (hb hby at_235) ?_
      exact k
    obtain ⟨cl76, Ar76, hin76, hat76⟩ := f56_0.in (j := (0 : Int32)) ⟨by decide, hs230_74⟩
    have st76 := Y56.iaload hx (j := (0 : Int32)) (v := (.int (gm_38 0))) (by rw [e56]; exact Ar76.1) (State.isArrayOf_alike hZ.alike Ar76.2.1) Ar76.2.2 hin76 hat76 (g := (mkF m 236 #[.val (.int p0), .val (.int p1), .val (.int p2), .val (.int p3), .val (.int p4), .val (.int v4), .val (.int v8), .val (.int (F1 p0 v4)), .val (.int (F1 p1 v4)), .val (.int (F1 p2 v4)), .val (.int v20), .val (.ref b22), .val (.ref mb_38), .val (.int v68)] [(.int (0 : Int32)), (.ref mb_38)])) rfl rfl (hb hby at_236)
    have pre76 : Lead p e below G (T56.setTop (mkF m 237 #[.val (.int p0), .val (.int p1), .val (.int p2), .val (.int p3), .val (.int p4), .val (.int v4), .val (.int v8), .val (.int (F1 p0 v4)), .val (.int (F1 p1 v4)), .val (.int (F1 p2 v4)), .val (.int v20), .val (.ref b22), .val (.ref mb_38), .val (.int v68)] [(.int (gm_38 0))])) := fun t k => pre75 t (st76 _ k)
    have pre77 : Lead p e below G (T56.setTop (mkF m 247 #[.val (.int p0), .val (.int p1), .val (.int p2), .val (.int p3), .val (.int p4), .val (.int v4), .val (.int v8), .val (.int (F1 p0 v4)), .val (.int (F1 p1 v4)), .val (.int (F1 p2 v4)), .val (.int v20), .val (.ref b22), .val (.ref mb_38), .val (.int v68)] [(.int v20), (.int v8), (.int (F1 p2 v4)), (.int (F1 p1 v4)), (.int (F1 p0 v4)), (.int (gm_38 0))])) := fun t k => by
      refine pre76 t ?_
      show Steps p.tables e below (T56.setTop (mkF m 237 #[.val (.int p0), .val (.int p1), .val (.int p2), .val (.int p3), .val (.int p4), .val (.int v4), .val (.int v8), .val (.int (F1 p0 v4)), .val (.int (F1 p1 v4)), .val (.int (F1 p2 v4)), .val (.int v20), .val (.ref b22), .val (.ref mb_38), .val (.int v68)] [(.int (gm_38 0))])) _
      refine XS.iload Y56.here hx rfl (hb hby at_237) rfl ?_
      refine XS.iload Y56.here hx rfl (hb hby at_239) rfl ?_
      show Steps p.tables e below (T56.setTop (mkF m 241 #[.val (.int p0), .val (.int p1), .val (.int p2), .val (.int p3), .val (.int p4), .val (.int v4), .val (.int v8), .val (.int (F1 p0 v4)), .val (.int (F1 p1 v4)), .val (.int (F1 p2 v4)), .val (.int v20), .val (.ref b22), .val (.ref mb_38), .val (.int v68)] [(.int (F1 p1 v4)), (.int (F1 p0 v4)), (.int (gm_38 0))])) _
      refine XS.iload Y56.here hx rfl (hb hby at_241) rfl ?_
      refine XS.iload Y56.here hx rfl (hb hby at_243) rfl ?_
      refine XS.iload Y56.here hx rfl (hb hby at_245) rfl ?_
      show Steps p.tables e below (T56.setTop (mkF m 247 #[.val (.int p0), .val (.int p1), .val (.int p2), .val (.int p3), .val (.int p4), .val (.int v4), .val (.int v8), .val (.int (F1 p0 v4)), .val (.int (F1 p1 v4)), .val (.int (F1 p2 v4)), .val (.int v20), .val (.ref b22), .val (.ref mb_38), .val (.int v68)] [(.int v20), (.int v8), (.int (F1 p2 v4)), (.int (F1 p1 v4)), (.int (F1 p0 v4)), (.int (gm_38 0))])) _
      exact k
    obtain ⟨_, _, ⟨T78, L78, k78, n78⟩, -, X78, ⟨Lc78, hQ78, l78, y78, z78⟩, st78⟩ := Jvm.LawKit.callS Y56 hx (y := (⟨"com/example/processionary/processionary/automata/IntSetMembersPinLaw", "in", "(IIIIZI)Z"⟩ : MethodName)) hown (mvT hZ (hw _ (List.mem_of_getElem? (i := 41) rfl))) (mvT hZ (hw _ (List.mem_of_getElem? (i := 42) rfl))) (mvT hZ (hw _ (List.mem_of_getElem? (i := 2) rfl))) (mvT hZ (hw _ (List.mem_of_getElem? (i := 43) rfl))) (by decide) (backOf (W := 0) (rm9 l Z a0 hw [] (gm_38 0) (F1 p0 v4) (F1 p1 v4) (F1 p2 v4) v8 v20  h56 n0 (Nat.le_trans Z0 K56.1) ) hZ (hw _ (List.mem_of_getElem? (i := 43) rfl)) (hw _ (List.mem_of_getElem? (i := 2) rfl)) (by decide) (by decide)) (g := (mkF m 247 #[.val (.int p0), .val (.int p1), .val (.int p2), .val (.int p3), .val (.int p4), .val (.int v4), .val (.int v8), .val (.int (F1 p0 v4)), .val (.int (F1 p1 v4)), .val (.int (F1 p2 v4)), .val (.int v20), .val (.ref b22), .val (.ref mb_38), .val (.int v68)] [(.int v20), (.int v8), (.int (F1 p2 v4)), (.int (F1 p1 v4)), (.int (F1 p0 v4)), (.int (gm_38 0))])) rfl (by rw [hml]; rfl) (argsL := [(.int (gm_38 0)), (.int (F1 p0 v4)), (.int (F1 p1 v4)), (.int (F1 p2 v4)), (.int v8), (.int v20)]) (rest := []) (lenOf pd__28_IIIIZI_29_Z rfl) rfl (by show 2 * 0 + _ ≤ _; exact Nat.le_of_eq rfl) (hb hby at_247) (fun _ _ => ⟨rfl, e56, (by decide : 6 + 0 ≤ _), (by decide : 33 + 0 ≤ _)⟩)
    dsimp only [Pt.U, Pt.locs, Pt.cells, Pt.slots] at X78 l78 y78 z78 st78 hQ78
    subst l78 y78 z78
    obtain ⟨rfl, N78q, e78⟩ := hQ78
    have N78 := Fr.app N56 N78q
    obtain ⟨M78, Y78, N78⟩ : ∃ M, Stand p l e room_1 s m #[(.int p0), (.int p1), (.int p2), (.int p3), (.int p4)] below meth c T78 M 6 33 ∧ Fr n0 M := ⟨_, X78, N78⟩
    have pre78 : Lead p e below G (T78.setTop (mkF m 250 #[.val (.int p0), .val (.int p1), .val (.int p2), .val (.int p3), .val (.int p4), .val (.int v4), .val (.int v8), .val (.int (F1 p0 v4)), .val (.int (F1 p1 v4)), .val (.int (F1 p2 v4)), .val (.int v20), .val (.ref b22), .val (.ref mb_38), .val (.int v68)] [(.int (F9 (gm_38 0) (F1 p0 v4) (F1 p1 v4) (F1 p2 v4) v8 v20))])) := fun t k => pre77 t (st78 _ k)
    have hf79 : ¬ ((F9 (gm_38 0) (F1 p0 v4) (F1 p1 v4) (F1 p2 v4) v8 v20) = (0 : Int32)) := (own_min (0 : Int32) q32_0 c38_2 (by decide) hs230_74)
    have pre80 : Lead p e below G (T78.setTop (mkF m 257 #[.val (.int p0), .val (.int p1), .val (.int p2), .val (.int p3), .val (.int p4), .val (.int v4), .val (.int v8), .val (.int (F1 p0 v4)), .val (.int (F1 p1 v4)), .val (.int (F1 p2 v4)), .val (.int v20), .val (.ref b22), .val (.ref mb_38), .val (.int v68)] [(.ref mb_38)])) := fun t k => by
      refine pre78 t ?_
      show Steps p.tables e below (T78.setTop (mkF m 250 #[.val (.int p0), .val (.int p1), .val (.int p2), .val (.int p3), .val (.int p4), .val (.int v4), .val (.int v8), .val (.int (F1 p0 v4)), .val (.int (F1 p1 v4)), .val (.int (F1 p2 v4)), .val (.int v20), .val (.ref b22), .val (.ref mb_38), .val (.int v68)] [(.int (F9 (gm_38 0) (F1 p0 v4) (F1 p1 v4) (F1 p2 v4) v8 v20))])) _
      refine XS.ifYes Y78.here hx rfl (pc0 := 250) (pc' := 255) rfl (hb hby at_250) rfl ((if0 _ _).trans (feq hf79).2) (by decide) (by decide) ?_
      refine XS.aload Y78.here hx rfl (hb hby at_255) rfl rfl ?_
      exact k
    obtain ⟨cl81, Ar81, len81⟩ := f56_0.len
    have st81 := Y78.arraylength hx (by rw [e78]; exact Ar81.1) (State.isArrayOf_alike hZ.alike Ar81.2.1) (g := (mkF m 257 #[.val (.int p0), .val (.int p1), .val (.int p2), .val (.int p3), .val (.int p4), .val (.int v4), .val (.int v8), .val (.int (F1 p0 v4)), .val (.int (F1 p1 v4)), .val (.int (F1 p2 v4)), .val (.int v20), .val (.ref b22), .val (.ref mb_38), .val (.int v68)] [(.ref mb_38)])) rfl rfl (hb hby at_257)
    rw [len81] at st81
    have pre81 : Lead p e below G (T78.setTop (mkF m 258 #[.val (.int p0), .val (.int p1), .val (.int p2), .val (.int p3), .val (.int p4), .val (.int v4), .val (.int v8), .val (.int (F1 p0 v4)), .val (.int (F1 p1 v4)), .val (.int (F1 p2 v4)), .val (.int v20), .val (.ref b22), .val (.ref mb_38), .val (.int v68)] [(.int n9_32)])) := fun t k => pre80 t (st81 _ k)
    have pre82 : Lead p e below G (T78.setTop (mkF m 259 #[.val (.int p0), .val (.int p1), .val (.int p2), .val (.int p3), .val (.int p4), .val (.int v4), .val (.int v8), .val (.int (F1 p0 v4)), .val (.int (F1 p1 v4)), .val (.int (F1 p2 v4)), .val (.int v20), .val (.ref b22), .val (.ref mb_38), .val (.int v68)] [(.int (1 : Int32)), (.int n9_32)])) := fun t k => by
      refine pre81 t ?_
      show Steps p.tables e below (T78.setTop (mkF m 258 #[.val (.int p0), .val (.int p1), .val (.int p2), .val (.int p3), .val (.int p4), .val (.int v4), .val (.int v8), .val (.int (F1 p0 v4)), .val (.int (F1 p1 v4)), .val (.int (F1 p2 v4)), .val (.int v20), .val (.ref b22), .val (.ref mb_38), .val (.int v68)] [(.int n9_32)])) _
      refine XS.iconst Y78.here hx rfl (hb hby at_258) ?_
      show Steps p.tables e below (T78.setTop (mkF m 259 #[.val (.int p0), .val (.int p1), .val (.int p2), .val (.int p3), .val (.int p4), .val (.int v4), .val (.int v8), .val (.int (F1 p0 v4)), .val (.int (F1 p1 v4)), .val (.int (F1 p2 v4)), .val (.int v20), .val (.ref b22), .val (.ref mb_38), .val (.int v68)] [(.int (1 : Int32)), (.int n9_32)])) _
      exact k
    by_cases hs259_83 : (1 : Int32) < n9_32
    · have pre84 : Lead p e below G (T78.setTop (mkF m 265 #[.val (.int p0), .val (.int p1), .val (.int p2), .val (.int p3), .val (.int p4), .val (.int v4), .val (.int v8), .val (.int (F1 p0 v4)), .val (.int (F1 p1 v4)), .val (.int (F1 p2 v4)), .val (.int v20), .val (.ref b22), .val (.ref mb_38), .val (.int v68)] [(.int (1 : Int32)), (.ref mb_38)])) := fun t k => by
        refine pre82 t ?_
        show Steps p.tables e below (T78.setTop (mkF m 259 #[.val (.int p0), .val (.int p1), .val (.int p2), .val (.int p3), .val (.int p4), .val (.int v4), .val (.int v8), .val (.int (F1 p0 v4)), .val (.int (F1 p1 v4)), .val (.int (F1 p2 v4)), .val (.int v20), .val (.ref b22), .val (.ref mb_38), .val (.int v68)] [(.int (1 : Int32)), (.int n9_32)])) _
        refine XS.icmpNo Y78.here hx rfl (hb hby at_259) rfl (tlt hs259_83).2.2.2 ?_
        refine XS.aload Y78.here hx rfl (hb hby at_262) rfl rfl ?_
        refine XS.iconst Y78.here hx rfl (hb hby at_264) ?_
        show Steps p.tables e below (T78.setTop (mkF m 265 #[.val (.int p0), .val (.int p1), .val (.int p2), .val (.int p3), .val (.int p4), .val (.int v4), .val (.int v8), .val (.int (F1 p0 v4)), .val (.int (F1 p1 v4)), .val (.int (F1 p2 v4)), .val (.int v20), .val (.ref b22), .val (.ref mb_38), .val (.int v68)] [(.int (1 : Int32)), (.ref mb_38)])) _
        exact k
      obtain ⟨cl85, Ar85, hin85, hat85⟩ := f56_0.in (j := (1 : Int32)) ⟨by decide, hs259_83⟩
      have st85 := Y78.iaload hx (j := (1 : Int32)) (v := (.int (gm_38 1))) (by rw [e78]; exact Ar85.1) (State.isArrayOf_alike hZ.alike Ar85.2.1) Ar85.2.2 hin85 hat85 (g := (mkF m 265 #[.val (.int p0), .val (.int p1), .val (.int p2), .val (.int p3), .val (.int p4), .val (.int v4), .val (.int v8), .val (.int (F1 p0 v4)), .val (.int (F1 p1 v4)), .val (.int (F1 p2 v4)), .val (.int v20), .val (.ref b22), .val (.ref mb_38), .val (.int v68)] [(.int (1 : Int32)), (.ref mb_38)])) rfl rfl (hb hby at_265)
      have pre85 : Lead p e below G (T78.setTop (mkF m 266 #[.val (.int p0), .val (.int p1), .val (.int p2), .val (.int p3), .val (.int p4), .val (.int v4), .val (.int v8), .val (.int (F1 p0 v4)), .val (.int (F1 p1 v4)), .val (.int (F1 p2 v4)), .val (.int v20), .val (.ref b22), .val (.ref mb_38), .val (.int v68)] [(.int (gm_38 1))])) := fun t k => pre84 t (st85 _ k)
      have pre86 : Lead p e below G (T78.setTop (mkF m 276 #[.val (.int p0), .val (.int p1), .val (.int p2), .val (.int p3), .val (.int p4), .val (.int v4), .val (.int v8), .val (.int (F1 p0 v4)), .val (.int (F1 p1 v4)), .val (.int (F1 p2 v4)), .val (.int v20), .val (.ref b22), .val (.ref mb_38), .val (.int v68)] [(.int v20), (.int v8), (.int (F1 p2 v4)), (.int (F1 p1 v4)), (.int (F1 p0 v4)), (.int (gm_38 1))])) := fun t k => by
        refine pre85 t ?_
        show Steps p.tables e below (T78.setTop (mkF m 266 #[.val (.int p0), .val (.int p1), .val (.int p2), .val (.int p3), .val (.int p4), .val (.int v4), .val (.int v8), .val (.int (F1 p0 v4)), .val (.int (F1 p1 v4)), .val (.int (F1 p2 v4)), .val (.int v20), .val (.ref b22), .val (.ref mb_38), .val (.int v68)] [(.int (gm_38 1))])) _
        refine XS.iload Y78.here hx rfl (hb hby at_266) rfl ?_
        refine XS.iload Y78.here hx rfl (hb hby at_268) rfl ?_
        refine XS.iload Y78.here hx rfl (hb hby at_270) rfl ?_
        show Steps p.tables e below (T78.setTop (mkF m 272 #[.val (.int p0), .val (.int p1), .val (.int p2), .val (.int p3), .val (.int p4), .val (.int v4), .val (.int v8), .val (.int (F1 p0 v4)), .val (.int (F1 p1 v4)), .val (.int (F1 p2 v4)), .val (.int v20), .val (.ref b22), .val (.ref mb_38), .val (.int v68)] [(.int (F1 p2 v4)), (.int (F1 p1 v4)), (.int (F1 p0 v4)), (.int (gm_38 1))])) _
        refine XS.iload Y78.here hx rfl (hb hby at_272) rfl ?_
        refine XS.iload Y78.here hx rfl (hb hby at_274) rfl ?_
        exact k
      obtain ⟨_, _, ⟨T87, L87, k87, n87⟩, -, X87, ⟨Lc87, hQ87, l87, y87, z87⟩, st87⟩ := Jvm.LawKit.callS Y78 hx (y := (⟨"com/example/processionary/processionary/automata/IntSetMembersPinLaw", "in", "(IIIIZI)Z"⟩ : MethodName)) hown (mvT hZ (hw _ (List.mem_of_getElem? (i := 41) rfl))) (mvT hZ (hw _ (List.mem_of_getElem? (i := 42) rfl))) (mvT hZ (hw _ (List.mem_of_getElem? (i := 2) rfl))) (mvT hZ (hw _ (List.mem_of_getElem? (i := 43) rfl))) (by decide) (backOf (W := 0) (rm9 l Z a0 hw [] (gm_38 1) (F1 p0 v4) (F1 p1 v4) (F1 p2 v4) v8 v20  h56 n0 (Nat.le_trans Z0 K56.1) ) hZ (hw _ (List.mem_of_getElem? (i := 43) rfl)) (hw _ (List.mem_of_getElem? (i := 2) rfl)) (by decide) (by decide)) (g := (mkF m 276 #[.val (.int p0), .val (.int p1), .val (.int p2), .val (.int p3), .val (.int p4), .val (.int v4), .val (.int v8), .val (.int (F1 p0 v4)), .val (.int (F1 p1 v4)), .val (.int (F1 p2 v4)), .val (.int v20), .val (.ref b22), .val (.ref mb_38), .val (.int v68)] [(.int v20), (.int v8), (.int (F1 p2 v4)), (.int (F1 p1 v4)), (.int (F1 p0 v4)), (.int (gm_38 1))])) rfl (by rw [hml]; rfl) (argsL := [(.int (gm_38 1)), (.int (F1 p0 v4)), (.int (F1 p1 v4)), (.int (F1 p2 v4)), (.int v8), (.int v20)]) (rest := []) (lenOf pd__28_IIIIZI_29_Z rfl) rfl (by show 2 * 0 + _ ≤ _; exact Nat.le_of_eq rfl) (hb hby at_276) (fun _ _ => ⟨rfl, e78, (by decide : 6 + 0 ≤ _), (by decide : 33 + 0 ≤ _)⟩)
      dsimp only [Pt.U, Pt.locs, Pt.cells, Pt.slots] at X87 l87 y87 z87 st87 hQ87
      subst l87 y87 z87
      obtain ⟨rfl, N87q, e87⟩ := hQ87
      have N87 := Fr.app N78 N87q
      obtain ⟨M87, Y87, N87⟩ : ∃ M, Stand p l e room_1 s m #[(.int p0), (.int p1), (.int p2), (.int p3), (.int p4)] below meth c T87 M 6 33 ∧ Fr n0 M := ⟨_, X87, N87⟩
      have pre87 : Lead p e below G (T87.setTop (mkF m 279 #[.val (.int p0), .val (.int p1), .val (.int p2), .val (.int p3), .val (.int p4), .val (.int v4), .val (.int v8), .val (.int (F1 p0 v4)), .val (.int (F1 p1 v4)), .val (.int (F1 p2 v4)), .val (.int v20), .val (.ref b22), .val (.ref mb_38), .val (.int v68)] [(.int (F9 (gm_38 1) (F1 p0 v4) (F1 p1 v4) (F1 p2 v4) v8 v20))])) := fun t k => pre86 t (st87 _ k)
      have hf88 : ¬ ((F9 (gm_38 1) (F1 p0 v4) (F1 p1 v4) (F1 p2 v4) v8 v20) = (0 : Int32)) := (own_min (1 : Int32) q32_0 c38_2 (by decide) hs259_83)
      have pre89 : Lead p e below G (T87.setTop (mkF m 286 #[.val (.int p0), .val (.int p1), .val (.int p2), .val (.int p3), .val (.int p4), .val (.int v4), .val (.int v8), .val (.int (F1 p0 v4)), .val (.int (F1 p1 v4)), .val (.int (F1 p2 v4)), .val (.int v20), .val (.ref b22), .val (.ref mb_38), .val (.int v68)] [(.ref mb_38)])) := fun t k => by
        refine pre87 t ?_
        show Steps p.tables e below (T87.setTop (mkF m 279 #[.val (.int p0), .val (.int p1), .val (.int p2), .val (.int p3), .val (.int p4), .val (.int v4), .val (.int v8), .val (.int (F1 p0 v4)), .val (.int (F1 p1 v4)), .val (.int (F1 p2 v4)), .val (.int v20), .val (.ref b22), .val (.ref mb_38), .val (.int v68)] [(.int (F9 (gm_38 1) (F1 p0 v4) (F1 p1 v4) (F1 p2 v4) v8 v20))])) _
        refine XS.ifYes Y87.here hx rfl (pc0 := 279) (pc' := 284) rfl (hb hby at_279) rfl ((if0 _ _).trans (feq hf88).2) (by decide) (by decide) ?_
        show Steps p.tables e below (T87.setTop (mkF m 284 #[.val (.int p0), .val (.int p1), .val (.int p2), .val (.int p3), .val (.int p4), .val (.int v4), .val (.int v8), .val (.int (F1 p0 v4)), .val (.int (F1 p1 v4)), .val (.int (F1 p2 v4)), .val (.int v20), .val (.ref b22), .val (.ref mb_38), .val (.int v68)] [])) _
        refine XS.aload Y87.here hx rfl (hb hby at_284) rfl rfl ?_
        exact k
      obtain ⟨cl90, Ar90, len90⟩ := f56_0.len
      have st90 := Y87.arraylength hx (by rw [e87]; exact Ar90.1) (State.isArrayOf_alike hZ.alike Ar90.2.1) (g := (mkF m 286 #[.val (.int p0), .val (.int p1), .val (.int p2), .val (.int p3), .val (.int p4), .val (.int v4), .val (.int v8), .val (.int (F1 p0 v4)), .val (.int (F1 p1 v4)), .val (.int (F1 p2 v4)), .val (.int v20), .val (.ref b22), .val (.ref mb_38), .val (.int v68)] [(.ref mb_38)])) rfl rfl (hb hby at_286)
      rw [len90] at st90
      have pre90 : Lead p e below G (T87.setTop (mkF m 287 #[.val (.int p0), .val (.int p1), .val (.int p2), .val (.int p3), .val (.int p4), .val (.int v4), .val (.int v8), .val (.int (F1 p0 v4)), .val (.int (F1 p1 v4)), .val (.int (F1 p2 v4)), .val (.int v20), .val (.ref b22), .val (.ref mb_38), .val (.int v68)] [(.int n9_32)])) := fun t k => pre89 t (st90 _ k)
      have pre91 : Lead p e below G (T87.setTop (mkF m 288 #[.val (.int p0), .val (.int p1), .val (.int p2), .val (.int p3), .val (.int p4), .val (.int v4), .val (.int v8), .val (.int (F1 p0 v4)), .val (.int (F1 p1 v4)), .val (.int (F1 p2 v4)), .val (.int v20), .val (.ref b22), .val (.ref mb_38), .val (.int v68)] [(.int (2 : Int32)), (.int n9_32)])) := fun t k => by
        refine pre90 t ?_
        show Steps p.tables e below (T87.setTop (mkF m 287 #[.val (.int p0), .val (.int p1), .val (.int p2), .val (.int p3), .val (.int p4), .val (.int v4), .val (.int v8), .val (.int (F1 p0 v4)), .val (.int (F1 p1 v4)), .val (.int (F1 p2 v4)), .val (.int v20), .val (.ref b22), .val (.ref mb_38), .val (.int v68)] [(.int n9_32)])) _
        refine XS.iconst Y87.here hx rfl (hb hby at_287) ?_
        exact k
      by_cases hs288_92 : (2 : Int32) < n9_32
      · have pre93 : Lead p e below G (T87.setTop (mkF m 294 #[.val (.int p0), .val (.int p1), .val (.int p2), .val (.int p3), .val (.int p4), .val (.int v4), .val (.int v8), .val (.int (F1 p0 v4)), .val (.int (F1 p1 v4)), .val (.int (F1 p2 v4)), .val (.int v20), .val (.ref b22), .val (.ref mb_38), .val (.int v68)] [(.int (2 : Int32)), (.ref mb_38)])) := fun t k => by
          refine pre91 t ?_
          show Steps p.tables e below (T87.setTop (mkF m 288 #[.val (.int p0), .val (.int p1), .val (.int p2), .val (.int p3), .val (.int p4), .val (.int v4), .val (.int v8), .val (.int (F1 p0 v4)), .val (.int (F1 p1 v4)), .val (.int (F1 p2 v4)), .val (.int v20), .val (.ref b22), .val (.ref mb_38), .val (.int v68)] [(.int (2 : Int32)), (.int n9_32)])) _
          refine XS.icmpNo Y87.here hx rfl (hb hby at_288) rfl (tlt hs288_92).2.2.2 ?_
          show Steps p.tables e below (T87.setTop (mkF m 291 #[.val (.int p0), .val (.int p1), .val (.int p2), .val (.int p3), .val (.int p4), .val (.int v4), .val (.int v8), .val (.int (F1 p0 v4)), .val (.int (F1 p1 v4)), .val (.int (F1 p2 v4)), .val (.int v20), .val (.ref b22), .val (.ref mb_38), .val (.int v68)] [])) _
          refine XS.aload Y87.here hx rfl (hb hby at_291) rfl rfl ?_
          refine XS.iconst Y87.here hx rfl (hb hby at_293) ?_
          exact k
        obtain ⟨cl94, Ar94, hin94, hat94⟩ := f56_0.in (j := (2 : Int32)) ⟨by decide, hs288_92⟩
        have st94 := Y87.iaload hx (j := (2 : Int32)) (v := (.int (gm_38 2))) (by rw [e87]; exact Ar94.1) (State.isArrayOf_alike hZ.alike Ar94.2.1) Ar94.2.2 hin94 hat94 (g := (mkF m 294 #[.val (.int p0), .val (.int p1), .val (.int p2), .val (.int p3), .val (.int p4), .val (.int v4), .val (.int v8), .val (.int (F1 p0 v4)), .val (.int (F1 p1 v4)), .val (.int (F1 p2 v4)), .val (.int v20), .val (.ref b22), .val (.ref mb_38), .val (.int v68)] [(.int (2 : Int32)), (.ref mb_38)])) rfl rfl (hb hby at_294)
        have pre94 : Lead p e below G (T87.setTop (mkF m 295 #[.val (.int p0), .val (.int p1), .val (.int p2), .val (.int p3), .val (.int p4), .val (.int v4), .val (.int v8), .val (.int (F1 p0 v4)), .val (.int (F1 p1 v4)), .val (.int (F1 p2 v4)), .val (.int v20), .val (.ref b22), .val (.ref mb_38), .val (.int v68)] [(.int (gm_38 2))])) := fun t k => pre93 t (st94 _ k)
        have pre95 : Lead p e below G (T87.setTop (mkF m 305 #[.val (.int p0), .val (.int p1), .val (.int p2), .val (.int p3), .val (.int p4), .val (.int v4), .val (.int v8), .val (.int (F1 p0 v4)), .val (.int (F1 p1 v4)), .val (.int (F1 p2 v4)), .val (.int v20), .val (.ref b22), .val (.ref mb_38), .val (.int v68)] [(.int v20), (.int v8), (.int (F1 p2 v4)), (.int (F1 p1 v4)), (.int (F1 p0 v4)), (.int (gm_38 2))])) := fun t k => by
          refine pre94 t ?_
          show Steps p.tables e below (T87.setTop (mkF m 295 #[.val (.int p0), .val (.int p1), .val (.int p2), .val (.int p3), .val (.int p4), .val (.int v4), .val (.int v8), .val (.int (F1 p0 v4)), .val (.int (F1 p1 v4)), .val (.int (F1 p2 v4)), .val (.int v20), .val (.ref b22), .val (.ref mb_38), .val (.int v68)] [(.int (gm_38 2))])) _
          refine XS.iload Y87.here hx rfl (hb hby at_295) rfl ?_
          show Steps p.tables e below (T87.setTop (mkF m 297 #[.val (.int p0), .val (.int p1), .val (.int p2), .val (.int p3), .val (.int p4), .val (.int v4), .val (.int v8), .val (.int (F1 p0 v4)), .val (.int (F1 p1 v4)), .val (.int (F1 p2 v4)), .val (.int v20), .val (.ref b22), .val (.ref mb_38), .val (.int v68)] [(.int (F1 p0 v4)), (.int (gm_38 2))])) _
          refine XS.iload Y87.here hx rfl (hb hby at_297) rfl ?_
          refine XS.iload Y87.here hx rfl (hb hby at_299) rfl ?_
          refine XS.iload Y87.here hx rfl (hb hby at_301) rfl ?_
          show Steps p.tables e below (T87.setTop (mkF m 303 #[.val (.int p0), .val (.int p1), .val (.int p2), .val (.int p3), .val (.int p4), .val (.int v4), .val (.int v8), .val (.int (F1 p0 v4)), .val (.int (F1 p1 v4)), .val (.int (F1 p2 v4)), .val (.int v20), .val (.ref b22), .val (.ref mb_38), .val (.int v68)] [(.int v8), (.int (F1 p2 v4)), (.int (F1 p1 v4)), (.int (F1 p0 v4)), (.int (gm_38 2))])) _
          refine XS.iload Y87.here hx rfl (hb hby at_303) rfl ?_
          exact k
        obtain ⟨_, _, ⟨T96, L96, k96, n96⟩, -, X96, ⟨Lc96, hQ96, l96, y96, z96⟩, st96⟩ := Jvm.LawKit.callS Y87 hx (y := (⟨"com/example/processionary/processionary/automata/IntSetMembersPinLaw", "in", "(IIIIZI)Z"⟩ : MethodName)) hown (mvT hZ (hw _ (List.mem_of_getElem? (i := 41) rfl))) (mvT hZ (hw _ (List.mem_of_getElem? (i := 42) rfl))) (mvT hZ (hw _ (List.mem_of_getElem? (i := 2) rfl))) (mvT hZ (hw _ (List.mem_of_getElem? (i := 43) rfl))) (by decide) (backOf (W := 0) (rm9 l Z a0 hw [] (gm_38 2) (F1 p0 v4) (F1 p1 v4) (F1 p2 v4) v8 v20  h56 n0 (Nat.le_trans Z0 K56.1) ) hZ (hw _ (List.mem_of_getElem? (i := 43) rfl)) (hw _ (List.mem_of_getElem? (i := 2) rfl)) (by decide) (by decide)) (g := (mkF m 305 #[.val (.int p0), .val (.int p1), .val (.int p2), .val (.int p3), .val (.int p4), .val (.int v4), .val (.int v8), .val (.int (F1 p0 v4)), .val (.int (F1 p1 v4)), .val (.int (F1 p2 v4)), .val (.int v20), .val (.ref b22), .val (.ref mb_38), .val (.int v68)] [(.int v20), (.int v8), (.int (F1 p2 v4)), (.int (F1 p1 v4)), (.int (F1 p0 v4)), (.int (gm_38 2))])) rfl (by rw [hml]; rfl) (argsL := [(.int (gm_38 2)), (.int (F1 p0 v4)), (.int (F1 p1 v4)), (.int (F1 p2 v4)), (.int v8), (.int v20)]) (rest := []) (lenOf pd__28_IIIIZI_29_Z rfl) rfl (by show 2 * 0 + _ ≤ _; exact Nat.le_of_eq rfl) (hb hby at_305) (fun _ _ => ⟨rfl, e87, (by decide : 6 + 0 ≤ _), (by decide : 33 + 0 ≤ _)⟩)
        dsimp only [Pt.U, Pt.locs, Pt.cells, Pt.slots] at X96 l96 y96 z96 st96 hQ96
        subst l96 y96 z96
        obtain ⟨rfl, N96q, e96⟩ := hQ96
        have N96 := Fr.app N87 N96q
        obtain ⟨M96, Y96, N96⟩ : ∃ M, Stand p l e room_1 s m #[(.int p0), (.int p1), (.int p2), (.int p3), (.int p4)] below meth c T96 M 6 33 ∧ Fr n0 M := ⟨_, X96, N96⟩
        have pre96 : Lead p e below G (T96.setTop (mkF m 308 #[.val (.int p0), .val (.int p1), .val (.int p2), .val (.int p3), .val (.int p4), .val (.int v4), .val (.int v8), .val (.int (F1 p0 v4)), .val (.int (F1 p1 v4)), .val (.int (F1 p2 v4)), .val (.int v20), .val (.ref b22), .val (.ref mb_38), .val (.int v68)] [(.int (F9 (gm_38 2) (F1 p0 v4) (F1 p1 v4) (F1 p2 v4) v8 v20))])) := fun t k => pre95 t (st96 _ k)
        have hf97 : ¬ ((F9 (gm_38 2) (F1 p0 v4) (F1 p1 v4) (F1 p2 v4) v8 v20) = (0 : Int32)) := (own_min (2 : Int32) q32_0 c38_2 (by decide) hs288_92)
        have pre98 : Lead p e below G (T96.setTop (mkF m 315 #[.val (.int p0), .val (.int p1), .val (.int p2), .val (.int p3), .val (.int p4), .val (.int v4), .val (.int v8), .val (.int (F1 p0 v4)), .val (.int (F1 p1 v4)), .val (.int (F1 p2 v4)), .val (.int v20), .val (.ref b22), .val (.ref mb_38), .val (.int v68)] [(.ref mb_38)])) := fun t k => by
          refine pre96 t ?_
          show Steps p.tables e below (T96.setTop (mkF m 308 #[.val (.int p0), .val (.int p1), .val (.int p2), .val (.int p3), .val (.int p4), .val (.int v4), .val (.int v8), .val (.int (F1 p0 v4)), .val (.int (F1 p1 v4)), .val (.int (F1 p2 v4)), .val (.int v20), .val (.ref b22), .val (.ref mb_38), .val (.int v68)] [(.int (F9 (gm_38 2) (F1 p0 v4) (F1 p1 v4) (F1 p2 v4) v8 v20))])) _
          refine XS.ifYes Y96.here hx rfl (pc0 := 308) (pc' := 313) rfl (hb hby at_308) rfl ((if0 _ _).trans (feq hf97).2) (by decide) (by decide) ?_
          refine XS.aload Y96.here hx rfl (hb hby at_313) rfl rfl ?_
          show Steps p.tables e below (T96.setTop (mkF m 315 #[.val (.int p0), .val (.int p1), .val (.int p2), .val (.int p3), .val (.int p4), .val (.int v4), .val (.int v8), .val (.int (F1 p0 v4)), .val (.int (F1 p1 v4)), .val (.int (F1 p2 v4)), .val (.int v20), .val (.ref b22), .val (.ref mb_38), .val (.int v68)] [(.ref mb_38)])) _
          exact k
        obtain ⟨cl99, Ar99, len99⟩ := f56_0.len
        have st99 := Y96.arraylength hx (by rw [e96]; exact Ar99.1) (State.isArrayOf_alike hZ.alike Ar99.2.1) (g := (mkF m 315 #[.val (.int p0), .val (.int p1), .val (.int p2), .val (.int p3), .val (.int p4), .val (.int v4), .val (.int v8), .val (.int (F1 p0 v4)), .val (.int (F1 p1 v4)), .val (.int (F1 p2 v4)), .val (.int v20), .val (.ref b22), .val (.ref mb_38), .val (.int v68)] [(.ref mb_38)])) rfl rfl (hb hby at_315)
        rw [len99] at st99
        have pre99 : Lead p e below G (T96.setTop (mkF m 316 #[.val (.int p0), .val (.int p1), .val (.int p2), .val (.int p3), .val (.int p4), .val (.int v4), .val (.int v8), .val (.int (F1 p0 v4)), .val (.int (F1 p1 v4)), .val (.int (F1 p2 v4)), .val (.int v20), .val (.ref b22), .val (.ref mb_38), .val (.int v68)] [(.int n9_32)])) := fun t k => pre98 t (st99 _ k)
        have hf100 : (1 : Int32) < n9_32 := hs259_83
        have pre101 : Lead p e below G (T96.setTop (mkF m 323 #[.val (.int p0), .val (.int p1), .val (.int p2), .val (.int p3), .val (.int p4), .val (.int v4), .val (.int v8), .val (.int (F1 p0 v4)), .val (.int (F1 p1 v4)), .val (.int (F1 p2 v4)), .val (.int v20), .val (.ref b22), .val (.ref mb_38), .val (.int v68)] [(.int (0 : Int32)), (.ref mb_38)])) := fun t k => by
          refine pre99 t ?_
          show Steps p.tables e below (T96.setTop (mkF m 316 #[.val (.int p0), .val (.int p1), .val (.int p2), .val (.int p3), .val (.int p4), .val (.int v4), .val (.int v8), .val (.int (F1 p0 v4)), .val (.int (F1 p1 v4)), .val (.int (F1 p2 v4)), .val (.int v20), .val (.ref b22), .val (.ref mb_38), .val (.int v68)] [(.int n9_32)])) _
          refine XS.iconst Y96.here hx rfl (hb hby at_316) ?_
          refine XS.icmpNo Y96.here hx rfl (hb hby at_317) rfl (tlt hf100).2.2.2 ?_
          refine XS.aload Y96.here hx rfl (hb hby at_320) rfl rfl ?_
          show Steps p.tables e below (T96.setTop (mkF m 322 #[.val (.int p0), .val (.int p1), .val (.int p2), .val (.int p3), .val (.int p4), .val (.int v4), .val (.int v8), .val (.int (F1 p0 v4)), .val (.int (F1 p1 v4)), .val (.int (F1 p2 v4)), .val (.int v20), .val (.ref b22), .val (.ref mb_38), .val (.int v68)] [(.ref mb_38)])) _
          refine XS.iconst Y96.here hx rfl (hb hby at_322) ?_
          exact k
        obtain ⟨cl102, Ar102, hin102, hat102⟩ := f56_0.in (j := (0 : Int32)) ⟨by decide, hs230_74⟩
        have st102 := Y96.iaload hx (j := (0 : Int32)) (v := (.int (gm_38 0))) (by rw [e96]; exact Ar102.1) (State.isArrayOf_alike hZ.alike Ar102.2.1) Ar102.2.2 hin102 hat102 (g := (mkF m 323 #[.val (.int p0), .val (.int p1), .val (.int p2), .val (.int p3), .val (.int p4), .val (.int v4), .val (.int v8), .val (.int (F1 p0 v4)), .val (.int (F1 p1 v4)), .val (.int (F1 p2 v4)), .val (.int v20), .val (.ref b22), .val (.ref mb_38), .val (.int v68)] [(.int (0 : Int32)), (.ref mb_38)])) rfl rfl (hb hby at_323)
        have pre102 : Lead p e below G (T96.setTop (mkF m 324 #[.val (.int p0), .val (.int p1), .val (.int p2), .val (.int p3), .val (.int p4), .val (.int v4), .val (.int v8), .val (.int (F1 p0 v4)), .val (.int (F1 p1 v4)), .val (.int (F1 p2 v4)), .val (.int v20), .val (.ref b22), .val (.ref mb_38), .val (.int v68)] [(.int (gm_38 0))])) := fun t k => pre101 t (st102 _ k)
        have pre103 : Lead p e below G (T96.setTop (mkF m 327 #[.val (.int p0), .val (.int p1), .val (.int p2), .val (.int p3), .val (.int p4), .val (.int v4), .val (.int v8), .val (.int (F1 p0 v4)), .val (.int (F1 p1 v4)), .val (.int (F1 p2 v4)), .val (.int v20), .val (.ref b22), .val (.ref mb_38), .val (.int v68)] [(.int (1 : Int32)), (.ref mb_38), (.int (gm_38 0))])) := fun t k => by
          refine pre102 t ?_
          show Steps p.tables e below (T96.setTop (mkF m 324 #[.val (.int p0), .val (.int p1), .val (.int p2), .val (.int p3), .val (.int p4), .val (.int v4), .val (.int v8), .val (.int (F1 p0 v4)), .val (.int (F1 p1 v4)), .val (.int (F1 p2 v4)), .val (.int v20), .val (.ref b22), .val (.ref mb_38), .val (.int v68)] [(.int (gm_38 0))])) _
          refine XS.aload Y96.here hx rfl (hb hby at_324) rfl rfl ?_
          refine XS.iconst Y96.here hx rfl (hb hby at_326) ?_
          show Steps p.tables e below (T96.setTop (mkF m 327 #[.val (.int p0), .val (.int p1), .val (.int p2), .val (.int p3), .val (.int p4), .val (.int v4), .val (.int v8), .val (.int (F1 p0 v4)), .val (.int (F1 p1 v4)), .val (.int (F1 p2 v4)), .val (.int v20), .val (.ref b22), .val (.ref mb_38), .val (.int v68)] [(.int (1 : Int32)), (.ref mb_38), (.int (gm_38 0))])) _
          exact k
        obtain ⟨cl104, Ar104, hin104, hat104⟩ := f56_0.in (j := (1 : Int32)) ⟨by decide, hs259_83⟩
        have st104 := Y96.iaload hx (j := (1 : Int32)) (v := (.int (gm_38 1))) (by rw [e96]; exact Ar104.1) (State.isArrayOf_alike hZ.alike Ar104.2.1) Ar104.2.2 hin104 hat104 (g := (mkF m 327 #[.val (.int p0), .val (.int p1), .val (.int p2), .val (.int p3), .val (.int p4), .val (.int v4), .val (.int v8), .val (.int (F1 p0 v4)), .val (.int (F1 p1 v4)), .val (.int (F1 p2 v4)), .val (.int v20), .val (.ref b22), .val (.ref mb_38), .val (.int v68)] [(.int (1 : Int32)), (.ref mb_38), (.int (gm_38 0))])) rfl rfl (hb hby at_327)
        have pre104 : Lead p e below G (T96.setTop (mkF m 328 #[.val (.int p0), .val (.int p1), .val (.int p2), .val (.int p3), .val (.int p4), .val (.int v4), .val (.int v8), .val (.int (F1 p0 v4)), .val (.int (F1 p1 v4)), .val (.int (F1 p2 v4)), .val (.int v20), .val (.ref b22), .val (.ref mb_38), .val (.int v68)] [(.int (gm_38 1)), (.int (gm_38 0))])) := fun t k => pre103 t (st104 _ k)
        have hf105 : ¬ ((gm_38 0) = (gm_38 1)) := (own_mne (0 : Int32) (1 : Int32) q32_0 c38_2 (by decide) hs259_83)
        have pre106 : Lead p e below G (T96.setTop (mkF m 335 #[.val (.int p0), .val (.int p1), .val (.int p2), .val (.int p3), .val (.int p4), .val (.int v4), .val (.int v8), .val (.int (F1 p0 v4)), .val (.int (F1 p1 v4)), .val (.int (F1 p2 v4)), .val (.int v20), .val (.ref b22), .val (.ref mb_38), .val (.int v68)] [(.ref mb_38)])) := fun t k => by
          refine pre104 t ?_
          show Steps p.tables e below (T96.setTop (mkF m 328 #[.val (.int p0), .val (.int p1), .val (.int p2), .val (.int p3), .val (.int p4), .val (.int v4), .val (.int v8), .val (.int (F1 p0 v4)), .val (.int (F1 p1 v4)), .val (.int (F1 p2 v4)), .val (.int v20), .val (.ref b22), .val (.ref mb_38), .val (.int v68)] [(.int (gm_38 1)), (.int (gm_38 0))])) _
          refine XS.icmpYes Y96.here hx rfl (pc0 := 328) (pc' := 333) rfl (hb hby at_328) rfl (feq hf105).2 (by decide) (by decide) ?_
          refine XS.aload Y96.here hx rfl (hb hby at_333) rfl rfl ?_
          exact k
        obtain ⟨cl107, Ar107, len107⟩ := f56_0.len
        have st107 := Y96.arraylength hx (by rw [e96]; exact Ar107.1) (State.isArrayOf_alike hZ.alike Ar107.2.1) (g := (mkF m 335 #[.val (.int p0), .val (.int p1), .val (.int p2), .val (.int p3), .val (.int p4), .val (.int v4), .val (.int v8), .val (.int (F1 p0 v4)), .val (.int (F1 p1 v4)), .val (.int (F1 p2 v4)), .val (.int v20), .val (.ref b22), .val (.ref mb_38), .val (.int v68)] [(.ref mb_38)])) rfl rfl (hb hby at_335)
        rw [len107] at st107
        have pre107 : Lead p e below G (T96.setTop (mkF m 336 #[.val (.int p0), .val (.int p1), .val (.int p2), .val (.int p3), .val (.int p4), .val (.int v4), .val (.int v8), .val (.int (F1 p0 v4)), .val (.int (F1 p1 v4)), .val (.int (F1 p2 v4)), .val (.int v20), .val (.ref b22), .val (.ref mb_38), .val (.int v68)] [(.int n9_32)])) := fun t k => pre106 t (st107 _ k)
        have hf108 : (2 : Int32) < n9_32 := hs288_92
        have pre109 : Lead p e below G (T96.setTop (mkF m 343 #[.val (.int p0), .val (.int p1), .val (.int p2), .val (.int p3), .val (.int p4), .val (.int v4), .val (.int v8), .val (.int (F1 p0 v4)), .val (.int (F1 p1 v4)), .val (.int (F1 p2 v4)), .val (.int v20), .val (.ref b22), .val (.ref mb_38), .val (.int v68)] [(.int (0 : Int32)), (.ref mb_38)])) := fun t k => by
          refine pre107 t ?_
          show Steps p.tables e below (T96.setTop (mkF m 336 #[.val (.int p0), .val (.int p1), .val (.int p2), .val (.int p3), .val (.int p4), .val (.int v4), .val (.int v8), .val (.int (F1 p0 v4)), .val (.int (F1 p1 v4)), .val (.int (F1 p2 v4)), .val (.int v20), .val (.ref b22), .val (.ref mb_38), .val (.int v68)] [(.int n9_32)])) _
          refine XS.iconst Y96.here hx rfl (hb hby at_336) ?_
          show Steps p.tables e below (T96.setTop (mkF m 337 #[.val (.int p0), .val (.int p1), .val (.int p2), .val (.int p3), .val (.int p4), .val (.int v4), .val (.int v8), .val (.int (F1 p0 v4)), .val (.int (F1 p1 v4)), .val (.int (F1 p2 v4)), .val (.int v20), .val (.ref b22), .val (.ref mb_38), .val (.int v68)] [(.int (2 : Int32)), (.int n9_32)])) _
          refine XS.icmpNo Y96.here hx rfl (hb hby at_337) rfl (tlt hf108).2.2.2 ?_
          refine XS.aload Y96.here hx rfl (hb hby at_340) rfl rfl ?_
          refine XS.iconst Y96.here hx rfl (hb hby at_342) ?_
          show Steps p.tables e below (T96.setTop (mkF m 343 #[.val (.int p0), .val (.int p1), .val (.int p2), .val (.int p3), .val (.int p4), .val (.int v4), .val (.int v8), .val (.int (F1 p0 v4)), .val (.int (F1 p1 v4)), .val (.int (F1 p2 v4)), .val (.int v20), .val (.ref b22), .val (.ref mb_38), .val (.int v68)] [(.int (0 : Int32)), (.ref mb_38)])) _
          exact k
        obtain ⟨cl110, Ar110, hin110, hat110⟩ := f56_0.in (j := (0 : Int32)) ⟨by decide, hs230_74⟩
        have st110 := Y96.iaload hx (j := (0 : Int32)) (v := (.int (gm_38 0))) (by rw [e96]; exact Ar110.1) (State.isArrayOf_alike hZ.alike Ar110.2.1) Ar110.2.2 hin110 hat110 (g := (mkF m 343 #[.val (.int p0), .val (.int p1), .val (.int p2), .val (.int p3), .val (.int p4), .val (.int v4), .val (.int v8), .val (.int (F1 p0 v4)), .val (.int (F1 p1 v4)), .val (.int (F1 p2 v4)), .val (.int v20), .val (.ref b22), .val (.ref mb_38), .val (.int v68)] [(.int (0 : Int32)), (.ref mb_38)])) rfl rfl (hb hby at_343)
        have pre110 : Lead p e below G (T96.setTop (mkF m 344 #[.val (.int p0), .val (.int p1), .val (.int p2), .val (.int p3), .val (.int p4), .val (.int v4), .val (.int v8), .val (.int (F1 p0 v4)), .val (.int (F1 p1 v4)), .val (.int (F1 p2 v4)), .val (.int v20), .val (.ref b22), .val (.ref mb_38), .val (.int v68)] [(.int (gm_38 0))])) := fun t k => pre109 t (st110 _ k)
        have pre111 : Lead p e below G (T96.setTop (mkF m 347 #[.val (.int p0), .val (.int p1), .val (.int p2), .val (.int p3), .val (.int p4), .val (.int v4), .val (.int v8), .val (.int (F1 p0 v4)), .val (.int (F1 p1 v4)), .val (.int (F1 p2 v4)), .val (.int v20), .val (.ref b22), .val (.ref mb_38), .val (.int v68)] [(.int (2 : Int32)), (.ref mb_38), (.int (gm_38 0))])) := fun t k => by
          refine pre110 t ?_
          show Steps p.tables e below (T96.setTop (mkF m 344 #[.val (.int p0), .val (.int p1), .val (.int p2), .val (.int p3), .val (.int p4), .val (.int v4), .val (.int v8), .val (.int (F1 p0 v4)), .val (.int (F1 p1 v4)), .val (.int (F1 p2 v4)), .val (.int v20), .val (.ref b22), .val (.ref mb_38), .val (.int v68)] [(.int (gm_38 0))])) _
          refine XS.aload Y96.here hx rfl (hb hby at_344) rfl rfl ?_
          refine XS.iconst Y96.here hx rfl (hb hby at_346) ?_
          exact k
        obtain ⟨cl112, Ar112, hin112, hat112⟩ := f56_0.in (j := (2 : Int32)) ⟨by decide, hs288_92⟩
        have st112 := Y96.iaload hx (j := (2 : Int32)) (v := (.int (gm_38 2))) (by rw [e96]; exact Ar112.1) (State.isArrayOf_alike hZ.alike Ar112.2.1) Ar112.2.2 hin112 hat112 (g := (mkF m 347 #[.val (.int p0), .val (.int p1), .val (.int p2), .val (.int p3), .val (.int p4), .val (.int v4), .val (.int v8), .val (.int (F1 p0 v4)), .val (.int (F1 p1 v4)), .val (.int (F1 p2 v4)), .val (.int v20), .val (.ref b22), .val (.ref mb_38), .val (.int v68)] [(.int (2 : Int32)), (.ref mb_38), (.int (gm_38 0))])) rfl rfl (hb hby at_347)
        have pre112 : Lead p e below G (T96.setTop (mkF m 348 #[.val (.int p0), .val (.int p1), .val (.int p2), .val (.int p3), .val (.int p4), .val (.int v4), .val (.int v8), .val (.int (F1 p0 v4)), .val (.int (F1 p1 v4)), .val (.int (F1 p2 v4)), .val (.int v20), .val (.ref b22), .val (.ref mb_38), .val (.int v68)] [(.int (gm_38 2)), (.int (gm_38 0))])) := fun t k => pre111 t (st112 _ k)
        have hf113 : ¬ ((gm_38 0) = (gm_38 2)) := (own_mne (0 : Int32) (2 : Int32) q32_0 c38_2 (by decide) hs288_92)
        have pre114 : Lead p e below G (T96.setTop (mkF m 354 #[.val (.int p0), .val (.int p1), .val (.int p2), .val (.int p3), .val (.int p4), .val (.int v4), .val (.int v8), .val (.int (F1 p0 v4)), .val (.int (F1 p1 v4)), .val (.int (F1 p2 v4)), .val (.int v20), .val (.ref b22), .val (.ref mb_38), .val (.int v68)] [(.int (1 : Int32)), (.ref mb_38)])) := fun t k => by
          refine pre112 t ?_
          show Steps p.tables e below (T96.setTop (mkF m 348 #[.val (.int p0), .val (.int p1), .val (.int p2), .val (.int p3), .val (.int p4), .val (.int v4), .val (.int v8), .val (.int (F1 p0 v4)), .val (.int (F1 p1 v4)), .val (.int (F1 p2 v4)), .val (.int v20), .val (.ref b22), .val (.ref mb_38), .val (.int v68)] [(.int (gm_38 2)), (.int (gm_38 0))])) _
          refine XS.icmpNo Y96.here hx rfl (hb hby at_348) rfl (feq hf113).1 ?_
          show Steps p.tables e below (T96.setTop (mkF m 351 #[.val (.int p0), .val (.int p1), .val (.int p2), .val (.int p3), .val (.int p4), .val (.int v4), .val (.int v8), .val (.int (F1 p0 v4)), .val (.int (F1 p1 v4)), .val (.int (F1 p2 v4)), .val (.int v20), .val (.ref b22), .val (.ref mb_38), .val (.int v68)] [])) _
          refine XS.aload Y96.here hx rfl (hb hby at_351) rfl rfl ?_
          refine XS.iconst Y96.here hx rfl (hb hby at_353) ?_
          exact k
        obtain ⟨cl115, Ar115, hin115, hat115⟩ := f56_0.in (j := (1 : Int32)) ⟨by decide, hs259_83⟩
        have st115 := Y96.iaload hx (j := (1 : Int32)) (v := (.int (gm_38 1))) (by rw [e96]; exact Ar115.1) (State.isArrayOf_alike hZ.alike Ar115.2.1) Ar115.2.2 hin115 hat115 (g := (mkF m 354 #[.val (.int p0), .val (.int p1), .val (.int p2), .val (.int p3), .val (.int p4), .val (.int v4), .val (.int v8), .val (.int (F1 p0 v4)), .val (.int (F1 p1 v4)), .val (.int (F1 p2 v4)), .val (.int v20), .val (.ref b22), .val (.ref mb_38), .val (.int v68)] [(.int (1 : Int32)), (.ref mb_38)])) rfl rfl (hb hby at_354)
        have pre115 : Lead p e below G (T96.setTop (mkF m 355 #[.val (.int p0), .val (.int p1), .val (.int p2), .val (.int p3), .val (.int p4), .val (.int v4), .val (.int v8), .val (.int (F1 p0 v4)), .val (.int (F1 p1 v4)), .val (.int (F1 p2 v4)), .val (.int v20), .val (.ref b22), .val (.ref mb_38), .val (.int v68)] [(.int (gm_38 1))])) := fun t k => pre114 t (st115 _ k)
        have pre116 : Lead p e below G (T96.setTop (mkF m 358 #[.val (.int p0), .val (.int p1), .val (.int p2), .val (.int p3), .val (.int p4), .val (.int v4), .val (.int v8), .val (.int (F1 p0 v4)), .val (.int (F1 p1 v4)), .val (.int (F1 p2 v4)), .val (.int v20), .val (.ref b22), .val (.ref mb_38), .val (.int v68)] [(.int (2 : Int32)), (.ref mb_38), (.int (gm_38 1))])) := fun t k => by
          refine pre115 t ?_
          show Steps p.tables e below (T96.setTop (mkF m 355 #[.val (.int p0), .val (.int p1), .val (.int p2), .val (.int p3), .val (.int p4), .val (.int v4), .val (.int v8), .val (.int (F1 p0 v4)), .val (.int (F1 p1 v4)), .val (.int (F1 p2 v4)), .val (.int v20), .val (.ref b22), .val (.ref mb_38), .val (.int v68)] [(.int (gm_38 1))])) _
          refine XS.aload Y96.here hx rfl (hb hby at_355) rfl rfl ?_
          show Steps p.tables e below (T96.setTop (mkF m 357 #[.val (.int p0), .val (.int p1), .val (.int p2), .val (.int p3), .val (.int p4), .val (.int v4), .val (.int v8), .val (.int (F1 p0 v4)), .val (.int (F1 p1 v4)), .val (.int (F1 p2 v4)), .val (.int v20), .val (.ref b22), .val (.ref mb_38), .val (.int v68)] [(.ref mb_38), (.int (gm_38 1))])) _
          refine XS.iconst Y96.here hx rfl (hb hby at_357) ?_
          exact k
        obtain ⟨cl117, Ar117, hin117, hat117⟩ := f56_0.in (j := (2 : Int32)) ⟨by decide, hs288_92⟩
        have st117 := Y96.iaload hx (j := (2 : Int32)) (v := (.int (gm_38 2))) (by rw [e96]; exact Ar117.1) (State.isArrayOf_alike hZ.alike Ar117.2.1) Ar117.2.2 hin117 hat117 (g := (mkF m 358 #[.val (.int p0), .val (.int p1), .val (.int p2), .val (.int p3), .val (.int p4), .val (.int v4), .val (.int v8), .val (.int (F1 p0 v4)), .val (.int (F1 p1 v4)), .val (.int (F1 p2 v4)), .val (.int v20), .val (.ref b22), .val (.ref mb_38), .val (.int v68)] [(.int (2 : Int32)), (.ref mb_38), (.int (gm_38 1))])) rfl rfl (hb hby at_358)
        have pre117 : Lead p e below G (T96.setTop (mkF m 359 #[.val (.int p0), .val (.int p1), .val (.int p2), .val (.int p3), .val (.int p4), .val (.int v4), .val (.int v8), .val (.int (F1 p0 v4)), .val (.int (F1 p1 v4)), .val (.int (F1 p2 v4)), .val (.int v20), .val (.ref b22), .val (.ref mb_38), .val (.int v68)] [(.int (gm_38 2)), (.int (gm_38 1))])) := fun t k => pre116 t (st117 _ k)
        have hf118 : ¬ ((gm_38 1) = (gm_38 2)) := (own_mne (1 : Int32) (2 : Int32) q32_0 c38_2 (by decide) hs288_92)
        obtain ⟨fs, hr, hrun, hended, hW, hsame⟩ := Y96.leave (v := some (.int (nar .boolean (1 : Int32)))) (fun h => by rw [Bd.returns] at h; cases h)
        have preF : Lead p e below (s₁.setTop (entryFrame m #[(.int p0), (.int p1), (.int p2), (.int p3), (.int p4)] maxLocals)) (T96.setTop (mkF m 359 #[.val (.int p0), .val (.int p1), .val (.int p2), .val (.int p3), .val (.int p4), .val (.int v4), .val (.int v8), .val (.int (F1 p0 v4)), .val (.int (F1 p1 v4)), .val (.int (F1 p2 v4)), .val (.int v20), .val (.ref b22), .val (.ref mb_38), .val (.int v68)] [(.int (gm_38 2)), (.int (gm_38 1))])) := by rw [← hG]; exact pre117
        refine ⟨_, _, preF _ ?_, hrun, hended, _, _, rfl, ?_, ⟨_, rfl⟩, hW, hsame.mono (by decide) (by decide)⟩
        · show Steps p.tables e below (T96.setTop (mkF m 359 #[.val (.int p0), .val (.int p1), .val (.int p2), .val (.int p3), .val (.int p4), .val (.int v4), .val (.int v8), .val (.int (F1 p0 v4)), .val (.int (F1 p1 v4)), .val (.int (F1 p2 v4)), .val (.int v20), .val (.ref b22), .val (.ref mb_38), .val (.int v68)] [(.int (gm_38 2)), (.int (gm_38 1))])) _
          refine XS.icmpYes Y96.here hx rfl (pc0 := 359) (pc' := 364) rfl (hb hby at_359) rfl (feq hf118).2 (by decide) (by decide) ?_
          refine XS.iconst Y96.here hx rfl (hb hby at_364) ?_
          show Steps p.tables e below (T96.setTop (mkF m 365 #[.val (.int p0), .val (.int p1), .val (.int p2), .val (.int p3), .val (.int p4), .val (.int v4), .val (.int v8), .val (.int (F1 p0 v4)), .val (.int (F1 p1 v4)), .val (.int (F1 p2 v4)), .val (.int v20), .val (.ref b22), .val (.ref mb_38), .val (.int v68)] [(.int (1 : Int32))])) _
          exact retN Y96 hx (t := .boolean) Bd.returns (by simp) (hb hby at_365) hr
        · show Q0 Z p0 p1 p2 p3 p4 h0 n0 _ T96.heap _
          refine ⟨congrArg (fun z => some (Value.int z)) (?_ : (nar .boolean (1 : Int32)) = 1), N96⟩
          decide
      · have pre119 : Lead p e below G (T87.setTop (mkF m 315 #[.val (.int p0), .val (.int p1), .val (.int p2), .val (.int p3), .val (.int p4), .val (.int v4), .val (.int v8), .val (.int (F1 p0 v4)), .val (.int (F1 p1 v4)), .val (.int (F1 p2 v4)), .val (.int v20), .val (.ref b22), .val (.ref mb_38), .val (.int v68)] [(.ref mb_38)])) := fun t k => by
          refine pre91 t ?_
          show Steps p.tables e below (T87.setTop (mkF m 288 #[.val (.int p0), .val (.int p1), .val (.int p2), .val (.int p3), .val (.int p4), .val (.int v4), .val (.int v8), .val (.int (F1 p0 v4)), .val (.int (F1 p1 v4)), .val (.int (F1 p2 v4)), .val (.int v20), .val (.ref b22), .val (.ref mb_38), .val (.int v68)] [(.int (2 : Int32)), (.int n9_32)])) _
          refine XS.icmpYes Y87.here hx rfl (pc0 := 288) (pc' := 313) rfl (hb hby at_288) rfl (flt hs288_92).2.2.2 (by decide) (by decide) ?_
          refine XS.aload Y87.here hx rfl (hb hby at_313) rfl rfl ?_
          exact k
        obtain ⟨cl120, Ar120, len120⟩ := f56_0.len
        have st120 := Y87.arraylength hx (by rw [e87]; exact Ar120.1) (State.isArrayOf_alike hZ.alike Ar120.2.1) (g := (mkF m 315 #[.val (.int p0), .val (.int p1), .val (.int p2), .val (.int p3), .val (.int p4), .val (.int v4), .val (.int v8), .val (.int (F1 p0 v4)), .val (.int (F1 p1 v4)), .val (.int (F1 p2 v4)), .val (.int v20), .val (.ref b22), .val (.ref mb_38), .val (.int v68)] [(.ref mb_38)])) rfl rfl (hb hby at_315)
        rw [len120] at st120
        have pre120 : Lead p e below G (T87.setTop (mkF m 316 #[.val (.int p0), .val (.int p1), .val (.int p2), .val (.int p3), .val (.int p4), .val (.int v4), .val (.int v8), .val (.int (F1 p0 v4)), .val (.int (F1 p1 v4)), .val (.int (F1 p2 v4)), .val (.int v20), .val (.ref b22), .val (.ref mb_38), .val (.int v68)] [(.int n9_32)])) := fun t k => pre119 t (st120 _ k)
        have hf121 : (1 : Int32) < n9_32 := hs259_83
        have pre122 : Lead p e below G (T87.setTop (mkF m 323 #[.val (.int p0), .val (.int p1), .val (.int p2), .val (.int p3), .val (.int p4), .val (.int v4), .val (.int v8), .val (.int (F1 p0 v4)), .val (.int (F1 p1 v4)), .val (.int (F1 p2 v4)), .val (.int v20), .val (.ref b22), .val (.ref mb_38), .val (.int v68)] [(.int (0 : Int32)), (.ref mb_38)])) := fun t k => by
          refine pre120 t ?_
          show Steps p.tables e below (T87.setTop (mkF m 316 #[.val (.int p0), .val (.int p1), .val (.int p2), .val (.int p3), .val (.int p4), .val (.int v4), .val (.int v8), .val (.int (F1 p0 v4)), .val (.int (F1 p1 v4)), .val (.int (F1 p2 v4)), .val (.int v20), .val (.ref b22), .val (.ref mb_38), .val (.int v68)] [(.int n9_32)])) _
          refine XS.iconst Y87.here hx rfl (hb hby at_316) ?_
          show Steps p.tables e below (T87.setTop (mkF m 317 #[.val (.int p0), .val (.int p1), .val (.int p2), .val (.int p3), .val (.int p4), .val (.int v4), .val (.int v8), .val (.int (F1 p0 v4)), .val (.int (F1 p1 v4)), .val (.int (F1 p2 v4)), .val (.int v20), .val (.ref b22), .val (.ref mb_38), .val (.int v68)] [(.int (1 : Int32)), (.int n9_32)])) _
          refine XS.icmpNo Y87.here hx rfl (hb hby at_317) rfl (tlt hf121).2.2.2 ?_
          refine XS.aload Y87.here hx rfl (hb hby at_320) rfl rfl ?_
          refine XS.iconst Y87.here hx rfl (hb hby at_322) ?_
          show Steps p.tables e below (T87.setTop (mkF m 323 #[.val (.int p0), .val (.int p1), .val (.int p2), .val (.int p3), .val (.int p4), .val (.int v4), .val (.int v8), .val (.int (F1 p0 v4)), .val (.int (F1 p1 v4)), .val (.int (F1 p2 v4)), .val (.int v20), .val (.ref b22), .val (.ref mb_38), .val (.int v68)] [(.int (0 : Int32)), (.ref mb_38)])) _
          exact k
        obtain ⟨cl123, Ar123, hin123, hat123⟩ := f56_0.in (j := (0 : Int32)) ⟨by decide, hs230_74⟩
        have st123 := Y87.iaload hx (j := (0 : Int32)) (v := (.int (gm_38 0))) (by rw [e87]; exact Ar123.1) (State.isArrayOf_alike hZ.alike Ar123.2.1) Ar123.2.2 hin123 hat123 (g := (mkF m 323 #[.val (.int p0), .val (.int p1), .val (.int p2), .val (.int p3), .val (.int p4), .val (.int v4), .val (.int v8), .val (.int (F1 p0 v4)), .val (.int (F1 p1 v4)), .val (.int (F1 p2 v4)), .val (.int v20), .val (.ref b22), .val (.ref mb_38), .val (.int v68)] [(.int (0 : Int32)), (.ref mb_38)])) rfl rfl (hb hby at_323)
        have pre123 : Lead p e below G (T87.setTop (mkF m 324 #[.val (.int p0), .val (.int p1), .val (.int p2), .val (.int p3), .val (.int p4), .val (.int v4), .val (.int v8), .val (.int (F1 p0 v4)), .val (.int (F1 p1 v4)), .val (.int (F1 p2 v4)), .val (.int v20), .val (.ref b22), .val (.ref mb_38), .val (.int v68)] [(.int (gm_38 0))])) := fun t k => pre122 t (st123 _ k)
        have pre124 : Lead p e below G (T87.setTop (mkF m 327 #[.val (.int p0), .val (.int p1), .val (.int p2), .val (.int p3), .val (.int p4), .val (.int v4), .val (.int v8), .val (.int (F1 p0 v4)), .val (.int (F1 p1 v4)), .val (.int (F1 p2 v4)), .val (.int v20), .val (.ref b22), .val (.ref mb_38), .val (.int v68)] [(.int (1 : Int32)), (.ref mb_38), (.int (gm_38 0))])) := fun t k => by
          refine pre123 t ?_
          show Steps p.tables e below (T87.setTop (mkF m 324 #[.val (.int p0), .val (.int p1), .val (.int p2), .val (.int p3), .val (.int p4), .val (.int v4), .val (.int v8), .val (.int (F1 p0 v4)), .val (.int (F1 p1 v4)), .val (.int (F1 p2 v4)), .val (.int v20), .val (.ref b22), .val (.ref mb_38), .val (.int v68)] [(.int (gm_38 0))])) _
          refine XS.aload Y87.here hx rfl (hb hby at_324) rfl rfl ?_
          refine XS.iconst Y87.here hx rfl (hb hby at_326) ?_
          exact k
        obtain ⟨cl125, Ar125, hin125, hat125⟩ := f56_0.in (j := (1 : Int32)) ⟨by decide, hs259_83⟩
        have st125 := Y87.iaload hx (j := (1 : Int32)) (v := (.int (gm_38 1))) (by rw [e87]; exact Ar125.1) (State.isArrayOf_alike hZ.alike Ar125.2.1) Ar125.2.2 hin125 hat125 (g := (mkF m 327 #[.val (.int p0), .val (.int p1), .val (.int p2), .val (.int p3), .val (.int p4), .val (.int v4), .val (.int v8), .val (.int (F1 p0 v4)), .val (.int (F1 p1 v4)), .val (.int (F1 p2 v4)), .val (.int v20), .val (.ref b22), .val (.ref mb_38), .val (.int v68)] [(.int (1 : Int32)), (.ref mb_38), (.int (gm_38 0))])) rfl rfl (hb hby at_327)
        have pre125 : Lead p e below G (T87.setTop (mkF m 328 #[.val (.int p0), .val (.int p1), .val (.int p2), .val (.int p3), .val (.int p4), .val (.int v4), .val (.int v8), .val (.int (F1 p0 v4)), .val (.int (F1 p1 v4)), .val (.int (F1 p2 v4)), .val (.int v20), .val (.ref b22), .val (.ref mb_38), .val (.int v68)] [(.int (gm_38 1)), (.int (gm_38 0))])) := fun t k => pre124 t (st125 _ k)
        have hf126 : ¬ ((gm_38 0) = (gm_38 1)) := (own_mne (0 : Int32) (1 : Int32) q32_0 c38_2 (by decide) hs259_83)
        have pre127 : Lead p e below G (T87.setTop (mkF m 335 #[.val (.int p0), .val (.int p1), .val (.int p2), .val (.int p3), .val (.int p4), .val (.int v4), .val (.int v8), .val (.int (F1 p0 v4)), .val (.int (F1 p1 v4)), .val (.int (F1 p2 v4)), .val (.int v20), .val (.ref b22), .val (.ref mb_38), .val (.int v68)] [(.ref mb_38)])) := fun t k => by
          refine pre125 t ?_
          show Steps p.tables e below (T87.setTop (mkF m 328 #[.val (.int p0), .val (.int p1), .val (.int p2), .val (.int p3), .val (.int p4), .val (.int v4), .val (.int v8), .val (.int (F1 p0 v4)), .val (.int (F1 p1 v4)), .val (.int (F1 p2 v4)), .val (.int v20), .val (.ref b22), .val (.ref mb_38), .val (.int v68)] [(.int (gm_38 1)), (.int (gm_38 0))])) _
          refine XS.icmpYes Y87.here hx rfl (pc0 := 328) (pc' := 333) rfl (hb hby at_328) rfl (feq hf126).2 (by decide) (by decide) ?_
          show Steps p.tables e below (T87.setTop (mkF m 333 #[.val (.int p0), .val (.int p1), .val (.int p2), .val (.int p3), .val (.int p4), .val (.int v4), .val (.int v8), .val (.int (F1 p0 v4)), .val (.int (F1 p1 v4)), .val (.int (F1 p2 v4)), .val (.int v20), .val (.ref b22), .val (.ref mb_38), .val (.int v68)] [])) _
          refine XS.aload Y87.here hx rfl (hb hby at_333) rfl rfl ?_
          exact k
        obtain ⟨cl128, Ar128, len128⟩ := f56_0.len
        have st128 := Y87.arraylength hx (by rw [e87]; exact Ar128.1) (State.isArrayOf_alike hZ.alike Ar128.2.1) (g := (mkF m 335 #[.val (.int p0), .val (.int p1), .val (.int p2), .val (.int p3), .val (.int p4), .val (.int v4), .val (.int v8), .val (.int (F1 p0 v4)), .val (.int (F1 p1 v4)), .val (.int (F1 p2 v4)), .val (.int v20), .val (.ref b22), .val (.ref mb_38), .val (.int v68)] [(.ref mb_38)])) rfl rfl (hb hby at_335)
        rw [len128] at st128
        have pre128 : Lead p e below G (T87.setTop (mkF m 336 #[.val (.int p0), .val (.int p1), .val (.int p2), .val (.int p3), .val (.int p4), .val (.int v4), .val (.int v8), .val (.int (F1 p0 v4)), .val (.int (F1 p1 v4)), .val (.int (F1 p2 v4)), .val (.int v20), .val (.ref b22), .val (.ref mb_38), .val (.int v68)] [(.int n9_32)])) := fun t k => pre127 t (st128 _ k)
        have hf129 : ¬ ((2 : Int32) < n9_32) := hs288_92
        obtain ⟨fs, hr, hrun, hended, hW, hsame⟩ := Y87.leave (v := some (.int (nar .boolean (1 : Int32)))) (fun h => by rw [Bd.returns] at h; cases h)
        have preF : Lead p e below (s₁.setTop (entryFrame m #[(.int p0), (.int p1), (.int p2), (.int p3), (.int p4)] maxLocals)) (T87.setTop (mkF m 336 #[.val (.int p0), .val (.int p1), .val (.int p2), .val (.int p3), .val (.int p4), .val (.int v4), .val (.int v8), .val (.int (F1 p0 v4)), .val (.int (F1 p1 v4)), .val (.int (F1 p2 v4)), .val (.int v20), .val (.ref b22), .val (.ref mb_38), .val (.int v68)] [(.int n9_32)])) := by rw [← hG]; exact pre128
        refine ⟨_, _, preF _ ?_, hrun, hended, _, _, rfl, ?_, ⟨_, rfl⟩, hW, hsame.mono (by decide) (by decide)⟩
        · show Steps p.tables e below (T87.setTop (mkF m 336 #[.val (.int p0), .val (.int p1), .val (.int p2), .val (.int p3), .val (.int p4), .val (.int v4), .val (.int v8), .val (.int (F1 p0 v4)), .val (.int (F1 p1 v4)), .val (.int (F1 p2 v4)), .val (.int v20), .val (.ref b22), .val (.ref mb_38), .val (.int v68)] [(.int n9_32)])) _
          refine XS.iconst Y87.here hx rfl (hb hby at_336) ?_
          refine XS.icmpYes Y87.here hx rfl (pc0 := 337) (pc' := 364) rfl (hb hby at_337) rfl (flt hf129).2.2.2 (by decide) (by decide) ?_
          show Steps p.tables e below (T87.setTop (mkF m 364 #[.val (.int p0), .val (.int p1), .val (.int p2), .val (.int p3), .val (.int p4), .val (.int v4), .val (.int v8), .val (.int (F1 p0 v4)), .val (.int (F1 p1 v4)), .val (.int (F1 p2 v4)), .val (.int v20), .val (.ref b22), .val (.ref mb_38), .val (.int v68)] [])) _
          refine XS.iconst Y87.here hx rfl (hb hby at_364) ?_
          exact retN Y87 hx (t := .boolean) Bd.returns (by simp) (hb hby at_365) hr
        · show Q0 Z p0 p1 p2 p3 p4 h0 n0 _ T87.heap _
          refine ⟨congrArg (fun z => some (Value.int z)) (?_ : (nar .boolean (1 : Int32)) = 1), N87⟩
          decide
    · have pre130 : Lead p e below G (T78.setTop (mkF m 286 #[.val (.int p0), .val (.int p1), .val (.int p2), .val (.int p3), .val (.int p4), .val (.int v4), .val (.int v8), .val (.int (F1 p0 v4)), .val (.int (F1 p1 v4)), .val (.int (F1 p2 v4)), .val (.int v20), .val (.ref b22), .val (.ref mb_38), .val (.int v68)] [(.ref mb_38)])) := fun t k => by
        refine pre82 t ?_
        show Steps p.tables e below (T78.setTop (mkF m 259 #[.val (.int p0), .val (.int p1), .val (.int p2), .val (.int p3), .val (.int p4), .val (.int v4), .val (.int v8), .val (.int (F1 p0 v4)), .val (.int (F1 p1 v4)), .val (.int (F1 p2 v4)), .val (.int v20), .val (.ref b22), .val (.ref mb_38), .val (.int v68)] [(.int (1 : Int32)), (.int n9_32)])) _
        refine XS.icmpYes Y78.here hx rfl (pc0 := 259) (pc' := 284) rfl (hb hby at_259) rfl (flt hs259_83).2.2.2 (by decide) (by decide) ?_
        refine XS.aload Y78.here hx rfl (hb hby at_284) rfl rfl ?_
        show Steps p.tables e below (T78.setTop (mkF m 286 #[.val (.int p0), .val (.int p1), .val (.int p2), .val (.int p3), .val (.int p4), .val (.int v4), .val (.int v8), .val (.int (F1 p0 v4)), .val (.int (F1 p1 v4)), .val (.int (F1 p2 v4)), .val (.int v20), .val (.ref b22), .val (.ref mb_38), .val (.int v68)] [(.ref mb_38)])) _
        exact k
      obtain ⟨cl131, Ar131, len131⟩ := f56_0.len
      have st131 := Y78.arraylength hx (by rw [e78]; exact Ar131.1) (State.isArrayOf_alike hZ.alike Ar131.2.1) (g := (mkF m 286 #[.val (.int p0), .val (.int p1), .val (.int p2), .val (.int p3), .val (.int p4), .val (.int v4), .val (.int v8), .val (.int (F1 p0 v4)), .val (.int (F1 p1 v4)), .val (.int (F1 p2 v4)), .val (.int v20), .val (.ref b22), .val (.ref mb_38), .val (.int v68)] [(.ref mb_38)])) rfl rfl (hb hby at_286)
      rw [len131] at st131
      have pre131 : Lead p e below G (T78.setTop (mkF m 287 #[.val (.int p0), .val (.int p1), .val (.int p2), .val (.int p3), .val (.int p4), .val (.int v4), .val (.int v8), .val (.int (F1 p0 v4)), .val (.int (F1 p1 v4)), .val (.int (F1 p2 v4)), .val (.int v20), .val (.ref b22), .val (.ref mb_38), .val (.int v68)] [(.int n9_32)])) := fun t k => pre130 t (st131 _ k)
      have hf132 : ¬ ((2 : Int32) < n9_32) := (own_nlt hs259_83 (by decide))
      have pre133 : Lead p e below G (T78.setTop (mkF m 315 #[.val (.int p0), .val (.int p1), .val (.int p2), .val (.int p3), .val (.int p4), .val (.int v4), .val (.int v8), .val (.int (F1 p0 v4)), .val (.int (F1 p1 v4)), .val (.int (F1 p2 v4)), .val (.int v20), .val (.ref b22), .val (.ref mb_38), .val (.int v68)] [(.ref mb_38)])) := fun t k => by
        refine pre131 t ?_
        show Steps p.tables e below (T78.setTop (mkF m 287 #[.val (.int p0), .val (.int p1), .val (.int p2), .val (.int p3), .val (.int p4), .val (.int v4), .val (.int v8), .val (.int (F1 p0 v4)), .val (.int (F1 p1 v4)), .val (.int (F1 p2 v4)), .val (.int v20), .val (.ref b22), .val (.ref mb_38), .val (.int v68)] [(.int n9_32)])) _
        refine XS.iconst Y78.here hx rfl (hb hby at_287) ?_
        refine XS.icmpYes Y78.here hx rfl (pc0 := 288) (pc' := 313) rfl (hb hby at_288) rfl (flt hf132).2.2.2 (by decide) (by decide) ?_
        refine XS.aload Y78.here hx rfl (hb hby at_313) rfl rfl ?_
        show Steps p.tables e below (T78.setTop (mkF m 315 #[.val (.int p0), .val (.int p1), .val (.int p2), .val (.int p3), .val (.int p4), .val (.int v4), .val (.int v8), .val (.int (F1 p0 v4)), .val (.int (F1 p1 v4)), .val (.int (F1 p2 v4)), .val (.int v20), .val (.ref b22), .val (.ref mb_38), .val (.int v68)] [(.ref mb_38)])) _
        exact k
      obtain ⟨cl134, Ar134, len134⟩ := f56_0.len
      have st134 := Y78.arraylength hx (by rw [e78]; exact Ar134.1) (State.isArrayOf_alike hZ.alike Ar134.2.1) (g := (mkF m 315 #[.val (.int p0), .val (.int p1), .val (.int p2), .val (.int p3), .val (.int p4), .val (.int v4), .val (.int v8), .val (.int (F1 p0 v4)), .val (.int (F1 p1 v4)), .val (.int (F1 p2 v4)), .val (.int v20), .val (.ref b22), .val (.ref mb_38), .val (.int v68)] [(.ref mb_38)])) rfl rfl (hb hby at_315)
      rw [len134] at st134
      have pre134 : Lead p e below G (T78.setTop (mkF m 316 #[.val (.int p0), .val (.int p1), .val (.int p2), .val (.int p3), .val (.int p4), .val (.int v4), .val (.int v8), .val (.int (F1 p0 v4)), .val (.int (F1 p1 v4)), .val (.int (F1 p2 v4)), .val (.int v20), .val (.ref b22), .val (.ref mb_38), .val (.int v68)] [(.int n9_32)])) := fun t k => pre133 t (st134 _ k)
      have hf135 : ¬ ((1 : Int32) < n9_32) := hs259_83
      have pre136 : Lead p e below G (T78.setTop (mkF m 335 #[.val (.int p0), .val (.int p1), .val (.int p2), .val (.int p3), .val (.int p4), .val (.int v4), .val (.int v8), .val (.int (F1 p0 v4)), .val (.int (F1 p1 v4)), .val (.int (F1 p2 v4)), .val (.int v20), .val (.ref b22), .val (.ref mb_38), .val (.int v68)] [(.ref mb_38)])) := fun t k => by
        refine pre134 t ?_
        show Steps p.tables e below (T78.setTop (mkF m 316 #[.val (.int p0), .val (.int p1), .val (.int p2), .val (.int p3), .val (.int p4), .val (.int v4), .val (.int v8), .val (.int (F1 p0 v4)), .val (.int (F1 p1 v4)), .val (.int (F1 p2 v4)), .val (.int v20), .val (.ref b22), .val (.ref mb_38), .val (.int v68)] [(.int n9_32)])) _
        refine XS.iconst Y78.here hx rfl (hb hby at_316) ?_
        refine XS.icmpYes Y78.here hx rfl (pc0 := 317) (pc' := 333) rfl (hb hby at_317) rfl (flt hf135).2.2.2 (by decide) (by decide) ?_
        refine XS.aload Y78.here hx rfl (hb hby at_333) rfl rfl ?_
        show Steps p.tables e below (T78.setTop (mkF m 335 #[.val (.int p0), .val (.int p1), .val (.int p2), .val (.int p3), .val (.int p4), .val (.int v4), .val (.int v8), .val (.int (F1 p0 v4)), .val (.int (F1 p1 v4)), .val (.int (F1 p2 v4)), .val (.int v20), .val (.ref b22), .val (.ref mb_38), .val (.int v68)] [(.ref mb_38)])) _
        exact k
      obtain ⟨cl137, Ar137, len137⟩ := f56_0.len
      have st137 := Y78.arraylength hx (by rw [e78]; exact Ar137.1) (State.isArrayOf_alike hZ.alike Ar137.2.1) (g := (mkF m 335 #[.val (.int p0), .val (.int p1), .val (.int p2), .val (.int p3), .val (.int p4), .val (.int v4), .val (.int v8), .val (.int (F1 p0 v4)), .val (.int (F1 p1 v4)), .val (.int (F1 p2 v4)), .val (.int v20), .val (.ref b22), .val (.ref mb_38), .val (.int v68)] [(.ref mb_38)])) rfl rfl (hb hby at_335)
      rw [len137] at st137
      have pre137 : Lead p e below G (T78.setTop (mkF m 336 #[.val (.int p0), .val (.int p1), .val (.int p2), .val (.int p3), .val (.int p4), .val (.int v4), .val (.int v8), .val (.int (F1 p0 v4)), .val (.int (F1 p1 v4)), .val (.int (F1 p2 v4)), .val (.int v20), .val (.ref b22), .val (.ref mb_38), .val (.int v68)] [(.int n9_32)])) := fun t k => pre136 t (st137 _ k)
      have hf138 : ¬ ((2 : Int32) < n9_32) := (own_nlt hs259_83 (by decide))
      obtain ⟨fs, hr, hrun, hended, hW, hsame⟩ := Y78.leave (v := some (.int (nar .boolean (1 : Int32)))) (fun h => by rw [Bd.returns] at h; cases h)
      have preF : Lead p e below (s₁.setTop (entryFrame m #[(.int p0), (.int p1), (.int p2), (.int p3), (.int p4)] maxLocals)) (T78.setTop (mkF m 336 #[.val (.int p0), .val (.int p1), .val (.int p2), .val (.int p3), .val (.int p4), .val (.int v4), .val (.int v8), .val (.int (F1 p0 v4)), .val (.int (F1 p1 v4)), .val (.int (F1 p2 v4)), .val (.int v20), .val (.ref b22), .val (.ref mb_38), .val (.int v68)] [(.int n9_32)])) := by rw [← hG]; exact pre137
      refine ⟨_, _, preF _ ?_, hrun, hended, _, _, rfl, ?_, ⟨_, rfl⟩, hW, hsame.mono (by decide) (by decide)⟩
      · show Steps p.tables e below (T78.setTop (mkF m 336 #[.val (.int p0), .val (.int p1), .val (.int p2), .val (.int p3), .val (.int p4), .val (.int v4), .val (.int v8), .val (.int (F1 p0 v4)), .val (.int (F1 p1 v4)), .val (.int (F1 p2 v4)), .val (.int v20), .val (.ref b22), .val (.ref mb_38), .val (.int v68)] [(.int n9_32)])) _
        refine XS.iconst Y78.here hx rfl (hb hby at_336) ?_
        refine XS.icmpYes Y78.here hx rfl (pc0 := 337) (pc' := 364) rfl (hb hby at_337) rfl (flt hf138).2.2.2 (by decide) (by decide) ?_
        refine XS.iconst Y78.here hx rfl (hb hby at_364) ?_
        show Steps p.tables e below (T78.setTop (mkF m 365 #[.val (.int p0), .val (.int p1), .val (.int p2), .val (.int p3), .val (.int p4), .val (.int v4), .val (.int v8), .val (.int (F1 p0 v4)), .val (.int (F1 p1 v4)), .val (.int (F1 p2 v4)), .val (.int v20), .val (.ref b22), .val (.ref mb_38), .val (.int v68)] [(.int (1 : Int32))])) _
        exact retN Y78 hx (t := .boolean) Bd.returns (by simp) (hb hby at_365) hr
      · show Q0 Z p0 p1 p2 p3 p4 h0 n0 _ T78.heap _
        refine ⟨congrArg (fun z => some (Value.int z)) (?_ : (nar .boolean (1 : Int32)) = 1), N78⟩
        decide
  · have pre139 : Lead p e below G (T56.setTop (mkF m 257 #[.val (.int p0), .val (.int p1), .val (.int p2), .val (.int p3), .val (.int p4), .val (.int v4), .val (.int v8), .val (.int (F1 p0 v4)), .val (.int (F1 p1 v4)), .val (.int (F1 p2 v4)), .val (.int v20), .val (.ref b22), .val (.ref mb_38), .val (.int v68)] [(.ref mb_38)])) := fun t k => by
      refine pre73 t ?_
      show Steps p.tables e below (T56.setTop (mkF m 230 #[.val (.int p0), .val (.int p1), .val (.int p2), .val (.int p3), .val (.int p4), .val (.int v4), .val (.int v8), .val (.int (F1 p0 v4)), .val (.int (F1 p1 v4)), .val (.int (F1 p2 v4)), .val (.int v20), .val (.ref b22), .val (.ref mb_38), .val (.int v68)] [(.int n9_32)])) _
      refine XS.ifYes Y56.here hx rfl (pc0 := 230) (pc' := 255) rfl (hb hby at_230) rfl ((if0 _ _).trans (flt hs230_74).2.2.2) (by decide) (by decide) ?_
      refine XS.aload Y56.here hx rfl (hb hby at_255) rfl rfl ?_
      exact k
    obtain ⟨cl140, Ar140, len140⟩ := f56_0.len
    have st140 := Y56.arraylength hx (by rw [e56]; exact Ar140.1) (State.isArrayOf_alike hZ.alike Ar140.2.1) (g := (mkF m 257 #[.val (.int p0), .val (.int p1), .val (.int p2), .val (.int p3), .val (.int p4), .val (.int v4), .val (.int v8), .val (.int (F1 p0 v4)), .val (.int (F1 p1 v4)), .val (.int (F1 p2 v4)), .val (.int v20), .val (.ref b22), .val (.ref mb_38), .val (.int v68)] [(.ref mb_38)])) rfl rfl (hb hby at_257)
    rw [len140] at st140
    have pre140 : Lead p e below G (T56.setTop (mkF m 258 #[.val (.int p0), .val (.int p1), .val (.int p2), .val (.int p3), .val (.int p4), .val (.int v4), .val (.int v8), .val (.int (F1 p0 v4)), .val (.int (F1 p1 v4)), .val (.int (F1 p2 v4)), .val (.int v20), .val (.ref b22), .val (.ref mb_38), .val (.int v68)] [(.int n9_32)])) := fun t k => pre139 t (st140 _ k)
    have hf141 : ¬ ((1 : Int32) < n9_32) := (own_nlt hs230_74 (by decide))
    have pre142 : Lead p e below G (T56.setTop (mkF m 286 #[.val (.int p0), .val (.int p1), .val (.int p2), .val (.int p3), .val (.int p4), .val (.int v4), .val (.int v8), .val (.int (F1 p0 v4)), .val (.int (F1 p1 v4)), .val (.int (F1 p2 v4)), .val (.int v20), .val (.ref b22), .val (.ref mb_38), .val (.int v68)] [(.ref mb_38)])) := fun t k => by
      refine pre140 t ?_
      show Steps p.tables e below (T56.setTop (mkF m 258 #[.val (.int p0), .val (.int p1), .val (.int p2), .val (.int p3), .val (.int p4), .val (.int v4), .val (.int v8), .val (.int (F1 p0 v4)), .val (.int (F1 p1 v4)), .val (.int (F1 p2 v4)), .val (.int v20), .val (.ref b22), .val (.ref mb_38), .val (.int v68)] [(.int n9_32)])) _
      refine XS.iconst Y56.here hx rfl (hb hby at_258) ?_
      show Steps p.tables e below (T56.setTop (mkF m 259 #[.val (.int p0), .val (.int p1), .val (.int p2), .val (.int p3), .val (.int p4), .val (.int v4), .val (.int v8), .val (.int (F1 p0 v4)), .val (.int (F1 p1 v4)), .val (.int (F1 p2 v4)), .val (.int v20), .val (.ref b22), .val (.ref mb_38), .val (.int v68)] [(.int (1 : Int32)), (.int n9_32)])) _
      refine XS.icmpYes Y56.here hx rfl (pc0 := 259) (pc' := 284) rfl (hb hby at_259) rfl (flt hf141).2.2.2 (by decide) (by decide) ?_
      refine XS.aload Y56.here hx rfl (hb hby at_284) rfl rfl ?_
      exact k
    obtain ⟨cl143, Ar143, len143⟩ := f56_0.len
    have st143 := Y56.arraylength hx (by rw [e56]; exact Ar143.1) (State.isArrayOf_alike hZ.alike Ar143.2.1) (g := (mkF m 286 #[.val (.int p0), .val (.int p1), .val (.int p2), .val (.int p3), .val (.int p4), .val (.int v4), .val (.int v8), .val (.int (F1 p0 v4)), .val (.int (F1 p1 v4)), .val (.int (F1 p2 v4)), .val (.int v20), .val (.ref b22), .val (.ref mb_38), .val (.int v68)] [(.ref mb_38)])) rfl rfl (hb hby at_286)
    rw [len143] at st143
    have pre143 : Lead p e below G (T56.setTop (mkF m 287 #[.val (.int p0), .val (.int p1), .val (.int p2), .val (.int p3), .val (.int p4), .val (.int v4), .val (.int v8), .val (.int (F1 p0 v4)), .val (.int (F1 p1 v4)), .val (.int (F1 p2 v4)), .val (.int v20), .val (.ref b22), .val (.ref mb_38), .val (.int v68)] [(.int n9_32)])) := fun t k => pre142 t (st143 _ k)
    have hf144 : ¬ ((2 : Int32) < n9_32) := (own_nlt hs230_74 (by decide))
    have pre145 : Lead p e below G (T56.setTop (mkF m 315 #[.val (.int p0), .val (.int p1), .val (.int p2), .val (.int p3), .val (.int p4), .val (.int v4), .val (.int v8), .val (.int (F1 p0 v4)), .val (.int (F1 p1 v4)), .val (.int (F1 p2 v4)), .val (.int v20), .val (.ref b22), .val (.ref mb_38), .val (.int v68)] [(.ref mb_38)])) := fun t k => by
      refine pre143 t ?_
      show Steps p.tables e below (T56.setTop (mkF m 287 #[.val (.int p0), .val (.int p1), .val (.int p2), .val (.int p3), .val (.int p4), .val (.int v4), .val (.int v8), .val (.int (F1 p0 v4)), .val (.int (F1 p1 v4)), .val (.int (F1 p2 v4)), .val (.int v20), .val (.ref b22), .val (.ref mb_38), .val (.int v68)] [(.int n9_32)])) _
      refine XS.iconst Y56.here hx rfl (hb hby at_287) ?_
      show Steps p.tables e below (T56.setTop (mkF m 288 #[.val (.int p0), .val (.int p1), .val (.int p2), .val (.int p3), .val (.int p4), .val (.int v4), .val (.int v8), .val (.int (F1 p0 v4)), .val (.int (F1 p1 v4)), .val (.int (F1 p2 v4)), .val (.int v20), .val (.ref b22), .val (.ref mb_38), .val (.int v68)] [(.int (2 : Int32)), (.int n9_32)])) _
      refine XS.icmpYes Y56.here hx rfl (pc0 := 288) (pc' := 313) rfl (hb hby at_288) rfl (flt hf144).2.2.2 (by decide) (by decide) ?_
      refine XS.aload Y56.here hx rfl (hb hby at_313) rfl rfl ?_
      exact k
    obtain ⟨cl146, Ar146, len146⟩ := f56_0.len
    have st146 := Y56.arraylength hx (by rw [e56]; exact Ar146.1) (State.isArrayOf_alike hZ.alike Ar146.2.1) (g := (mkF m 315 #[.val (.int p0), .val (.int p1), .val (.int p2), .val (.int p3), .val (.int p4), .val (.int v4), .val (.int v8), .val (.int (F1 p0 v4)), .val (.int (F1 p1 v4)), .val (.int (F1 p2 v4)), .val (.int v20), .val (.ref b22), .val (.ref mb_38), .val (.int v68)] [(.ref mb_38)])) rfl rfl (hb hby at_315)
    rw [len146] at st146
    have pre146 : Lead p e below G (T56.setTop (mkF m 316 #[.val (.int p0), .val (.int p1), .val (.int p2), .val (.int p3), .val (.int p4), .val (.int v4), .val (.int v8), .val (.int (F1 p0 v4)), .val (.int (F1 p1 v4)), .val (.int (F1 p2 v4)), .val (.int v20), .val (.ref b22), .val (.ref mb_38), .val (.int v68)] [(.int n9_32)])) := fun t k => pre145 t (st146 _ k)
    have hf147 : ¬ ((1 : Int32) < n9_32) := (own_nlt hs230_74 (by decide))
    have pre148 : Lead p e below G (T56.setTop (mkF m 335 #[.val (.int p0), .val (.int p1), .val (.int p2), .val (.int p3), .val (.int p4), .val (.int v4), .val (.int v8), .val (.int (F1 p0 v4)), .val (.int (F1 p1 v4)), .val (.int (F1 p2 v4)), .val (.int v20), .val (.ref b22), .val (.ref mb_38), .val (.int v68)] [(.ref mb_38)])) := fun t k => by
      refine pre146 t ?_
      show Steps p.tables e below (T56.setTop (mkF m 316 #[.val (.int p0), .val (.int p1), .val (.int p2), .val (.int p3), .val (.int p4), .val (.int v4), .val (.int v8), .val (.int (F1 p0 v4)), .val (.int (F1 p1 v4)), .val (.int (F1 p2 v4)), .val (.int v20), .val (.ref b22), .val (.ref mb_38), .val (.int v68)] [(.int n9_32)])) _
      refine XS.iconst Y56.here hx rfl (hb hby at_316) ?_
      show Steps p.tables e below (T56.setTop (mkF m 317 #[.val (.int p0), .val (.int p1), .val (.int p2), .val (.int p3), .val (.int p4), .val (.int v4), .val (.int v8), .val (.int (F1 p0 v4)), .val (.int (F1 p1 v4)), .val (.int (F1 p2 v4)), .val (.int v20), .val (.ref b22), .val (.ref mb_38), .val (.int v68)] [(.int (1 : Int32)), (.int n9_32)])) _
      refine XS.icmpYes Y56.here hx rfl (pc0 := 317) (pc' := 333) rfl (hb hby at_317) rfl (flt hf147).2.2.2 (by decide) (by decide) ?_
      refine XS.aload Y56.here hx rfl (hb hby at_333) rfl rfl ?_
      exact k
    obtain ⟨cl149, Ar149, len149⟩ := f56_0.len
    have st149 := Y56.arraylength hx (by rw [e56]; exact Ar149.1) (State.isArrayOf_alike hZ.alike Ar149.2.1) (g := (mkF m 335 #[.val (.int p0), .val (.int p1), .val (.int p2), .val (.int p3), .val (.int p4), .val (.int v4), .val (.int v8), .val (.int (F1 p0 v4)), .val (.int (F1 p1 v4)), .val (.int (F1 p2 v4)), .val (.int v20), .val (.ref b22), .val (.ref mb_38), .val (.int v68)] [(.ref mb_38)])) rfl rfl (hb hby at_335)
    rw [len149] at st149
    have pre149 : Lead p e below G (T56.setTop (mkF m 336 #[.val (.int p0), .val (.int p1), .val (.int p2), .val (.int p3), .val (.int p4), .val (.int v4), .val (.int v8), .val (.int (F1 p0 v4)), .val (.int (F1 p1 v4)), .val (.int (F1 p2 v4)), .val (.int v20), .val (.ref b22), .val (.ref mb_38), .val (.int v68)] [(.int n9_32)])) := fun t k => pre148 t (st149 _ k)
    have hf150 : ¬ ((2 : Int32) < n9_32) := (own_nlt hs230_74 (by decide))
    obtain ⟨fs, hr, hrun, hended, hW, hsame⟩ := Y56.leave (v := some (.int (nar .boolean (1 : Int32)))) (fun h => by rw [Bd.returns] at h; cases h)
    have preF : Lead p e below (s₁.setTop (entryFrame m #[(.int p0), (.int p1), (.int p2), (.int p3), (.int p4)] maxLocals)) (T56.setTop (mkF m 336 #[.val (.int p0), .val (.int p1), .val (.int p2), .val (.int p3), .val (.int p4), .val (.int v4), .val (.int v8), .val (.int (F1 p0 v4)), .val (.int (F1 p1 v4)), .val (.int (F1 p2 v4)), .val (.int v20), .val (.ref b22), .val (.ref mb_38), .val (.int v68)] [(.int n9_32)])) := by rw [← hG]; exact pre149
    refine ⟨_, _, preF _ ?_, hrun, hended, _, _, rfl, ?_, ⟨_, rfl⟩, hW, hsame.mono (by decide) (by decide)⟩
    · show Steps p.tables e below (T56.setTop (mkF m 336 #[.val (.int p0), .val (.int p1), .val (.int p2), .val (.int p3), .val (.int p4), .val (.int v4), .val (.int v8), .val (.int (F1 p0 v4)), .val (.int (F1 p1 v4)), .val (.int (F1 p2 v4)), .val (.int v20), .val (.ref b22), .val (.ref mb_38), .val (.int v68)] [(.int n9_32)])) _
      refine XS.iconst Y56.here hx rfl (hb hby at_336) ?_
      show Steps p.tables e below (T56.setTop (mkF m 337 #[.val (.int p0), .val (.int p1), .val (.int p2), .val (.int p3), .val (.int p4), .val (.int v4), .val (.int v8), .val (.int (F1 p0 v4)), .val (.int (F1 p1 v4)), .val (.int (F1 p2 v4)), .val (.int v20), .val (.ref b22), .val (.ref mb_38), .val (.int v68)] [(.int (2 : Int32)), (.int n9_32)])) _
      refine XS.icmpYes Y56.here hx rfl (pc0 := 337) (pc' := 364) rfl (hb hby at_337) rfl (flt hf150).2.2.2 (by decide) (by decide) ?_
      refine XS.iconst Y56.here hx rfl (hb hby at_364) ?_
      exact retN Y56 hx (t := .boolean) Bd.returns (by simp) (hb hby at_365) hr
    · show Q0 Z p0 p1 p2 p3 p4 h0 n0 _ T56.heap _
      refine ⟨congrArg (fun z => some (Value.int z)) (?_ : (nar .boolean (1 : Int32)) = 1), N56⟩
      decide
set_option maxRecDepth 65536 in
set_option maxHeartbeats 40000000 in
theorem comes_1 {Post : Tables → Env → Array Value → State → Outcome → State → Prop} (hpost : ∀ tb e args s v u, (limb_1_1.after args s (.returned v) u = true ∧ limb_1_2.after args s (.returned v) u = true ∧ True) → FrameEnd s (.returned v) u (Jvm.fieldLocs frame_1_writes args s ++ Jvm.arrayLocs frame_1_arrays args s ++ Jvm.staticLocs frame_1_statics s) 16 128 → Post tb e args s (.returned v) u) :
    ArmFor flags0 classFile x code maxLocals ret World_1 tables_1 room_1 Calls_1 rest_1 Pre_1 Post := by
  intro l hfl _ _ p e ha hc hk s m args below hf hA hF happ hP
  obtain ⟨hcalls, hrest, hpre⟩ := hP
  obtain ⟨-, -, -, hnamed, -, -, -, hat⟩ := (Spec.applies_iff hf).mp happ
  obtain ⟨hg, hn⟩ := and_e (Cond.before_iff.mp (show (Jvm.Cond.and given_1 narrow_1).before args s = true from hpre))
  obtain ⟨g1, g2⟩ := and_e hg
  obtain ⟨g3, g4⟩ := and_e g2
  obtain ⟨g5, g6⟩ := and_e g4
  obtain ⟨g7, g8⟩ := and_e g6
  obtain ⟨g9, g10⟩ := and_e g8
  obtain ⟨w0, w1, w2, w3, w4, rfl⟩ : ∃ w0 w1 w2 w3 w4 : Value, args = #[w0, w1, w2, w3, w4] := by
    have hs : args.size = 5 := by simpa [Cond.value, given_1] using g1
    obtain ⟨L⟩ := args
    match L, hs with
    | [w0, w1, w2, w3, w4], _ => exact ⟨w0, w1, w2, w3, w4, rfl⟩
  have hw := fun d (hd : d ∈ tables_1) => atoms_spec (ws := Jvm.Cond.code x code maxLocals ret :: tables_1) hat d (List.mem_cons_of_mem _ hd)
  obtain ⟨i0, ei0⟩ := is_v g3
  obtain rfl : w0 = (.int i0) := Option.some.inj ei0
  obtain ⟨i1, ei1⟩ := is_v g5
  obtain rfl : w1 = (.int i1) := Option.some.inj ei1
  obtain ⟨i2, ei2⟩ := is_v g7
  obtain rfl : w2 = (.int i2) := Option.some.inj ei2
  obtain ⟨i3, ei3⟩ := is_v g9
  obtain rfl : w3 = (.int i3) := Option.some.inj ei3
  obtain ⟨i4, ei4⟩ := is_v g10
  obtain rfl : w4 = (.int i4) := Option.some.inj ei4
  obtain ⟨n, o, h1, h2, h3, _, L, rfl, ⟨rfl, N⟩, hq⟩ := rm0 l s _ hw tables_1 i0 i1 i2 i3 i4 s.heap s.heap.size (Nat.le_refl _) p e ha hc hk s m _ below hf ((Spec.applies_iff_loose hf).mp happ).1 ⟨rfl, State.Warmed39.refl s, rfl⟩ trivial
  refine ⟨n, _, h1, h2, h3, hpost _ _ _ _ _ _ ⟨Cond.after_iff.mpr rfl, Cond.after_iff.mpr (eq_i res_at (Term.int_eval (1)) rfl), trivial⟩ ⟨hq.1, hq.2.1, (hq.2.2.sift fun y hy => Or.inr (N y hy)).mono (by decide) (by decide)⟩⟩
theorem main_1_1 : Claimed_1_1 := comes_1 fun _ _ _ _ _ _ h hF => ⟨h.1, hF⟩
theorem main_1_2 : Claimed_1_2 := comes_1 fun _ _ _ _ _ _ h hF => ⟨h.2.1, hF⟩
end Jvm.Pilot.@@N@@
namespace Jvm.Pilot.@@N@@
open Jvm Jvm.ClassFile Sem Op Lib Jvm.Free Jvm.Stand Jvm.Pilot.@@N@@.Jvm.D
/-! MADE BY PROGRAM (witnessworld.py) out of the Statement's table words and the real class files: 10 classes; the members and pool entries that the words name. The judged class is class 1, her method 1. -/
namespace start1
open Jvm.ClassFile
def u (s : String) : CpInfo := .utf8 (stringToUtf16 s)
/-- a pool by its gaps: so many unusable entries, then the entry; so many at the end -/
def gap : Nat → List CpInfo → List CpInfo
  | 0, r => r
  | n + 1, r => .unusable :: gap n r
def poolList (es : List (Nat × CpInfo)) (last : Nat) : List CpInfo := es.foldr (fun e r => gap e.1 (e.2 :: r)) (gap last [])
def pool (es : List (Nat × CpInfo)) (last : Nat) : Array CpInfo := ⟨poolList es last⟩
def fileOf (pool : Array CpInfo) (this : Nat) (attrs : Array Attribute := #[]) (ms : Array MethodInfo := #[]) (fl : Nat := 33) (sup : Nat := 0) (ifs : Array Nat := #[]) (fds : Array FieldInfo := #[]) : ClassFile where
  minorVersion := 0
  majorVersion := 65
  constantPool := pool
  accessFlags := fl
  thisClass := this
  superClass := sup
  interfaces := ifs
  fields := fds
  methods := ms
  attributes := attrs
def plain (name : String) (sup : Option ClassId) : Class where
  name := name
  kind := .ordinary
  loader := none
  accessFlags := 33
  super := sup
  interfaces := #[]
  cf := none
  fields := #[]
  methods := #[]
  instanceTypes := #[]
  staticTypes := #[]
  resolved := #[]
  callSites := []
  init := .initialized
  statics := none
  mirror := none

def pool0 : Array CpInfo := pool [(5, u "<init>"), (0, u "()V"), (1, .class_ 10), (1, u "java/lang/Object")] 113

def k0c0 : Code := { maxStack := 0, maxLocals := 1, code := object_method_1_code, exceptionTable := #[], attributes := #[] }
def k0m0 : Method := { name := "<init>", desc := "()V", sig := { parameters := [], returnType := none }, accessFlags := 1, code := some k0c0 }
/-- java/lang/Object -/
def k0 : Class := { plain "java/lang/Object" none with
  accessFlags := 33
  interfaces := #[]
  cf := some (fileOf pool0 8 #[] #[{ accessFlags := 1, nameIndex := 5, descriptorIndex := 6, attributes := #[] }] 33 0 #[] #[])
  fields := #[]
  methods := #[k0m0]
  instanceTypes := #[]
  staticTypes := #[]
  resolved := Array.replicate 124 none
  statics := none }

def pool1 : Array CpInfo := pool [(2, .class_ 4), (0, .nameAndType 5 6), (0, u "java/lang/Object"), (0, u "<init>"), (0, u "()V"), (0, .methodref 8 9), (0, .class_ 10), (0, .nameAndType 11 12), (0, u "com/example/processionary/processionary/automata/IntSetMembersPinLaw"), (0, u "pick"), (0, u "(IZ)I"), (0, .class_ 14), (0, u "com/example/processionary/processionary/automata/IntSet"), (0, .methodref 13 3), (0, .methodref 13 17), (0, .nameAndType 18 19), (0, u "add"), (0, u "(I)Z"), (0, .methodref 13 21), (0, .nameAndType 22 19), (0, u "remove"), (0, .methodref 13 24), (0, .nameAndType 25 26), (0, u "members"), (0, u "()[I"), (0, .methodref 8 28), (0, .nameAndType 29 30), (0, u "in"), (0, u "(IIIIZI)Z"), (0, .integer 2147483647), (2, u "law"), (0, u "(IIIII)Z")] 5

def k1m0 : Method := { name := "<init>", desc := "()V", sig := { parameters := [], returnType := none }, accessFlags := 1, code := none }
def k1c1 : Code := { maxStack := 6, maxLocals := 14, code := code, exceptionTable := #[], attributes := #[] }
def k1m1 : Method := { name := "law", desc := "(IIIII)Z", sig := { parameters := [.int, .int, .int, .int, .int], returnType := some .boolean }, accessFlags := 9, code := some k1c1 }
def k1c2 : Code := { maxStack := 2, maxLocals := 2, code := method_3_code, exceptionTable := #[], attributes := #[] }
def k1m2 : Method := { name := "pick", desc := "(IZ)I", sig := { parameters := [.int, .boolean], returnType := some .int }, accessFlags := 10, code := some k1c2 }
def k1c3 : Code := { maxStack := 2, maxLocals := 6, code := method_4_code, exceptionTable := #[], attributes := #[] }
def k1m3 : Method := { name := "in", desc := "(IIIIZI)Z", sig := { parameters := [.int, .int, .int, .int, .boolean, .int], returnType := some .boolean }, accessFlags := 10, code := some k1c3 }
/-- com/example/processionary/processionary/automata/IntSetMembersPinLaw -/
def k1 : Class := { plain "com/example/processionary/processionary/automata/IntSetMembersPinLaw" (some 0) with
  accessFlags := 49
  interfaces := #[]
  cf := some (fileOf pool1 8 #[] #[{ accessFlags := 1, nameIndex := 5, descriptorIndex := 6, attributes := #[] }, { accessFlags := 9, nameIndex := 34, descriptorIndex := 35, attributes := #[] }, { accessFlags := 10, nameIndex := 11, descriptorIndex := 12, attributes := #[] }, { accessFlags := 10, nameIndex := 29, descriptorIndex := 30, attributes := #[] }] 49 2 #[] #[])
  fields := #[]
  methods := #[k1m0, k1m1, k1m2, k1m3]
  instanceTypes := #[]
  staticTypes := #[]
  resolved := Array.replicate 41 none
  statics := none }

def pool2 : Array CpInfo := pool [(1, .methodref 2 3), (0, .class_ 4), (0, .nameAndType 5 6), (0, u "java/lang/Object"), (0, u "<init>"), (0, u "()V"), (0, .fieldref 8 9), (0, .class_ 10), (0, .nameAndType 11 12), (0, u "com/example/processionary/processionary/automata/IntSet"), (0, u "slots"), (0, u "[I"), (0, .methodref 14 15), (0, .class_ 16), (0, .nameAndType 17 18), (0, u "java/util/Arrays"), (0, u "fill"), (0, u "([II)V"), (0, .fieldref 8 20), (0, .nameAndType 21 22), (0, u "size"), (0, u "I"), (0, .methodref 8 24), (0, .nameAndType 25 26), (0, u "slot"), (0, u "(II)I"), (0, .methodref 8 28), (0, .nameAndType 29 30), (0, u "resize"), (0, u "(I)V"), (0, .methodref 8 32), (0, .nameAndType 33 34), (0, u "fillsGap"), (0, u "(III)Z"), (6, u "(I)Z"), (0, .integer 2654435769), (0, u "EMPTY"), (6, u "add"), (0, u "remove"), (3, u "members"), (0, u "()[I")] 2

def k2c0 : Code := { maxStack := 2, maxLocals := 1, code := prog_12_method_1_code, exceptionTable := #[], attributes := #[] }
def k2m0 : Method := { name := "<init>", desc := "()V", sig := { parameters := [], returnType := none }, accessFlags := 0, code := some k2c0 }
def k2c1 : Code := { maxStack := 3, maxLocals := 4, code := prog_12_method_4_code, exceptionTable := #[], attributes := #[] }
def k2m1 : Method := { name := "add", desc := "(I)Z", sig := { parameters := [.int], returnType := some .boolean }, accessFlags := 0, code := some k2c1 }
def k2c2 : Code := { maxStack := 4, maxLocals := 5, code := prog_12_method_5_code, exceptionTable := #[], attributes := #[] }
def k2m2 : Method := { name := "remove", desc := "(I)Z", sig := { parameters := [.int], returnType := some .boolean }, accessFlags := 0, code := some k2c2 }
def k2c3 : Code := { maxStack := 3, maxLocals := 7, code := prog_12_method_8_code, exceptionTable := #[], attributes := #[] }
def k2m3 : Method := { name := "members", desc := "()[I", sig := { parameters := [], returnType := some (.array .int) }, accessFlags := 0, code := some k2c3 }
def k2c4 : Code := { maxStack := 3, maxLocals := 9, code := prog_12_method_9_code, exceptionTable := #[], attributes := #[] }
def k2m4 : Method := { name := "resize", desc := "(I)V", sig := { parameters := [.int], returnType := none }, accessFlags := 2, code := some k2c4 }
def k2c5 : Code := { maxStack := 2, maxLocals := 3, code := prog_12_method_10_code, exceptionTable := #[], attributes := #[] }
def k2m5 : Method := { name := "fillsGap", desc := "(III)Z", sig := { parameters := [.int, .int, .int], returnType := some .boolean }, accessFlags := 8, code := some k2c5 }
def k2c6 : Code := { maxStack := 3, maxLocals := 3, code := prog_12_method_11_code, exceptionTable := #[], attributes := #[] }
def k2m6 : Method := { name := "slot", desc := "(II)I", sig := { parameters := [.int, .int], returnType := some .int }, accessFlags := 10, code := some k2c6 }
/-- com/example/processionary/processionary/automata/IntSet -/
def k2 : Class := { plain "com/example/processionary/processionary/automata/IntSet" (some 0) with
  accessFlags := 48
  interfaces := #[]
  cf := some (fileOf pool2 8 #[] #[{ accessFlags := 0, nameIndex := 5, descriptorIndex := 6, attributes := #[] }, { accessFlags := 0, nameIndex := 50, descriptorIndex := 41, attributes := #[] }, { accessFlags := 0, nameIndex := 51, descriptorIndex := 41, attributes := #[] }, { accessFlags := 0, nameIndex := 55, descriptorIndex := 56, attributes := #[] }, { accessFlags := 2, nameIndex := 29, descriptorIndex := 30, attributes := #[] }, { accessFlags := 8, nameIndex := 33, descriptorIndex := 34, attributes := #[] }, { accessFlags := 10, nameIndex := 25, descriptorIndex := 26, attributes := #[] }] 48 2 #[] #[{ accessFlags := 26, nameIndex := 43, descriptorIndex := 22, attributes := #[] }, { accessFlags := 2, nameIndex := 11, descriptorIndex := 12, attributes := #[] }, { accessFlags := 2, nameIndex := 21, descriptorIndex := 22, attributes := #[] }])
  fields := #[{ name := "EMPTY", type := .int, accessFlags := 26, slot := 0, constantValue := 0 }, { name := "slots", type := (.array .int), accessFlags := 2, slot := 0, constantValue := 0 }, { name := "size", type := .int, accessFlags := 2, slot := 1, constantValue := 0 }]
  methods := #[k2m0, k2m1, k2m2, k2m3, k2m4, k2m5, k2m6]
  instanceTypes := #[(.array .int), .int]
  staticTypes := #[.int]
  resolved := Array.replicate 59 none
  statics := none }

def pool3 : Array CpInfo := pool [(2, .class_ 4), (1, u "java/lang/Object"), (0, u "<init>"), (0, u "()V"), (7, .class_ 16), (1, u "java/util/Arrays"), (57, .class_ 76), (1, u "java/util/Arrays$NaturalOrder"), (36, .class_ 115), (1, u "java/util/Arrays$LegacyMergeSort"), (1, u "Z"), (257, .class_ 376), (0, u "java/util/Arrays$ArrayList"), (68, u "$assertionsDisabled"), (269, u "MIN_ARRAY_SORT_GRAN"), (0, u "I"), (2, u "INSERTIONSORT_THRESHOLD"), (120, u "fill"), (4, u "([II)V"), (129, .class_ 976), (0, u "java/util/Arrays$ArrayItr")] 52

def k3m0 : Method := { name := "<init>", desc := "()V", sig := { parameters := [], returnType := none }, accessFlags := 2, code := none }
def k3c1 : Code := { maxStack := 3, maxLocals := 4, code := jdk_65_method_103_code, exceptionTable := #[], attributes := #[] }
def k3m1 : Method := { name := "fill", desc := "([II)V", sig := { parameters := [(.array .int), .int], returnType := none }, accessFlags := 9, code := some k3c1 }
/-- java/util/Arrays -/
def k3 : Class := { plain "java/util/Arrays" (some 0) with
  accessFlags := 49
  interfaces := #[]
  cf := some (fileOf pool3 14 #[.nestMembers #[975, 375, 113, 74]] #[{ accessFlags := 2, nameIndex := 5, descriptorIndex := 6, attributes := #[] }, { accessFlags := 9, nameIndex := 840, descriptorIndex := 845, attributes := #[] }] 49 2 #[] #[{ accessFlags := 26, nameIndex := 715, descriptorIndex := 716, attributes := #[] }, { accessFlags := 26, nameIndex := 719, descriptorIndex := 716, attributes := #[] }, { accessFlags := 4120, nameIndex := 445, descriptorIndex := 117, attributes := #[] }])
  fields := #[{ name := "MIN_ARRAY_SORT_GRAN", type := .int, accessFlags := 26, slot := 0, constantValue := 0 }, { name := "INSERTIONSORT_THRESHOLD", type := .int, accessFlags := 26, slot := 1, constantValue := 0 }, { name := "$assertionsDisabled", type := .boolean, accessFlags := 4120, slot := 2, constantValue := 0 }]
  methods := #[k3m0, k3m1]
  instanceTypes := #[]
  staticTypes := #[.int, .int, .boolean]
  resolved := Array.replicate 1029 none
  statics := none }

def pool4 : Array CpInfo := pool [(1, u "java/lang/Cloneable"), (0, .class_ 1), (0, u "java/lang/Object"), (0, .class_ 3)] 3

/-- java/lang/Cloneable -/
def k4 : Class := { plain "java/lang/Cloneable" (some 0) with
  accessFlags := 1537
  interfaces := #[]
  cf := some (fileOf pool4 2 #[] #[] 1537 4 #[] #[])
  fields := #[]
  methods := #[]
  instanceTypes := #[]
  staticTypes := #[]
  resolved := Array.replicate 8 none
  statics := none }

def pool5 : Array CpInfo := pool [(1, u "java/io/Serializable"), (0, .class_ 1), (0, u "java/lang/Object"), (0, .class_ 3)] 3

/-- java/io/Serializable -/
def k5 : Class := { plain "java/io/Serializable" (some 0) with
  accessFlags := 1537
  interfaces := #[]
  cf := some (fileOf pool5 2 #[] #[] 1537 4 #[] #[])
  fields := #[]
  methods := #[]
  instanceTypes := #[]
  staticTypes := #[]
  resolved := Array.replicate 8 none
  statics := none }

/-- the primitive byte -/
def k6 : Class := { plain "byte" none with kind := .primitive 'B', accessFlags := 0x411 }
/-- [B -/
def k7 : Class := { plain "[B" (some 0) with kind := .array 6 .byte, interfaces := #[4, 5], accessFlags := 1041 }

/-- the primitive int -/
def k8 : Class := { plain "int" none with kind := .primitive 'I', accessFlags := 0x411 }
/-- [I -/
def k9 : Class := { plain "[I" (some 0) with kind := .array 8 .int, interfaces := #[4, 5], accessFlags := 1041 }

def heap : Heap := #[]
def classes : Array Class := #[k0, k1, k2, k3, k4, k5, k6, k7, k8, k9]
def interned : List (Array UInt16 × Addr) := []
def slotsUsed : Nat := 0
def theMethod : MethodId := ⟨1, 1⟩
def args0 : Array Value := #[.int 5, .int 9, .int 5, .int 9, .int 2]
def aboutOver (below : List Frame) : State where
  vm := { classes := classes, interned := interned.toArray }
  heap := heap
  slotsUsed := slotsUsed
  threads := #[{ frames := .invoking theMethod args0 :: below }]
def below0 : List Frame := [.native { method := ⟨0, 0⟩, args := #[] }]
def about1 : State := aboutOver below0
def p0 : Program := .bare "" "" ""
def e0 : Env := launch0.env 0 0 0
theorem w_frames : about1.frames = Frame.invoking theMethod args0 :: below0 := rfl
set_option maxRecDepth 65536 in
theorem w_args : argsFit about1.vm theMethod args0 = true := by decide +kernel
set_option maxRecDepth 65536 in
theorem w_heap : heapFits about1 = true := by decide +kernel
set_option maxRecDepth 65536 in
theorem w_runnable : about1.curStatus? = some .runnable := by decide +kernel
set_option maxRecDepth 65536 in
theorem w_alone : about1.alone = true := by decide +kernel
set_option maxRecDepth 65536 in
theorem w_named : about1.methodNamed? x = some theMethod := by decide +kernel
set_option maxRecDepth 65536 in
theorem w_hears : about1.hears theMethod below0 = true := by decide +kernel
set_option maxRecDepth 65536 in
theorem w_ripe : about1.ripe theMethod args0 below0 = true := by decide +kernel
theorem w_running : about1.status = .running := rfl
set_option maxRecDepth 65536 in
theorem w_room : about1.hasRoom e0.platform room_1 = true :=
  launch0.hasRoom_least _ room_1 (by decide +kernel) (by decide +kernel) (by decide +kernel) (by decide +kernel) (by decide +kernel) (by decide +kernel)
theorem allAtoms_all (ts : List Jvm.Cond) (a : Array Jvm.Value) (st : Jvm.State) : (allAtoms ts).before a st = ts.all (fun c => c.before a st) := by
  induction ts with
  | nil => rfl
  | cons c t ih =>
    show (Jvm.Cond.and c (allAtoms t)).before a st = _
    rw [Jvm.Cond.before_and, ih, List.all_cons]
def words1 : List Jvm.Cond := Jvm.Cond.code x code maxLocals ret :: tables_1
/-- a 'code' word, met by the world's own term for the bytes: nothing is compared byte by byte -/
theorem code_word {y : MethodName} {bytes : ByteArray} {mx : Nat} {rt : Option FieldType} {a : Array Value} {s : State} {m : MethodId} {meth : Method} {c : Code} (h1 : s.methodNamed? y = some m) (h2 : s.vm.method? m = some meth) (h3 : meth.code = some c) (h4 : c.code = bytes)
    (h5 : (c.maxLocals == mx && c.exceptionTable.isEmpty && decide (c.maxStack ≤ mostOperands) && decide (meth.sig.returnType = rt) && !meth.locks && decide (parseMethodDescriptor y.desc = some meth.sig)) = true) : (Jvm.Cond.code y bytes mx rt).before a s = true := by
  simp only [Bool.and_eq_true, beq_iff_eq, Bool.not_eq_true', decide_eq_true_eq] at h5
  obtain ⟨⟨⟨⟨⟨g1, g2⟩, g3⟩, g4⟩, g5⟩, g6⟩ := h5
  simp [Cond.before, Cond.holds, Cond.value, h1, h2, h3, h4, g1, g2, g3, g4, g5, g6]
def isCode : Jvm.Cond → Bool
  | .code _ _ _ _ => true
  | _ => false
theorem all_split {L : List Jvm.Cond} {P : Jvm.Cond → Bool} (h1 : L.all (fun c => isCode c || P c) = true) (h2 : ∀ c ∈ L.filter isCode, P c = true) : L.all P = true := by
  refine List.all_eq_true.mpr fun c hc => ?_
  have h := List.all_eq_true.mp h1 c hc
  rcases Bool.eq_false_or_eq_true (isCode c) with hi | hi
  · exact h2 c (List.mem_filter.mpr ⟨hc, hi⟩)
  · simpa [hi] using h
set_option maxRecDepth 65536 in
theorem w_c0 : (Jvm.Cond.code x code maxLocals ret).before args0 about1 = true := code_word (m := ⟨1, 1⟩) (meth := k1m1) (c := k1c1) (by decide +kernel) rfl rfl rfl (by decide +kernel)
set_option maxRecDepth 65536 in
theorem w_c1 : (Jvm.Cond.code ({ cls := "com/example/processionary/processionary/automata/IntSetMembersPinLaw", name := "pick", desc := "(IZ)I" } : Jvm.MethodName) method_3_code (2 : Nat) (Option.some Jvm.ClassFile.FieldType.int)).before args0 about1 = true := code_word (m := ⟨1, 2⟩) (meth := k1m2) (c := k1c2) (by decide +kernel) rfl rfl rfl (by decide +kernel)
set_option maxRecDepth 65536 in
theorem w_c2 : (Jvm.Cond.code ({ cls := "com/example/processionary/processionary/automata/IntSet", name := "<init>", desc := "()V" } : Jvm.MethodName) prog_12_method_1_code (1 : Nat) (Option.none : Option Jvm.ClassFile.FieldType)).before args0 about1 = true := code_word (m := ⟨2, 0⟩) (meth := k2m0) (c := k2c0) (by decide +kernel) rfl rfl rfl (by decide +kernel)
set_option maxRecDepth 65536 in
theorem w_c3 : (Jvm.Cond.code ({ cls := "java/lang/Object", name := "<init>", desc := "()V" } : Jvm.MethodName) object_method_1_code (1 : Nat) (Option.none : Option Jvm.ClassFile.FieldType)).before args0 about1 = true := code_word (m := ⟨0, 0⟩) (meth := k0m0) (c := k0c0) (by decide +kernel) rfl rfl rfl (by decide +kernel)
set_option maxRecDepth 65536 in
theorem w_c4 : (Jvm.Cond.code ({ cls := "java/util/Arrays", name := "fill", desc := "([II)V" } : Jvm.MethodName) jdk_65_method_103_code (4 : Nat) (Option.none : Option Jvm.ClassFile.FieldType)).before args0 about1 = true := code_word (m := ⟨3, 1⟩) (meth := k3m1) (c := k3c1) (by decide +kernel) rfl rfl rfl (by decide +kernel)
set_option maxRecDepth 65536 in
theorem w_c5 : (Jvm.Cond.code ({ cls := "com/example/processionary/processionary/automata/IntSet", name := "add", desc := "(I)Z" } : Jvm.MethodName) prog_12_method_4_code (4 : Nat) (Option.some Jvm.ClassFile.FieldType.boolean)).before args0 about1 = true := code_word (m := ⟨2, 1⟩) (meth := k2m1) (c := k2c1) (by decide +kernel) rfl rfl rfl (by decide +kernel)
set_option maxRecDepth 65536 in
theorem w_c6 : (Jvm.Cond.code ({ cls := "com/example/processionary/processionary/automata/IntSet", name := "slot", desc := "(II)I" } : Jvm.MethodName) prog_12_method_11_code (3 : Nat) (Option.some Jvm.ClassFile.FieldType.int)).before args0 about1 = true := code_word (m := ⟨2, 6⟩) (meth := k2m6) (c := k2c6) (by decide +kernel) rfl rfl rfl (by decide +kernel)
set_option maxRecDepth 65536 in
theorem w_c7 : (Jvm.Cond.code ({ cls := "com/example/processionary/processionary/automata/IntSet", name := "resize", desc := "(I)V" } : Jvm.MethodName) prog_12_method_9_code (9 : Nat) (Option.none : Option Jvm.ClassFile.FieldType)).before args0 about1 = true := code_word (m := ⟨2, 4⟩) (meth := k2m4) (c := k2c4) (by decide +kernel) rfl rfl rfl (by decide +kernel)
set_option maxRecDepth 65536 in
theorem w_c8 : (Jvm.Cond.code ({ cls := "com/example/processionary/processionary/automata/IntSet", name := "members", desc := "()[I" } : Jvm.MethodName) prog_12_method_8_code (7 : Nat) (Option.some (Jvm.ClassFile.FieldType.array Jvm.ClassFile.FieldType.int))).before args0 about1 = true := code_word (m := ⟨2, 3⟩) (meth := k2m3) (c := k2c3) (by decide +kernel) rfl rfl rfl (by decide +kernel)
set_option maxRecDepth 65536 in
theorem w_c9 : (Jvm.Cond.code ({ cls := "com/example/processionary/processionary/automata/IntSetMembersPinLaw", name := "in", desc := "(IIIIZI)Z" } : Jvm.MethodName) method_4_code (6 : Nat) (Option.some Jvm.ClassFile.FieldType.boolean)).before args0 about1 = true := code_word (m := ⟨1, 3⟩) (meth := k1m3) (c := k1c3) (by decide +kernel) rfl rfl rfl (by decide +kernel)
set_option maxRecDepth 65536 in
theorem w_c10 : (Jvm.Cond.code ({ cls := "com/example/processionary/processionary/automata/IntSet", name := "remove", desc := "(I)Z" } : Jvm.MethodName) prog_12_method_5_code (5 : Nat) (Option.some Jvm.ClassFile.FieldType.boolean)).before args0 about1 = true := code_word (m := ⟨2, 2⟩) (meth := k2m2) (c := k2c2) (by decide +kernel) rfl rfl rfl (by decide +kernel)
set_option maxRecDepth 65536 in
theorem w_c11 : (Jvm.Cond.code ({ cls := "com/example/processionary/processionary/automata/IntSet", name := "fillsGap", desc := "(III)Z" } : Jvm.MethodName) prog_12_method_10_code (3 : Nat) (Option.some Jvm.ClassFile.FieldType.boolean)).before args0 about1 = true := code_word (m := ⟨2, 5⟩) (meth := k2m5) (c := k2c5) (by decide +kernel) rfl rfl rfl (by decide +kernel)
def codes1 : List Jvm.Cond := [Jvm.Cond.code x code maxLocals ret, Jvm.Cond.code ({ cls := "com/example/processionary/processionary/automata/IntSetMembersPinLaw", name := "pick", desc := "(IZ)I" } : Jvm.MethodName) method_3_code (2 : Nat) (Option.some Jvm.ClassFile.FieldType.int), Jvm.Cond.code ({ cls := "com/example/processionary/processionary/automata/IntSet", name := "<init>", desc := "()V" } : Jvm.MethodName) prog_12_method_1_code (1 : Nat) (Option.none : Option Jvm.ClassFile.FieldType), Jvm.Cond.code ({ cls := "java/lang/Object", name := "<init>", desc := "()V" } : Jvm.MethodName) object_method_1_code (1 : Nat) (Option.none : Option Jvm.ClassFile.FieldType), Jvm.Cond.code ({ cls := "java/util/Arrays", name := "fill", desc := "([II)V" } : Jvm.MethodName) jdk_65_method_103_code (4 : Nat) (Option.none : Option Jvm.ClassFile.FieldType), Jvm.Cond.code ({ cls := "com/example/processionary/processionary/automata/IntSet", name := "add", desc := "(I)Z" } : Jvm.MethodName) prog_12_method_4_code (4 : Nat) (Option.some Jvm.ClassFile.FieldType.boolean), Jvm.Cond.code ({ cls := "com/example/processionary/processionary/automata/IntSet", name := "slot", desc := "(II)I" } : Jvm.MethodName) prog_12_method_11_code (3 : Nat) (Option.some Jvm.ClassFile.FieldType.int), Jvm.Cond.code ({ cls := "com/example/processionary/processionary/automata/IntSet", name := "resize", desc := "(I)V" } : Jvm.MethodName) prog_12_method_9_code (9 : Nat) (Option.none : Option Jvm.ClassFile.FieldType), Jvm.Cond.code ({ cls := "com/example/processionary/processionary/automata/IntSet", name := "members", desc := "()[I" } : Jvm.MethodName) prog_12_method_8_code (7 : Nat) (Option.some (Jvm.ClassFile.FieldType.array Jvm.ClassFile.FieldType.int)), Jvm.Cond.code ({ cls := "com/example/processionary/processionary/automata/IntSetMembersPinLaw", name := "in", desc := "(IIIIZI)Z" } : Jvm.MethodName) method_4_code (6 : Nat) (Option.some Jvm.ClassFile.FieldType.boolean), Jvm.Cond.code ({ cls := "com/example/processionary/processionary/automata/IntSet", name := "remove", desc := "(I)Z" } : Jvm.MethodName) prog_12_method_5_code (5 : Nat) (Option.some Jvm.ClassFile.FieldType.boolean), Jvm.Cond.code ({ cls := "com/example/processionary/processionary/automata/IntSet", name := "fillsGap", desc := "(III)Z" } : Jvm.MethodName) prog_12_method_10_code (3 : Nat) (Option.some Jvm.ClassFile.FieldType.boolean)]
set_option maxRecDepth 65536 in
theorem codes_eq : words1.filter isCode = codes1 := rfl
theorem w_codes : ∀ c ∈ words1.filter isCode, c.before args0 about1 = true := by
  rw [codes_eq]
  intro c hc
  simp only [codes1, List.mem_cons, List.not_mem_nil, or_false] at hc
  rcases hc with rfl | rfl | rfl | rfl | rfl | rfl | rfl | rfl | rfl | rfl | rfl | rfl
  · exact w_c0
  · exact w_c1
  · exact w_c2
  · exact w_c3
  · exact w_c4
  · exact w_c5
  · exact w_c6
  · exact w_c7
  · exact w_c8
  · exact w_c9
  · exact w_c10
  · exact w_c11
set_option maxRecDepth 65536 in
theorem w_t1 : (words1.take 24).all (fun c => isCode c || c.before args0 about1) = true := by decide +kernel
set_option maxRecDepth 65536 in
theorem w_t2 : ((words1.drop 24).take 24).all (fun c => isCode c || c.before args0 about1) = true := by decide +kernel
set_option maxRecDepth 65536 in
theorem w_t3 : ((words1.drop 24).drop 24).all (fun c => isCode c || c.before args0 about1) = true := by decide +kernel
theorem w_tables : (allAtoms (Jvm.Cond.code x code maxLocals ret :: tables_1)).before args0 about1 = true := by
  rw [allAtoms_all]
  show words1.all (fun c => c.before args0 about1) = true
  refine all_split ?_ w_codes
  rw [← List.take_append_drop 24 words1, List.all_append, w_t1, ← List.take_append_drop 24 (words1.drop 24), List.all_append, w_t2, w_t3]
  rfl
set_option maxRecDepth 65536 in
theorem w_case : (Jvm.Cond.and given_1 narrow_1).before args0 about1 = true := by decide +kernel
theorem w_applies : (headSpec (Jvm.Cond.code x code maxLocals ret :: tables_1) room_1).applies x e0.platform about1 = true :=
  (Spec.applies_iff w_frames).mpr ⟨w_running, w_runnable, w_alone, w_named, w_hears, w_ripe, w_room, w_tables⟩
theorem atStart : AtStart classFile x code maxLocals ret World_1 tables_1 room_1 Calls_1 rest_1 Pre_1 launch0 p0 e0 about1 theMethod args0 below0 :=
  ⟨lists_1, trivial, launch0.admits_env _ _ _, launch0.least_env, fairChoices_fair.cas, fairChoices_fair.clock, w_frames, w_args, w_heap, w_applies, trivial, trivial, w_case⟩
end start1
theorem witness_1 : WitnessClaimed_1 := ⟨start1.p0, start1.e0, start1.about1, start1.theMethod, start1.args0, start1.below0, start1.atStart⟩
end Jvm.Pilot.@@N@@

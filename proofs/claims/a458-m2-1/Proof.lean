import JvmDerived
import JvmDerived.Pilot.@@N@@Statement
import JvmDerived.Pilot.@@N@@Code
set_option linter.unusedVariables false
set_option linter.unusedSimpArgs false
@@BLOCK:NumsL.lean.txt@@
@@BLOCK:Masks.lean.txt@@
namespace Jvm.RoadKit
open Sem ClassFile Op Lib Jvm.Stand Jvm.Free Jvm.LawKit
section New
variable {p : Program} {l : Launch} {e : Env} {R : Room} {s : State} {m : MethodId} {args : Array Value} {below : List Frame} {meth : Method} {c : Code} {T : State} {locs : List Loc} {cells slots : Nat}
theorem retI (X : Stand p l e R s m args below meth c T locs cells slots) (hx : p.tables.exec = Jvm.exec) {pc : Nat} {Ls : Array Slot} {z : Int32} {rest : List Value} (hret : meth.sig.returnType = some .int) (hd : decode c.code pc = .ok (.ireturn, 1)) {fs : List Frame}
    (hl : ∀ (f : JFrame) (acts : List Action), f.method = m → f.locked = none → f.entered = [] → (doReturn e (T.setTop f) acts (some (.int z))).1 = T.setFrames fs) : Steps p.tables e below (T.setTop (mkF m pc Ls (.int z :: rest))) (T.setFrames fs) := by
  have hm' : T.vm.method? m = some meth := X.method'
  have hn : narrow .int (.int z) = .int z := rfl
  show Steps p.tables e below (T.setTop { method := m, pc := pc, locals := Ls, stack := _ :: rest, locked := none }) _
  jvm_step X.here [X.here.top, hx, hd, hm', hret, hn]
  first | (intro acts; rw [hl _ acts rfl rfl rfl]) | rw [hl _ _ rfl rfl rfl]
  exact Steps.refl _
theorem retJ (X : Stand p l e R s m args below meth c T locs cells slots) (hx : p.tables.exec = Jvm.exec) {pc : Nat} {Ls : Array Slot} {z : Int64} {rest : List Value} (hret : meth.sig.returnType = some .long) (hd : decode c.code pc = .ok (.lreturn, 1)) {fs : List Frame}
    (hl : ∀ (f : JFrame) (acts : List Action), f.method = m → f.locked = none → f.entered = [] → (doReturn e (T.setTop f) acts (some (.long z))).1 = T.setFrames fs) : Steps p.tables e below (T.setTop (mkF m pc Ls (.long z :: rest))) (T.setFrames fs) := by
  have hm' : T.vm.method? m = some meth := X.method'
  have hn : narrow .long (.long z) = .long z := rfl
  show Steps p.tables e below (T.setTop { method := m, pc := pc, locals := Ls, stack := _ :: rest, locked := none }) _
  jvm_step X.here [X.here.top, hx, hd, hm', hret, hn]
  first | (intro acts; rw [hl _ acts rfl rfl rfl]) | rw [hl _ _ rfl rfl rfl]
  exact Steps.refl _
end New
theorem own_ite {α : Type} {P : Prop} [Decidable P] {f : α → Prop} {a b : α} (ha : f a) (hb : f b) : f (if P then a else b) := by split <;> assumption
theorem own_lc_eq {x y : Int64} : lcmpW x y = 0 ↔ x = y := by rw [lcW]; exact lc_eq x y
theorem own_lc_lt {x y : Int64} : lcmpW x y < 0 ↔ x < y := by rw [lcW]; exact lc_lt x y
theorem own_lc_gt {x y : Int64} : 0 < lcmpW x y ↔ y < x := by rw [lcW]; exact lc_gt x y
end Jvm.RoadKit
namespace Jvm.RoadKit
open Sem ClassFile Op Lib Jvm.Stand Jvm.Free Jvm.LawKit
section Own
variable {Z : State} {h h' : Heap} {a b : Addr} {ty : FieldType} {n j : Int32} {sl : Nat} {v : Value} {ws : List Addr} {α : Type} {mk : α → Value} {g : Nat → α} {w : α}
/-- an array: its kind, its length and, by a function, what it holds -/
def JV (mk : α → Value) (Z : State) (h : Heap) (a : Addr) (ty : FieldType) (n : Int32) (g : Nat → α) : Prop := ∃ c : Cell, Arr Z h a c ty ∧ c.slots.size = n.toNatClampNeg ∧ ¬ n < 0 ∧ ∀ i, i < c.slots.size → c.slots[i]? = some (mk (g i))
def updF (g : Nat → α) (k : Nat) (w : α) : Nat → α := fun i => if i = k then w else g i
theorem JV.lt (F : JV mk Z h a ty n g) : a < h.size := by obtain ⟨c, A, -⟩ := F; exact A.lt
theorem JV.ext (F : JV mk Z h a ty n g) (E : Ext h h') : JV mk Z h' a ty n g := by obtain ⟨c, A, r⟩ := F; exact ⟨c, A.ext E, r⟩
theorem JV.other (F : JV mk Z h b ty n g) (W : Wr h h' a sl v) (q : b ≠ a) : JV mk Z h' b ty n g := by obtain ⟨c, A, r⟩ := F; exact ⟨c, A.other W q, r⟩
theorem JV.keep (F : JV mk Z h a ty n g) (K : Keep h h' ws) (q : a ∉ ws) : JV mk Z h' a ty n g := by obtain ⟨c, A, r⟩ := F; exact ⟨c, ⟨K.2.1 a c A.1 q, A.2⟩, r⟩
theorem JV.new {k : ClassId} (A : Arr Z h a (newA k ty n) ty) (q : ¬ n < 0) (w : α) (hd : defaultValue ty = mk w) : JV mk Z h a ty n (fun _ => w) := by
  obtain ⟨c, A', -, S, N, H, -⟩ := Arv.new A q
  exact ⟨c, A', S, N, fun i hi => by rw [H i hi, hd]; rfl⟩
theorem JV.in (F : JV mk Z h a ty n g) (q : ¬ j < 0 ∧ j < n) : ∃ c : Cell, Arr Z h a c ty ∧ ¬ (j < 0 ∨ c.slots.size ≤ j.toNatClampNeg) ∧ c.slots[j.toNatClampNeg]? = some (mk (g j.toNatClampNeg)) := by
  obtain ⟨c, A, S, N, H⟩ := F
  have hin := inb_of S q
  exact ⟨c, A, hin, H _ (Nat.lt_of_not_le fun y => hin (Or.inr y))⟩
theorem JV.len (F : JV mk Z h a ty n g) : ∃ c : Cell, Arr Z h a c ty ∧ c.slots.size.toInt32 = n := by
  obtain ⟨c, A, S, N, H⟩ := F
  exact ⟨c, A, len_of S N⟩
theorem JV.nn (F : JV mk Z h a ty n g) : ¬ n < 0 := by obtain ⟨c, A, S, N, H⟩ := F; exact N
theorem JV.set (F : JV mk Z h a ty n g) (W : Wr h h' a j.toNatClampNeg (mk w)) : JV mk Z h' a ty n (updF g j.toNatClampNeg w) := by
  obtain ⟨c, A, S, N, H⟩ := F
  refine ⟨_, A.same W, ?_, N, ?_⟩
  · rw [← S]; simp [Cell.setSlot]
  · intro i hi
    have hi' : i < c.slots.size := by simpa [Cell.setSlot] using hi
    obtain ⟨cell, h1, -, h3, rfl⟩ := W
    cases A.1.symm.trans h1
    by_cases e : i = j.toNatClampNeg
    · subst e; simp [Cell.setSlot, updF, hi']
    · rw [show (c.setSlot j.toNatClampNeg (mk w)).slots[i]? = c.slots[i]? from by simp [Cell.setSlot, Array.getElem?_setIfInBounds, Ne.symm e], H i hi']
      simp [updF, e]
theorem own_selp {s : State} {a0 args : Array Value} {y : MethodName} {k : Nat} (hZ : Z.Warmed39 s.vm) (wi : (Cond.instantiable y.cls k).before a0 Z = true) (wp : (Cond.privateMethod y).before a0 Z = true) (wm : (Cond.instanceMethod y).before a0 Z = true) (hy : y.cls ≠ "java/lang/invoke/MethodHandle" ∧ y.cls ≠ "java/lang/invoke/VarHandle") : (Cond.selects y.cls y y).before args s = true := by
  obtain ⟨c, q, h1, h2, h3, h4, -⟩ := Cond.instantiable_spec (mvT (args := args) hZ wi)
  have hi : q.isInterface = false := by
    cases hq : q.isInterface with
    | false => rfl
    | true => simp [hq] at h4
  exact selects_self_of_private h1 h2 hi (Cond.privateMethod_at (mvP hZ wp (args := #[]))) (mvT hZ wm) hy
end Own
end Jvm.RoadKit
namespace Jvm.Pilot.@@N@@
open Jvm Jvm.ClassFile Sem Op Lib Jvm.Free Jvm.Stand Jvm.LawKit Jvm.RoadKit Bundle Jvm.Pilot.@@N@@.Jvm.D
def Lead (p : Program) (e : Env) (below : List Frame) (A B : State) : Prop := ∀ t, Steps p.tables e below B t → Steps p.tables e below A t
theorem d1_0 : decode jdk_29_method_66_code 0 = .ok (.lload_n 0, 1) := by decide +kernel
theorem d1_1 : decode jdk_29_method_66_code 1 = .ok (.lload_n 2, 1) := by decide +kernel
theorem d1_2 : decode jdk_29_method_66_code 2 = .ok (.lcmp, 1) := by decide +kernel
theorem d1_3 : decode jdk_29_method_66_code 3 = .ok (.ifCond .lt 7, 3) := by decide +kernel
theorem d1_6 : decode jdk_29_method_66_code 6 = .ok (.lload_n 0, 1) := by decide +kernel
theorem d1_7 : decode jdk_29_method_66_code 7 = .ok (.goto 4, 3) := by decide +kernel
theorem d1_10 : decode jdk_29_method_66_code 10 = .ok (.lload_n 2, 1) := by decide +kernel
theorem d1_11 : decode jdk_29_method_66_code 11 = .ok (.lreturn, 1) := by decide +kernel
def F1 (q0 : Int64) (q1 : Int64) : Int64 := (if q0 < q1 then q1 else q0)
theorem ef_1 (m : MethodId) (q0 : Int64) (q1 : Int64) : entryFrame m #[(.long q0), (.long q1)] 4 = mkF m 0 #[.val (.long q0), .second, .val (.long q1), .second] [] := by first | (simp [entryFrame, mkF, argsToLocals, Value.category]; done) | rfl
def Q1 (Z : State) (q0 : Int64) (q1 : Int64)  (h0 : Heap) (n0 : Nat) (v : Option Value) (h : Heap) (L : List Loc) : Prop := v = some (.long (if q0 < q1 then q1 else q0)) ∧ Fr n0 L ∧ h = h0
set_option maxRecDepth 65536 in
set_option maxHeartbeats 40000000 in
theorem rm1 (l : Launch) (Z : State) (a0 : Array Value) (hw : ∀ d ∈ tables_1, d.before a0 Z = true) (ws : List Jvm.Cond) (q0 : Int64) (q1 : Int64)  (h0 : Heap) (n0 : Nat) (Z0 : n0 ≤ h0.size)  :
    MetFree l (⟨"java/lang/Math", "max", "(JJ)J"⟩ : MethodName) (head1 (Jvm.Cond.code (⟨"java/lang/Math", "max", "(JJ)J"⟩ : MethodName) jdk_29_method_66_code 4 (some .long) :: ws) ({ frames := 0, cells := 0, slots := 0, locals := 0 } : Room)) (fun a U => a = #[(.long q0), (.long q1)] ∧ Z.Warmed39 U.vm ∧ U.heap = h0) (fun _ _ _ _ _ => True) (fun _ U o U' => ∃ v L, o = .returned v ∧ Q1 Z q0 q1 h0 n0 v U'.heap L ∧ FrameEnd U o U' L ({ frames := 0, cells := 0, slots := 0, locals := 0 } : Room).cells ({ frames := 0, cells := 0, slots := 0, locals := 0 } : Room).slots) := by
  refine MetFree.of_bodySF (Jvm.Free.JP.mathPlain rfl (by decide +kernel)) hisR ?_
  intro p e s m args below meth c s₁ Bd hml0 hP hK
  obtain ⟨rfl, hZ, hh⟩ := hP
  have hx := Bd.exec
  have hby := Bd.bytes
  have hml : c.maxLocals = 4 := hml0
  have hown : s.vm.findClass "java/lang/Math" = some m.cls := findClass_of_methodNamed Bd.named
  have hnm := (name_of_methodNamed Bd.named Bd.method).1
  have X0 : Stand p l e ({ frames := 0, cells := 0, slots := 0, locals := 0 } : Room) s m #[(.long q0), (.long q1)] below meth c s₁ [] 0 0 := Stand.of_body Bd
  have e0 : s₁.heap = h0 := by rw [← hh, Bd.state]; rfl
  have N0 := Fr.nil n0
  have K0 : Keep h0 h0 [] := Keep.refl _ _
  obtain ⟨G, hG⟩ : ∃ z, z = s₁.setTop (entryFrame m #[(.long q0), (.long q1)] 4) := ⟨_, rfl⟩
  have pre0 : Lead p e below G (s₁.setTop (mkF m 0 #[.val (.long q0), .second, .val (.long q1), .second] [])) := fun t k => by rw [hG]; exact castTop (ef_1 m q0 q1) k
  obtain ⟨fs, hr, hrun, hended, hW, hsame⟩ := X0.leave (v := some (.long (if q0 < q1 then q1 else q0))) (fun h => by rw [Bd.returns] at h; cases h)
  subst hG
  refine ⟨_, _, pre0 _ ?_, hrun, hended, _, _, rfl, ?_, ⟨_, rfl⟩, hW, hsame.mono (by decide) (by decide)⟩
  · show Steps p.tables e below (s₁.setTop (mkF m 0 #[.val (.long q0), .second, .val (.long q1), .second] [])) _
    refine XS.lloadN X0.here hx rfl (hb hby d1_0) rfl ?_
    show Steps p.tables e below (s₁.setTop (mkF m 1 #[.val (.long q0), .second, .val (.long q1), .second] [(.long q0)])) _
    refine XS.lloadN X0.here hx rfl (hb hby d1_1) rfl ?_
    show Steps p.tables e below (s₁.setTop (mkF m 2 #[.val (.long q0), .second, .val (.long q1), .second] [(.long q1), (.long q0)])) _
    refine XS.lcmp X0.here hx rfl (hb hby d1_2) rfl ?_
    show Steps p.tables e below (s₁.setTop (mkF m 3 #[.val (.long q0), .second, .val (.long q1), .second] [(.int (lcmpW q0 q1))])) _
    have j2 : ∀ t, Steps p.tables e below (s₁.setTop (mkF m 11 #[.val (.long q0), .second, .val (.long q1), .second] [(.long (if q0 < q1 then q1 else q0))])) t → Steps p.tables e below (s₁.setTop (mkF m 3 #[.val (.long q0), .second, .val (.long q1), .second] [(.int (lcmpW q0 q1))])) t := fun t k => by
      by_cases hc3_1 : q0 < q1
      · simp only [if_pos hc3_1] at k
        refine XS.ifYes X0.here hx rfl (pc0 := 3) (pc' := 10) rfl (hb hby d1_3) rfl ((if0 _ _).trans (tlt (own_lc_lt.mpr hc3_1)).1) (by decide) (by decide) ?_
        show Steps p.tables e below (s₁.setTop (mkF m 10 #[.val (.long q0), .second, .val (.long q1), .second] [])) _
        refine XS.lloadN X0.here hx rfl (hb hby d1_10) rfl ?_
        show Steps p.tables e below (s₁.setTop (mkF m 11 #[.val (.long q0), .second, .val (.long q1), .second] [(.long q1)])) _
        exact k
      · simp only [if_neg hc3_1] at k
        refine XS.ifNo X0.here hx rfl (hb hby d1_3) rfl ((if0 _ _).trans (flt (fun q => hc3_1 (own_lc_lt.mp q))).1) ?_
        show Steps p.tables e below (s₁.setTop (mkF m 6 #[.val (.long q0), .second, .val (.long q1), .second] [])) _
        refine XS.lloadN X0.here hx rfl (hb hby d1_6) rfl ?_
        show Steps p.tables e below (s₁.setTop (mkF m 7 #[.val (.long q0), .second, .val (.long q1), .second] [(.long q0)])) _
        refine XS.goto X0.here hx rfl (pc0 := 7) (pc' := 11) rfl (hb hby d1_7) (by decide) (by decide) ?_
        show Steps p.tables e below (s₁.setTop (mkF m 11 #[.val (.long q0), .second, .val (.long q1), .second] [(.long q0)])) _
        exact k
    refine j2 _ ?_
    show Steps p.tables e below (s₁.setTop (mkF m 11 #[.val (.long q0), .second, .val (.long q1), .second] [(.long (if q0 < q1 then q1 else q0))])) _
    exact retJ X0 hx Bd.returns (hb hby d1_11) hr
  · show Q1 Z q0 q1 h0 n0 _ s₁.heap _
    rw [e0]
    have hv_ : (if q0 < q1 then q1 else q0) = F1 q0 q1 := by
      skip
      rfl
    exact ⟨congrArg (fun z => some (Value.long z)) hv_, N0, rfl⟩
theorem d7_0 : decode jdk_29_method_70_code 0 = .ok (.lload_n 0, 1) := by decide +kernel
theorem d7_1 : decode jdk_29_method_70_code 1 = .ok (.lload_n 2, 1) := by decide +kernel
theorem d7_2 : decode jdk_29_method_70_code 2 = .ok (.lcmp, 1) := by decide +kernel
theorem d7_3 : decode jdk_29_method_70_code 3 = .ok (.ifCond .gt 7, 3) := by decide +kernel
theorem d7_6 : decode jdk_29_method_70_code 6 = .ok (.lload_n 0, 1) := by decide +kernel
theorem d7_7 : decode jdk_29_method_70_code 7 = .ok (.goto 4, 3) := by decide +kernel
theorem d7_10 : decode jdk_29_method_70_code 10 = .ok (.lload_n 2, 1) := by decide +kernel
theorem d7_11 : decode jdk_29_method_70_code 11 = .ok (.lreturn, 1) := by decide +kernel
def F7 (q0 : Int64) (q1 : Int64) : Int64 := (if q1 < q0 then q1 else q0)
theorem ef_7 (m : MethodId) (q0 : Int64) (q1 : Int64) : entryFrame m #[(.long q0), (.long q1)] 4 = mkF m 0 #[.val (.long q0), .second, .val (.long q1), .second] [] := by first | (simp [entryFrame, mkF, argsToLocals, Value.category]; done) | rfl
def Q7 (Z : State) (q0 : Int64) (q1 : Int64)  (h0 : Heap) (n0 : Nat) (v : Option Value) (h : Heap) (L : List Loc) : Prop := v = some (.long (if q1 < q0 then q1 else q0)) ∧ Fr n0 L ∧ h = h0
set_option maxRecDepth 65536 in
set_option maxHeartbeats 40000000 in
theorem rm7 (l : Launch) (Z : State) (a0 : Array Value) (hw : ∀ d ∈ tables_1, d.before a0 Z = true) (ws : List Jvm.Cond) (q0 : Int64) (q1 : Int64)  (h0 : Heap) (n0 : Nat) (Z0 : n0 ≤ h0.size)  :
    MetFree l (⟨"java/lang/Math", "min", "(JJ)J"⟩ : MethodName) (head1 (Jvm.Cond.code (⟨"java/lang/Math", "min", "(JJ)J"⟩ : MethodName) jdk_29_method_70_code 4 (some .long) :: ws) ({ frames := 0, cells := 0, slots := 0, locals := 0 } : Room)) (fun a U => a = #[(.long q0), (.long q1)] ∧ Z.Warmed39 U.vm ∧ U.heap = h0) (fun _ _ _ _ _ => True) (fun _ U o U' => ∃ v L, o = .returned v ∧ Q7 Z q0 q1 h0 n0 v U'.heap L ∧ FrameEnd U o U' L ({ frames := 0, cells := 0, slots := 0, locals := 0 } : Room).cells ({ frames := 0, cells := 0, slots := 0, locals := 0 } : Room).slots) := by
  refine MetFree.of_bodySF (Jvm.Free.JP.mathPlain rfl (by decide +kernel)) hisR ?_
  intro p e s m args below meth c s₁ Bd hml0 hP hK
  obtain ⟨rfl, hZ, hh⟩ := hP
  have hx := Bd.exec
  have hby := Bd.bytes
  have hml : c.maxLocals = 4 := hml0
  have hown : s.vm.findClass "java/lang/Math" = some m.cls := findClass_of_methodNamed Bd.named
  have hnm := (name_of_methodNamed Bd.named Bd.method).1
  have X0 : Stand p l e ({ frames := 0, cells := 0, slots := 0, locals := 0 } : Room) s m #[(.long q0), (.long q1)] below meth c s₁ [] 0 0 := Stand.of_body Bd
  have e0 : s₁.heap = h0 := by rw [← hh, Bd.state]; rfl
  have N0 := Fr.nil n0
  have K0 : Keep h0 h0 [] := Keep.refl _ _
  obtain ⟨G, hG⟩ : ∃ z, z = s₁.setTop (entryFrame m #[(.long q0), (.long q1)] 4) := ⟨_, rfl⟩
  have pre0 : Lead p e below G (s₁.setTop (mkF m 0 #[.val (.long q0), .second, .val (.long q1), .second] [])) := fun t k => by rw [hG]; exact castTop (ef_7 m q0 q1) k
  obtain ⟨fs, hr, hrun, hended, hW, hsame⟩ := X0.leave (v := some (.long (if q1 < q0 then q1 else q0))) (fun h => by rw [Bd.returns] at h; cases h)
  subst hG
  refine ⟨_, _, pre0 _ ?_, hrun, hended, _, _, rfl, ?_, ⟨_, rfl⟩, hW, hsame.mono (by decide) (by decide)⟩
  · show Steps p.tables e below (s₁.setTop (mkF m 0 #[.val (.long q0), .second, .val (.long q1), .second] [])) _
    refine XS.lloadN X0.here hx rfl (hb hby d7_0) rfl ?_
    show Steps p.tables e below (s₁.setTop (mkF m 1 #[.val (.long q0), .second, .val (.long q1), .second] [(.long q0)])) _
    refine XS.lloadN X0.here hx rfl (hb hby d7_1) rfl ?_
    show Steps p.tables e below (s₁.setTop (mkF m 2 #[.val (.long q0), .second, .val (.long q1), .second] [(.long q1), (.long q0)])) _
    refine XS.lcmp X0.here hx rfl (hb hby d7_2) rfl ?_
    show Steps p.tables e below (s₁.setTop (mkF m 3 #[.val (.long q0), .second, .val (.long q1), .second] [(.int (lcmpW q0 q1))])) _
    have j2 : ∀ t, Steps p.tables e below (s₁.setTop (mkF m 11 #[.val (.long q0), .second, .val (.long q1), .second] [(.long (if q1 < q0 then q1 else q0))])) t → Steps p.tables e below (s₁.setTop (mkF m 3 #[.val (.long q0), .second, .val (.long q1), .second] [(.int (lcmpW q0 q1))])) t := fun t k => by
      by_cases hc3_1 : q1 < q0
      · simp only [if_pos hc3_1] at k
        refine XS.ifYes X0.here hx rfl (pc0 := 3) (pc' := 10) rfl (hb hby d7_3) rfl ((if0 _ _).trans (tlt (own_lc_gt.mpr hc3_1)).2.2.1) (by decide) (by decide) ?_
        show Steps p.tables e below (s₁.setTop (mkF m 10 #[.val (.long q0), .second, .val (.long q1), .second] [])) _
        refine XS.lloadN X0.here hx rfl (hb hby d7_10) rfl ?_
        show Steps p.tables e below (s₁.setTop (mkF m 11 #[.val (.long q0), .second, .val (.long q1), .second] [(.long q1)])) _
        exact k
      · simp only [if_neg hc3_1] at k
        refine XS.ifNo X0.here hx rfl (hb hby d7_3) rfl ((if0 _ _).trans (flt (fun q => hc3_1 (own_lc_gt.mp q))).2.2.1) ?_
        show Steps p.tables e below (s₁.setTop (mkF m 6 #[.val (.long q0), .second, .val (.long q1), .second] [])) _
        refine XS.lloadN X0.here hx rfl (hb hby d7_6) rfl ?_
        show Steps p.tables e below (s₁.setTop (mkF m 7 #[.val (.long q0), .second, .val (.long q1), .second] [(.long q0)])) _
        refine XS.goto X0.here hx rfl (pc0 := 7) (pc' := 11) rfl (hb hby d7_7) (by decide) (by decide) ?_
        show Steps p.tables e below (s₁.setTop (mkF m 11 #[.val (.long q0), .second, .val (.long q1), .second] [(.long q0)])) _
        exact k
    refine j2 _ ?_
    show Steps p.tables e below (s₁.setTop (mkF m 11 #[.val (.long q0), .second, .val (.long q1), .second] [(.long (if q1 < q0 then q1 else q0))])) _
    exact retJ X0 hx Bd.returns (hb hby d7_11) hr
  · show Q7 Z q0 q1 h0 n0 _ s₁.heap _
    rw [e0]
    have hv_ : (if q1 < q0 then q1 else q0) = F7 q0 q1 := by
      skip
      rfl
    exact ⟨congrArg (fun z => some (Value.long z)) hv_, N0, rfl⟩
theorem d6_0 : decode prog_21_method_13_code 0 = .ok (.aload_n 0, 1) := by decide +kernel
theorem d6_1 : decode prog_21_method_13_code 1 = .ok (.getfield 20, 3) := by decide +kernel
theorem d6_4 : decode prog_21_method_13_code 4 = .ok (.iload_n 1, 1) := by decide +kernel
theorem d6_5 : decode prog_21_method_13_code 5 = .ok (.iadd, 1) := by decide +kernel
theorem d6_6 : decode prog_21_method_13_code 6 = .ok (.istore_n 2, 1) := by decide +kernel
theorem d6_7 : decode prog_21_method_13_code 7 = .ok (.iload_n 2, 1) := by decide +kernel
theorem d6_8 : decode prog_21_method_13_code 8 = .ok (.aload_n 0, 1) := by decide +kernel
theorem d6_9 : decode prog_21_method_13_code 9 = .ok (.getfield 7, 3) := by decide +kernel
theorem d6_12 : decode prog_21_method_13_code 12 = .ok (.arraylength, 1) := by decide +kernel
theorem d6_13 : decode prog_21_method_13_code 13 = .ok (.if_icmp .ge 7, 3) := by decide +kernel
theorem d6_16 : decode prog_21_method_13_code 16 = .ok (.iload_n 2, 1) := by decide +kernel
theorem d6_17 : decode prog_21_method_13_code 17 = .ok (.goto 10, 3) := by decide +kernel
theorem d6_20 : decode prog_21_method_13_code 20 = .ok (.iload_n 2, 1) := by decide +kernel
theorem d6_21 : decode prog_21_method_13_code 21 = .ok (.aload_n 0, 1) := by decide +kernel
theorem d6_22 : decode prog_21_method_13_code 22 = .ok (.getfield 7, 3) := by decide +kernel
theorem d6_25 : decode prog_21_method_13_code 25 = .ok (.arraylength, 1) := by decide +kernel
theorem d6_26 : decode prog_21_method_13_code 26 = .ok (.isub, 1) := by decide +kernel
theorem d6_27 : decode prog_21_method_13_code 27 = .ok (.ireturn, 1) := by decide +kernel
theorem pn_com_example_lean_throttle_leanthrottle_TimeRing : plainName "com/example/lean_throttle/leanthrottle/TimeRing" = true := by first | (simp [plainName, overriddenIn]; done) | decide +kernel
theorem ef_6 (m : MethodId) (o0 : Addr) (p1 : Int32) : entryFrame m #[(.ref o0), (.int p1)] 3 = mkF m 0 #[.val (.ref o0), .val (.int p1), .unset] [] := by first | (simp [entryFrame, mkF, argsToLocals, Value.category]; done) | rfl
def Q6 (Z : State) (o0 : Addr) (p1 : Int32) (fi : Int32) (ta : Addr) (nl : Int32) (gt : Nat → Int64) (h0 : Heap) (n0 : Nat) (v : Option Value) (h : Heap) (L : List Loc) : Prop := v = some (.int (if (fi + p1) < nl then (fi + p1) else ((fi + p1) - nl))) ∧ Fr n0 L ∧ h = h0
set_option maxRecDepth 65536 in
set_option maxHeartbeats 40000000 in
theorem rm6 (l : Launch) (Z : State) (a0 : Array Value) (hw : ∀ d ∈ tables_1, d.before a0 Z = true) (ws : List Jvm.Cond) (o0 : Addr) (p1 : Int32) (fi : Int32) (ta : Addr) (nl : Int32) (gt : Nat → Int64) (h0 : Heap) (n0 : Nat) (Z0 : n0 ≤ h0.size) (P0_F : Fld Z h0 o0 "com/example/lean_throttle/leanthrottle/TimeRing" "first" "I" (.int fi)) (P1_F : Fld Z h0 o0 "com/example/lean_throttle/leanthrottle/TimeRing" "times" "[J" (.ref ta)) (P2_V : JV Value.long Z h0 ta .long nl gt) :
    MetFree l (⟨"com/example/lean_throttle/leanthrottle/TimeRing", "at", "(I)I"⟩ : MethodName) (head1 (Jvm.Cond.code (⟨"com/example/lean_throttle/leanthrottle/TimeRing", "at", "(I)I"⟩ : MethodName) prog_21_method_13_code 3 (some .int) :: ws) ({ frames := 0, cells := 0, slots := 0, locals := 0 } : Room)) (fun a U => a = #[(.ref o0), (.int p1)] ∧ Z.Warmed39 U.vm ∧ U.heap = h0) (fun _ _ _ _ _ => True) (fun _ U o U' => ∃ v L, o = .returned v ∧ Q6 Z o0 p1 fi ta nl gt h0 n0 v U'.heap L ∧ FrameEnd U o U' L ({ frames := 0, cells := 0, slots := 0, locals := 0 } : Room).cells ({ frames := 0, cells := 0, slots := 0, locals := 0 } : Room).slots) := by
  refine MetFree.of_bodySF (plainFor_of_name pn_com_example_lean_throttle_leanthrottle_TimeRing) hisR ?_
  intro p e s m args below meth c s₁ Bd hml0 hP hK
  obtain ⟨rfl, hZ, hh⟩ := hP
  have hx := Bd.exec
  have hby := Bd.bytes
  have hml : c.maxLocals = 3 := hml0
  have hown : s.vm.findClass "com/example/lean_throttle/leanthrottle/TimeRing" = some m.cls := findClass_of_methodNamed Bd.named
  have hnm := (name_of_methodNamed Bd.named Bd.method).1
  have X0 : Stand p l e ({ frames := 0, cells := 0, slots := 0, locals := 0 } : Room) s m #[(.ref o0), (.int p1)] below meth c s₁ [] 0 0 := Stand.of_body Bd
  have e0 : s₁.heap = h0 := by rw [← hh, Bd.state]; rfl
  have N0 := Fr.nil n0
  have K0 : Keep h0 h0 [] := Keep.refl _ _
  obtain ⟨G, hG⟩ : ∃ z, z = s₁.setTop (entryFrame m #[(.ref o0), (.int p1)] 3) := ⟨_, rfl⟩
  have pre0 : Lead p e below G (s₁.setTop (mkF m 0 #[.val (.ref o0), .val (.int p1), .unset] [])) := fun t k => by rw [hG]; exact castTop (ef_6 m o0 p1) k
  have pre1 : Lead p e below G (s₁.setTop (mkF m 1 #[.val (.ref o0), .val (.int p1), .unset] [(.ref o0)])) := fun t k => by
    refine pre0 t ?_
    show Steps p.tables e below (s₁.setTop (mkF m 0 #[.val (.ref o0), .val (.int p1), .unset] [])) _
    refine XS.aloadN X0.here hx rfl (hb hby d6_0) rfl rfl ?_
    show Steps p.tables e below (s₁.setTop (mkF m 1 #[.val (.ref o0), .val (.int p1), .unset] [(.ref o0)])) _
    exact k
  obtain ⟨T2, X2, e2, st2⟩ := getF X0 hx hZ hown (host := "") (Or.inl (hw _ (List.mem_of_getElem? (i := 37) rfl))) Via.refl e0 P0_F (g := (mkF m 1 #[.val (.ref o0), .val (.int p1), .unset] [(.ref o0)])) rfl rfl (hb hby d6_1)
  have pre2 : Lead p e below G (T2.setTop (mkF m 4 #[.val (.ref o0), .val (.int p1), .unset] [(.int fi)])) := fun t k => pre1 t (st2 _ k)
  have pre3 : Lead p e below G (T2.setTop (mkF m 9 #[.val (.ref o0), .val (.int p1), .val (.int (fi + p1))] [(.ref o0), (.int (fi + p1))])) := fun t k => by
    refine pre2 t ?_
    show Steps p.tables e below (T2.setTop (mkF m 4 #[.val (.ref o0), .val (.int p1), .unset] [(.int fi)])) _
    refine XS.iloadN X2.here hx rfl (hb hby d6_4) rfl ?_
    show Steps p.tables e below (T2.setTop (mkF m 5 #[.val (.ref o0), .val (.int p1), .unset] [(.int p1), (.int fi)])) _
    refine XS.iadd X2.here hx rfl (hb hby d6_5) rfl ?_
    show Steps p.tables e below (T2.setTop (mkF m 6 #[.val (.ref o0), .val (.int p1), .unset] [(.int (fi + p1))])) _
    refine XS.istoreN X2.here hx rfl (hb hby d6_6) rfl (l' := #[.val (.ref o0), .val (.int p1), .val (.int (fi + p1))]) rfl ?_
    show Steps p.tables e below (T2.setTop (mkF m 7 #[.val (.ref o0), .val (.int p1), .val (.int (fi + p1))] [])) _
    refine XS.iloadN X2.here hx rfl (hb hby d6_7) rfl ?_
    show Steps p.tables e below (T2.setTop (mkF m 8 #[.val (.ref o0), .val (.int p1), .val (.int (fi + p1))] [(.int (fi + p1))])) _
    refine XS.aloadN X2.here hx rfl (hb hby d6_8) rfl rfl ?_
    show Steps p.tables e below (T2.setTop (mkF m 9 #[.val (.ref o0), .val (.int p1), .val (.int (fi + p1))] [(.ref o0), (.int (fi + p1))])) _
    exact k
  obtain ⟨T4, X4, e4, st4⟩ := getF X2 hx hZ hown (host := "") (Or.inl (hw _ (List.mem_of_getElem? (i := 16) rfl))) Via.refl e2 P1_F (g := (mkF m 9 #[.val (.ref o0), .val (.int p1), .val (.int (fi + p1))] [(.ref o0), (.int (fi + p1))])) rfl rfl (hb hby d6_9)
  have pre4 : Lead p e below G (T4.setTop (mkF m 12 #[.val (.ref o0), .val (.int p1), .val (.int (fi + p1))] [(.ref ta), (.int (fi + p1))])) := fun t k => pre3 t (st4 _ k)
  obtain ⟨cl5, Ar5, len5⟩ := P2_V.len
  have st5 := X4.arraylength hx (by rw [e4]; exact Ar5.1) (State.isArrayOf_alike hZ.alike Ar5.2.1) (g := (mkF m 12 #[.val (.ref o0), .val (.int p1), .val (.int (fi + p1))] [(.ref ta), (.int (fi + p1))])) rfl rfl (hb hby d6_12)
  rw [len5] at st5
  have pre5 : Lead p e below G (T4.setTop (mkF m 13 #[.val (.ref o0), .val (.int p1), .val (.int (fi + p1))] [(.int nl), (.int (fi + p1))])) := fun t k => pre4 t (st5 _ k)
  by_cases hs13_7 : (fi + p1) < nl
  · obtain ⟨fs, hr, hrun, hended, hW, hsame⟩ := X4.leave (v := some (.int (fi + p1))) (fun h => by rw [Bd.returns] at h; cases h)
    subst hG
    refine ⟨_, _, pre5 _ ?_, hrun, hended, _, _, rfl, ?_, ⟨_, rfl⟩, hW, hsame.mono (by decide) (by decide)⟩
    · show Steps p.tables e below (T4.setTop (mkF m 13 #[.val (.ref o0), .val (.int p1), .val (.int (fi + p1))] [(.int nl), (.int (fi + p1))])) _
      refine XS.icmpNo X4.here hx rfl (hb hby d6_13) rfl (tlt hs13_7).2.1 ?_
      show Steps p.tables e below (T4.setTop (mkF m 16 #[.val (.ref o0), .val (.int p1), .val (.int (fi + p1))] [])) _
      refine XS.iloadN X4.here hx rfl (hb hby d6_16) rfl ?_
      show Steps p.tables e below (T4.setTop (mkF m 17 #[.val (.ref o0), .val (.int p1), .val (.int (fi + p1))] [(.int (fi + p1))])) _
      refine XS.goto X4.here hx rfl (pc0 := 17) (pc' := 27) rfl (hb hby d6_17) (by decide) (by decide) ?_
      show Steps p.tables e below (T4.setTop (mkF m 27 #[.val (.ref o0), .val (.int p1), .val (.int (fi + p1))] [(.int (fi + p1))])) _
      exact retI X4 hx Bd.returns (hb hby d6_27) hr
    · show Q6 Z o0 p1 fi ta nl gt h0 n0 _ T4.heap _
      rw [e4]
      exact ⟨congrArg (fun z => some (Value.int z)) (show (fi + p1) = (if (fi + p1) < nl then (fi + p1) else ((fi + p1) - nl)) from (if_pos hs13_7).symm), N0, rfl⟩
  · have pre8 : Lead p e below G (T4.setTop (mkF m 22 #[.val (.ref o0), .val (.int p1), .val (.int (fi + p1))] [(.ref o0), (.int (fi + p1))])) := fun t k => by
      refine pre5 t ?_
      show Steps p.tables e below (T4.setTop (mkF m 13 #[.val (.ref o0), .val (.int p1), .val (.int (fi + p1))] [(.int nl), (.int (fi + p1))])) _
      refine XS.icmpYes X4.here hx rfl (pc0 := 13) (pc' := 20) rfl (hb hby d6_13) rfl (flt hs13_7).2.1 (by decide) (by decide) ?_
      show Steps p.tables e below (T4.setTop (mkF m 20 #[.val (.ref o0), .val (.int p1), .val (.int (fi + p1))] [])) _
      refine XS.iloadN X4.here hx rfl (hb hby d6_20) rfl ?_
      show Steps p.tables e below (T4.setTop (mkF m 21 #[.val (.ref o0), .val (.int p1), .val (.int (fi + p1))] [(.int (fi + p1))])) _
      refine XS.aloadN X4.here hx rfl (hb hby d6_21) rfl rfl ?_
      show Steps p.tables e below (T4.setTop (mkF m 22 #[.val (.ref o0), .val (.int p1), .val (.int (fi + p1))] [(.ref o0), (.int (fi + p1))])) _
      exact k
    obtain ⟨T9, X9, e9, st9⟩ := getF X4 hx hZ hown (host := "") (Or.inl (hw _ (List.mem_of_getElem? (i := 16) rfl))) Via.refl e4 P1_F (g := (mkF m 22 #[.val (.ref o0), .val (.int p1), .val (.int (fi + p1))] [(.ref o0), (.int (fi + p1))])) rfl rfl (hb hby d6_22)
    have pre9 : Lead p e below G (T9.setTop (mkF m 25 #[.val (.ref o0), .val (.int p1), .val (.int (fi + p1))] [(.ref ta), (.int (fi + p1))])) := fun t k => pre8 t (st9 _ k)
    obtain ⟨cl10, Ar10, len10⟩ := P2_V.len
    have st10 := X9.arraylength hx (by rw [e9]; exact Ar10.1) (State.isArrayOf_alike hZ.alike Ar10.2.1) (g := (mkF m 25 #[.val (.ref o0), .val (.int p1), .val (.int (fi + p1))] [(.ref ta), (.int (fi + p1))])) rfl rfl (hb hby d6_25)
    rw [len10] at st10
    have pre10 : Lead p e below G (T9.setTop (mkF m 26 #[.val (.ref o0), .val (.int p1), .val (.int (fi + p1))] [(.int nl), (.int (fi + p1))])) := fun t k => pre9 t (st10 _ k)
    obtain ⟨fs, hr, hrun, hended, hW, hsame⟩ := X9.leave (v := some (.int ((fi + p1) - nl))) (fun h => by rw [Bd.returns] at h; cases h)
    subst hG
    refine ⟨_, _, pre10 _ ?_, hrun, hended, _, _, rfl, ?_, ⟨_, rfl⟩, hW, hsame.mono (by decide) (by decide)⟩
    · show Steps p.tables e below (T9.setTop (mkF m 26 #[.val (.ref o0), .val (.int p1), .val (.int (fi + p1))] [(.int nl), (.int (fi + p1))])) _
      refine XS.isub X9.here hx rfl (hb hby d6_26) rfl ?_
      show Steps p.tables e below (T9.setTop (mkF m 27 #[.val (.ref o0), .val (.int p1), .val (.int (fi + p1))] [(.int ((fi + p1) - nl))])) _
      exact retI X9 hx Bd.returns (hb hby d6_27) hr
    · show Q6 Z o0 p1 fi ta nl gt h0 n0 _ T9.heap _
      rw [e9]
      exact ⟨congrArg (fun z => some (Value.int z)) (show ((fi + p1) - nl) = (if (fi + p1) < nl then (fi + p1) else ((fi + p1) - nl)) from (if_neg hs13_7).symm), N0, rfl⟩
theorem d2_0 : decode prog_21_method_1_code 0 = .ok (.aload_n 0, 1) := by decide +kernel
theorem d2_1 : decode prog_21_method_1_code 1 = .ok (.invokespecial 1, 3) := by decide +kernel
theorem d2_4 : decode prog_21_method_1_code 4 = .ok (.aload_n 0, 1) := by decide +kernel
theorem d2_5 : decode prog_21_method_1_code 5 = .ok (.iconst 1, 1) := by decide +kernel
theorem d2_6 : decode prog_21_method_1_code 6 = .ok (.newarray .long, 2) := by decide +kernel
theorem d2_8 : decode prog_21_method_1_code 8 = .ok (.putfield 7, 3) := by decide +kernel
theorem d2_11 : decode prog_21_method_1_code 11 = .ok (.aload_n 0, 1) := by decide +kernel
theorem d2_12 : decode prog_21_method_1_code 12 = .ok (.iconst 1, 1) := by decide +kernel
theorem d2_13 : decode prog_21_method_1_code 13 = .ok (.newarray .long, 2) := by decide +kernel
theorem d2_15 : decode prog_21_method_1_code 15 = .ok (.putfield 13, 3) := by decide +kernel
theorem d2_18 : decode prog_21_method_1_code 18 = .ok (.return_, 1) := by decide +kernel
theorem ef_2 (m : MethodId) (o0 : Addr) : entryFrame m #[(.ref o0)] 1 = mkF m 0 #[.val (.ref o0)] [] := by first | (simp [entryFrame, mkF, argsToLocals, Value.category]; done) | rfl
def Q2 (Z : State) (o0 : Addr)  (h0 : Heap) (n0 : Nat) (v : Option Value) (h : Heap) (L : List Loc) : Prop := ∃ n1 : Addr, ∃ n2 : Addr, v = none ∧ Fr n0 L ∧ Keep h0 h [o0] ∧ Exa Z h o0 "com/example/lean_throttle/leanthrottle/TimeRing" ∧ Fld Z h o0 "com/example/lean_throttle/leanthrottle/TimeRing" "times" "[J" (.ref n1) ∧ Fld Z h o0 "com/example/lean_throttle/leanthrottle/TimeRing" "totals" "[J" (.ref n2) ∧ Fld Z h o0 "com/example/lean_throttle/leanthrottle/TimeRing" "first" "I" (.int (0 : Int32)) ∧ Fld Z h o0 "com/example/lean_throttle/leanthrottle/TimeRing" "size" "I" (.int (0 : Int32)) ∧ Fld Z h o0 "com/example/lean_throttle/leanthrottle/TimeRing" "totalBefore" "J" (.long (0 : Int64)) ∧ h0.size ≤ n1 ∧ h0.size ≤ n2 ∧ n1 ≠ n2 ∧ JV Value.long Z h n1 .long (1 : Int32) (fun _ => (0 : Int64)) ∧ JV Value.long Z h n2 .long (1 : Int32) (fun _ => (0 : Int64))
set_option maxRecDepth 65536 in
set_option maxHeartbeats 40000000 in
theorem rm2 (l : Launch) (Z : State) (a0 : Array Value) (hw : ∀ d ∈ tables_1, d.before a0 Z = true) (ws : List Jvm.Cond) (o0 : Addr)  (h0 : Heap) (n0 : Nat) (Z0 : n0 ≤ h0.size) (P0_E : Exa Z h0 o0 "com/example/lean_throttle/leanthrottle/TimeRing") (P1_G : n0 ≤ o0) (P2_F : Fld Z h0 o0 "com/example/lean_throttle/leanthrottle/TimeRing" "times" "[J" .null) (P3_F : Fld Z h0 o0 "com/example/lean_throttle/leanthrottle/TimeRing" "totals" "[J" .null) (P4_F : Fld Z h0 o0 "com/example/lean_throttle/leanthrottle/TimeRing" "first" "I" (.int (0 : Int32))) (P5_F : Fld Z h0 o0 "com/example/lean_throttle/leanthrottle/TimeRing" "size" "I" (.int (0 : Int32))) (P6_F : Fld Z h0 o0 "com/example/lean_throttle/leanthrottle/TimeRing" "totalBefore" "J" (.long (0 : Int64))) :
    MetFree l (⟨"com/example/lean_throttle/leanthrottle/TimeRing", "<init>", "()V"⟩ : MethodName) (head1 (Jvm.Cond.code (⟨"com/example/lean_throttle/leanthrottle/TimeRing", "<init>", "()V"⟩ : MethodName) prog_21_method_1_code 1 none :: ws) ({ frames := 1, cells := 2, slots := 2, locals := 12 } : Room)) (fun a U => a = #[(.ref o0)] ∧ Z.Warmed39 U.vm ∧ U.heap = h0) (fun _ _ _ _ _ => True) (fun _ U o U' => ∃ v L, o = .returned v ∧ Q2 Z o0 h0 n0 v U'.heap L ∧ FrameEnd U o U' L ({ frames := 1, cells := 2, slots := 2, locals := 12 } : Room).cells ({ frames := 1, cells := 2, slots := 2, locals := 12 } : Room).slots) := by
  refine MetFree.of_bodySF (plainFor_of_name pn_com_example_lean_throttle_leanthrottle_TimeRing) hisR ?_
  intro p e s m args below meth c s₁ Bd hml0 hP hK
  obtain ⟨rfl, hZ, hh⟩ := hP
  have hx := Bd.exec
  have hby := Bd.bytes
  have hml : c.maxLocals = 1 := hml0
  have hown : s.vm.findClass "com/example/lean_throttle/leanthrottle/TimeRing" = some m.cls := findClass_of_methodNamed Bd.named
  have hnm := (name_of_methodNamed Bd.named Bd.method).1
  have X0 : Stand p l e ({ frames := 1, cells := 2, slots := 2, locals := 12 } : Room) s m #[(.ref o0)] below meth c s₁ [] 0 0 := Stand.of_body Bd
  have e0 : s₁.heap = h0 := by rw [← hh, Bd.state]; rfl
  have N0 := Fr.nil n0
  have K0 : Keep h0 h0 [o0] := Keep.refl _ _
  obtain ⟨G, hG⟩ : ∃ z, z = s₁.setTop (entryFrame m #[(.ref o0)] 1) := ⟨_, rfl⟩
  have pre0 : Lead p e below G (s₁.setTop (mkF m 0 #[.val (.ref o0)] [])) := fun t k => by rw [hG]; exact castTop (ef_2 m o0) k
  have pre1 : Lead p e below G (s₁.setTop (mkF m 1 #[.val (.ref o0)] [(.ref o0)])) := fun t k => by
    refine pre0 t ?_
    show Steps p.tables e below (s₁.setTop (mkF m 0 #[.val (.ref o0)] [])) _
    refine XS.aloadN X0.here hx rfl (hb hby d2_0) rfl rfl ?_
    show Steps p.tables e below (s₁.setTop (mkF m 1 #[.val (.ref o0)] [(.ref o0)])) _
    exact k
  obtain ⟨T2, X2, e2, st2⟩ := initO X0 hx hZ hown (hw _ (List.mem_of_getElem? (i := 12) rfl)) (hw _ (List.mem_of_getElem? (i := 13) rfl)) (hw _ (List.mem_of_getElem? (i := 14) rfl)) e0 (g := (mkF m 1 #[.val (.ref o0)] [(.ref o0)])) rfl (by rw [hml]; rfl) rfl (hb hby d2_1) (by decide) (W := 0) (by show 2 * 0 + _ ≤ _; exact Nat.le_of_eq rfl) (by decide)
  have pre2 : Lead p e below G (T2.setTop (mkF m 4 #[.val (.ref o0)] [])) := fun t k => pre1 t (st2 _ k)
  have pre3 : Lead p e below G (T2.setTop (mkF m 6 #[.val (.ref o0)] [(.int (1 : Int32)), (.ref o0)])) := fun t k => by
    refine pre2 t ?_
    show Steps p.tables e below (T2.setTop (mkF m 4 #[.val (.ref o0)] [])) _
    refine XS.aloadN X2.here hx rfl (hb hby d2_4) rfl rfl ?_
    show Steps p.tables e below (T2.setTop (mkF m 5 #[.val (.ref o0)] [(.ref o0)])) _
    refine XS.iconst X2.here hx rfl (hb hby d2_5) ?_
    show Steps p.tables e below (T2.setTop (mkF m 6 #[.val (.ref o0)] [(.int (1 : Int32)), (.ref o0)])) _
    exact k
  obtain ⟨T4, h4, k4, X4, e4, E4, A4, st4⟩ := newP X2 hx hZ (hw _ (List.mem_of_getElem? (i := 15) rfl)) e2 (g := (mkF m 6 #[.val (.ref o0)] [(.int (1 : Int32)), (.ref o0)])) rfl (hb hby d2_6) rfl (by decide) (cap := 1) (by decide) (by decide) (by decide) (by decide)
  obtain ⟨b4, g4⟩ : ∃ z, z = h0.size := ⟨_, rfl⟩
  rw [← g4] at A4 st4
  have ne4_o0 : o0 ≠ b4 := Nat.ne_of_lt (Nat.lt_of_lt_of_le P0_E.lt (Nat.le_of_eq g4.symm))
  have sz4 : h0.size ≤ b4 := Nat.le_trans K0.1 (Nat.le_of_eq g4.symm)
  have ge4 : n0 ≤ b4 := Nat.le_trans Z0 sz4
  have K4 : Keep h0 h4 [o0] := K0.ext E4
  have V4 : JV Value.long Z h4 b4 .long (1 : Int32) (fun _ => (0 : Int64)) := JV.new A4 (by decide) _ rfl
  have pre4 : Lead p e below G (T4.setTop (mkF m 8 #[.val (.ref o0)] [(.ref b4), (.ref o0)])) := fun t k => pre3 t (st4 _ k)
  have f6 : Fld Z h4 o0 "com/example/lean_throttle/leanthrottle/TimeRing" "times" "[J" .null := (P2_F.ext E4)
  have f7 : Exa Z h4 o0 "com/example/lean_throttle/leanthrottle/TimeRing" := (P0_E.ext E4)
  obtain ⟨T5, h5, X5, e5, W5, st5⟩ := putF X4 hx hZ hown (host := "") (Or.inl (hw _ (List.mem_of_getElem? (i := 16) rfl))) Via.refl e4 f6 f7 (Or.inl (hw _ (List.mem_of_getElem? (i := 17) rfl))) (hw _ (List.mem_of_getElem? (i := 7) rfl)) (ty := (.array .long)) (by decide) rfl rfl (g := (mkF m 8 #[.val (.ref o0)] [(.ref b4), (.ref o0)])) rfl rfl (hb hby d2_8)
  have N5 := Fr.snoc X5 N0 P1_G
  have K5 : Keep h0 h5 [o0] := K4.wr W5 (Or.inl (List.mem_of_getElem? (i := 0) rfl))
  obtain ⟨M5, Y5, N5⟩ : ∃ M, Stand p l e ({ frames := 1, cells := 2, slots := 2, locals := 12 } : Room) s m #[(.ref o0)] below meth c T5 M 1 1 ∧ Fr n0 M := ⟨_, X5, N5⟩
  have Fw5 : Fld Z h5 o0 "com/example/lean_throttle/leanthrottle/TimeRing" "times" "[J" (.ref b4) := f6.same W5
  have pre5 : Lead p e below G (T5.setTop (mkF m 11 #[.val (.ref o0)] [])) := fun t k => pre4 t (st5 _ k)
  have pre8 : Lead p e below G (T5.setTop (mkF m 13 #[.val (.ref o0)] [(.int (1 : Int32)), (.ref o0)])) := fun t k => by
    refine pre5 t ?_
    show Steps p.tables e below (T5.setTop (mkF m 11 #[.val (.ref o0)] [])) _
    refine XS.aloadN Y5.here hx rfl (hb hby d2_11) rfl rfl ?_
    show Steps p.tables e below (T5.setTop (mkF m 12 #[.val (.ref o0)] [(.ref o0)])) _
    refine XS.iconst Y5.here hx rfl (hb hby d2_12) ?_
    show Steps p.tables e below (T5.setTop (mkF m 13 #[.val (.ref o0)] [(.int (1 : Int32)), (.ref o0)])) _
    exact k
  obtain ⟨T9, h9, k9, X9, e9, E9, A9, st9⟩ := newP Y5 hx hZ (hw _ (List.mem_of_getElem? (i := 15) rfl)) e5 (g := (mkF m 13 #[.val (.ref o0)] [(.int (1 : Int32)), (.ref o0)])) rfl (hb hby d2_13) rfl (by decide) (cap := 1) (by decide) (by decide) (by decide) (by decide)
  obtain ⟨b9, g9⟩ : ∃ z, z = h5.size := ⟨_, rfl⟩
  rw [← g9] at A9 st9
  have f10 : Exa Z h5 o0 "com/example/lean_throttle/leanthrottle/TimeRing" := (f7.wr W5)
  have ne9_o0 : o0 ≠ b9 := Nat.ne_of_lt (Nat.lt_of_lt_of_le f10.lt (Nat.le_of_eq g9.symm))
  have f11 : JV Value.long Z h5 b4 .long (1 : Int32) (fun _ => (0 : Int64)) := (V4.other W5 (Ne.symm ne4_o0))
  have ne9_b4 : b4 ≠ b9 := Nat.ne_of_lt (Nat.lt_of_lt_of_le f11.lt (Nat.le_of_eq g9.symm))
  have sz9 : h0.size ≤ b9 := Nat.le_trans K5.1 (Nat.le_of_eq g9.symm)
  have ge9 : n0 ≤ b9 := Nat.le_trans Z0 sz9
  have K9 : Keep h0 h9 [o0] := K5.ext E9
  have V9 : JV Value.long Z h9 b9 .long (1 : Int32) (fun _ => (0 : Int64)) := JV.new A9 (by decide) _ rfl
  have pre9 : Lead p e below G (T9.setTop (mkF m 15 #[.val (.ref o0)] [(.ref b9), (.ref o0)])) := fun t k => pre8 t (st9 _ k)
  have f13 : Fld Z h9 o0 "com/example/lean_throttle/leanthrottle/TimeRing" "totals" "[J" .null := (((P3_F.ext E4).other W5 (Or.inr (slot_ne (Or.inl (hw _ (List.mem_of_getElem? (i := 19) rfl))) (Or.inl (hw _ (List.mem_of_getElem? (i := 17) rfl))) (by decide) (t := (.array .long)) (t' := (.array .long)) (by decide) (by decide)))).ext E9)
  have f14 : Exa Z h9 o0 "com/example/lean_throttle/leanthrottle/TimeRing" := (f10.ext E9)
  obtain ⟨T12, h12, X12, e12, W12, st12⟩ := putF X9 hx hZ hown (host := "") (Or.inl (hw _ (List.mem_of_getElem? (i := 18) rfl))) Via.refl e9 f13 f14 (Or.inl (hw _ (List.mem_of_getElem? (i := 19) rfl))) (hw _ (List.mem_of_getElem? (i := 7) rfl)) (ty := (.array .long)) (by decide) rfl rfl (g := (mkF m 15 #[.val (.ref o0)] [(.ref b9), (.ref o0)])) rfl rfl (hb hby d2_15)
  have N12 := Fr.snoc X12 N5 P1_G
  have K12 : Keep h0 h12 [o0] := K9.wr W12 (Or.inl (List.mem_of_getElem? (i := 0) rfl))
  obtain ⟨M12, Y12, N12⟩ : ∃ M, Stand p l e ({ frames := 1, cells := 2, slots := 2, locals := 12 } : Room) s m #[(.ref o0)] below meth c T12 M 2 2 ∧ Fr n0 M := ⟨_, X12, N12⟩
  have Fw12 : Fld Z h12 o0 "com/example/lean_throttle/leanthrottle/TimeRing" "totals" "[J" (.ref b9) := f13.same W12
  have pre12 : Lead p e below G (T12.setTop (mkF m 18 #[.val (.ref o0)] [])) := fun t k => pre9 t (st12 _ k)
  obtain ⟨fs, hr, hrun, hended, hW, hsame⟩ := Y12.leave (v := none) (fun _ => rfl)
  subst hG
  refine ⟨_, _, pre12 _ ?_, hrun, hended, _, _, rfl, ?_, ⟨_, rfl⟩, hW, hsame.mono (by decide) (by decide)⟩
  · show Steps p.tables e below (T12.setTop (mkF m 18 #[.val (.ref o0)] [])) _
    exact Y12.returnOut hx Bd.returns (hb hby d2_18) hr
  · show Q2 Z o0 h0 n0 _ T12.heap _
    rw [e12]
    have f15 : Exa Z h12 o0 "com/example/lean_throttle/leanthrottle/TimeRing" := (f14.wr W12)
    have f16 : Fld Z h12 o0 "com/example/lean_throttle/leanthrottle/TimeRing" "times" "[J" (.ref b4) := ((Fw5.ext E9).other W12 (Or.inr (slot_ne (Or.inl (hw _ (List.mem_of_getElem? (i := 17) rfl))) (Or.inl (hw _ (List.mem_of_getElem? (i := 19) rfl))) (by decide) (t := (.array .long)) (t' := (.array .long)) (by decide) (by decide))))
    have f17 : Fld Z h12 o0 "com/example/lean_throttle/leanthrottle/TimeRing" "first" "I" (.int (0 : Int32)) := ((((P4_F.ext E4).other W5 (Or.inr (slot_ne (Or.inl (hw _ (List.mem_of_getElem? (i := 38) rfl))) (Or.inl (hw _ (List.mem_of_getElem? (i := 17) rfl))) (by decide) (t := .int) (t' := (.array .long)) (by decide) (by decide)))).ext E9).other W12 (Or.inr (slot_ne (Or.inl (hw _ (List.mem_of_getElem? (i := 38) rfl))) (Or.inl (hw _ (List.mem_of_getElem? (i := 19) rfl))) (by decide) (t := .int) (t' := (.array .long)) (by decide) (by decide))))
    have f18 : Fld Z h12 o0 "com/example/lean_throttle/leanthrottle/TimeRing" "size" "I" (.int (0 : Int32)) := ((((P5_F.ext E4).other W5 (Or.inr (slot_ne (Or.inl (hw _ (List.mem_of_getElem? (i := 30) rfl))) (Or.inl (hw _ (List.mem_of_getElem? (i := 17) rfl))) (by decide) (t := .int) (t' := (.array .long)) (by decide) (by decide)))).ext E9).other W12 (Or.inr (slot_ne (Or.inl (hw _ (List.mem_of_getElem? (i := 30) rfl))) (Or.inl (hw _ (List.mem_of_getElem? (i := 19) rfl))) (by decide) (t := .int) (t' := (.array .long)) (by decide) (by decide))))
    have f19 : Fld Z h12 o0 "com/example/lean_throttle/leanthrottle/TimeRing" "totalBefore" "J" (.long (0 : Int64)) := ((((P6_F.ext E4).other W5 (Or.inr (slot_ne (Or.inl (hw _ (List.mem_of_getElem? (i := 32) rfl))) (Or.inl (hw _ (List.mem_of_getElem? (i := 17) rfl))) (by decide) (t := .long) (t' := (.array .long)) (by decide) (by decide)))).ext E9).other W12 (Or.inr (slot_ne (Or.inl (hw _ (List.mem_of_getElem? (i := 32) rfl))) (Or.inl (hw _ (List.mem_of_getElem? (i := 19) rfl))) (by decide) (t := .long) (t' := (.array .long)) (by decide) (by decide))))
    have f20 : JV Value.long Z h12 b4 .long (1 : Int32) (fun _ => (0 : Int64)) := ((f11.ext E9).other W12 (Ne.symm ne4_o0))
    have f21 : JV Value.long Z h12 b9 .long (1 : Int32) (fun _ => (0 : Int64)) := (V9.other W12 (Ne.symm ne9_o0))
    exact ⟨b4, b9, rfl, N12, K12, f15, f16, Fw12, f17, f18, f19, sz4, sz9, ne9_b4, f20, f21⟩
theorem pd__28_JJ_29_J : parseMethodDescriptor "(JJ)J" = some ⟨[.long, .long], some .long⟩ := by decide +kernel
theorem pd__28__29_V : parseMethodDescriptor "()V" = some ⟨[], none⟩ := by decide +kernel
theorem d5_0 : decode prog_21_method_11_code 0 = .ok (.aload_n 0, 1) := by decide +kernel
theorem d5_1 : decode prog_21_method_11_code 1 = .ok (.getfield 16, 3) := by decide +kernel
theorem d5_4 : decode prog_21_method_11_code 4 = .ok (.ifCond .le 21, 3) := by decide +kernel
theorem d5_25 : decode prog_21_method_11_code 25 = .ok (.aload_n 0, 1) := by decide +kernel
theorem d5_26 : decode prog_21_method_11_code 26 = .ok (.getfield 31, 3) := by decide +kernel
theorem d5_29 : decode prog_21_method_11_code 29 = .ok (.lreturn, 1) := by decide +kernel
def F5_0_0_1 (bf : Int64) : Int64 := bf
theorem ef_5_0_0_1 (m : MethodId) (o0 : Addr) : entryFrame m #[(.ref o0)] 1 = mkF m 0 #[.val (.ref o0)] [] := by first | (simp [entryFrame, mkF, argsToLocals, Value.category]; done) | rfl
def Q5_0_0_1 (Z : State) (o0 : Addr) (ta : Addr) (tA : Addr) (bf : Int64) (gt : Nat → Int64) (gT : Nat → Int64) (h0 : Heap) (n0 : Nat) (v : Option Value) (h : Heap) (L : List Loc) : Prop := v = some (.long (bf)) ∧ Fr n0 L ∧ h = h0
set_option maxRecDepth 65536 in
set_option maxHeartbeats 40000000 in
theorem rm5_0_0_1 (l : Launch) (Z : State) (a0 : Array Value) (hw : ∀ d ∈ tables_1, d.before a0 Z = true) (ws : List Jvm.Cond) (o0 : Addr) (ta : Addr) (tA : Addr) (bf : Int64) (gt : Nat → Int64) (gT : Nat → Int64) (h0 : Heap) (n0 : Nat) (Z0 : n0 ≤ h0.size) (P0_E : Exa Z h0 o0 "com/example/lean_throttle/leanthrottle/TimeRing") (P1_F : Fld Z h0 o0 "com/example/lean_throttle/leanthrottle/TimeRing" "times" "[J" (.ref ta)) (P2_F : Fld Z h0 o0 "com/example/lean_throttle/leanthrottle/TimeRing" "totals" "[J" (.ref tA)) (P3_F : Fld Z h0 o0 "com/example/lean_throttle/leanthrottle/TimeRing" "first" "I" (.int (0 : Int32))) (P4_F : Fld Z h0 o0 "com/example/lean_throttle/leanthrottle/TimeRing" "size" "I" (.int (0 : Int32))) (P5_F : Fld Z h0 o0 "com/example/lean_throttle/leanthrottle/TimeRing" "totalBefore" "J" (.long bf)) (P6_V : JV Value.long Z h0 ta .long (1 : Int32) gt) (P7_V : JV Value.long Z h0 tA .long (1 : Int32) gT) (P8_NE : o0 ≠ ta) (P9_NE : o0 ≠ tA) (P10_NE : ta ≠ tA) :
    MetFree l (⟨"com/example/lean_throttle/leanthrottle/TimeRing", "newestTotal", "()J"⟩ : MethodName) (head1 (Jvm.Cond.code (⟨"com/example/lean_throttle/leanthrottle/TimeRing", "newestTotal", "()J"⟩ : MethodName) prog_21_method_11_code 1 (some .long) :: ws) ({ frames := 0, cells := 0, slots := 0, locals := 0 } : Room)) (fun a U => a = #[(.ref o0)] ∧ Z.Warmed39 U.vm ∧ U.heap = h0) (fun _ _ _ _ _ => True) (fun _ U o U' => ∃ v L, o = .returned v ∧ Q5_0_0_1 Z o0 ta tA bf gt gT h0 n0 v U'.heap L ∧ FrameEnd U o U' L ({ frames := 0, cells := 0, slots := 0, locals := 0 } : Room).cells ({ frames := 0, cells := 0, slots := 0, locals := 0 } : Room).slots) := by
  refine MetFree.of_bodySF (plainFor_of_name pn_com_example_lean_throttle_leanthrottle_TimeRing) hisR ?_
  intro p e s m args below meth c s₁ Bd hml0 hP hK
  obtain ⟨rfl, hZ, hh⟩ := hP
  have hx := Bd.exec
  have hby := Bd.bytes
  have hml : c.maxLocals = 1 := hml0
  have hown : s.vm.findClass "com/example/lean_throttle/leanthrottle/TimeRing" = some m.cls := findClass_of_methodNamed Bd.named
  have hnm := (name_of_methodNamed Bd.named Bd.method).1
  have X0 : Stand p l e ({ frames := 0, cells := 0, slots := 0, locals := 0 } : Room) s m #[(.ref o0)] below meth c s₁ [] 0 0 := Stand.of_body Bd
  have e0 : s₁.heap = h0 := by rw [← hh, Bd.state]; rfl
  have N0 := Fr.nil n0
  have K0 : Keep h0 h0 [] := Keep.refl _ _
  obtain ⟨G, hG⟩ : ∃ z, z = s₁.setTop (entryFrame m #[(.ref o0)] 1) := ⟨_, rfl⟩
  have pre0 : Lead p e below G (s₁.setTop (mkF m 0 #[.val (.ref o0)] [])) := fun t k => by rw [hG]; exact castTop (ef_5_0_0_1 m o0) k
  have pre1 : Lead p e below G (s₁.setTop (mkF m 1 #[.val (.ref o0)] [(.ref o0)])) := fun t k => by
    refine pre0 t ?_
    show Steps p.tables e below (s₁.setTop (mkF m 0 #[.val (.ref o0)] [])) _
    refine XS.aloadN X0.here hx rfl (hb hby d5_0) rfl rfl ?_
    show Steps p.tables e below (s₁.setTop (mkF m 1 #[.val (.ref o0)] [(.ref o0)])) _
    exact k
  obtain ⟨T2, X2, e2, st2⟩ := getF X0 hx hZ hown (host := "") (Or.inl (hw _ (List.mem_of_getElem? (i := 29) rfl))) Via.refl e0 P4_F (g := (mkF m 1 #[.val (.ref o0)] [(.ref o0)])) rfl rfl (hb hby d5_1)
  have pre2 : Lead p e below G (T2.setTop (mkF m 4 #[.val (.ref o0)] [(.int (0 : Int32))])) := fun t k => pre1 t (st2 _ k)
  have hf3 : ¬ ((0 : Int32) < (0 : Int32)) := (by decide)
  have pre4 : Lead p e below G (T2.setTop (mkF m 26 #[.val (.ref o0)] [(.ref o0)])) := fun t k => by
    refine pre2 t ?_
    show Steps p.tables e below (T2.setTop (mkF m 4 #[.val (.ref o0)] [(.int (0 : Int32))])) _
    refine XS.ifYes X2.here hx rfl (pc0 := 4) (pc' := 25) rfl (hb hby d5_4) rfl ((if0 _ _).trans (flt hf3).2.2.2) (by decide) (by decide) ?_
    show Steps p.tables e below (T2.setTop (mkF m 25 #[.val (.ref o0)] [])) _
    refine XS.aloadN X2.here hx rfl (hb hby d5_25) rfl rfl ?_
    show Steps p.tables e below (T2.setTop (mkF m 26 #[.val (.ref o0)] [(.ref o0)])) _
    exact k
  obtain ⟨T5, X5, e5, st5⟩ := getF X2 hx hZ hown (host := "") (Or.inl (hw _ (List.mem_of_getElem? (i := 31) rfl))) Via.refl e2 P5_F (g := (mkF m 26 #[.val (.ref o0)] [(.ref o0)])) rfl rfl (hb hby d5_26)
  have pre5 : Lead p e below G (T5.setTop (mkF m 29 #[.val (.ref o0)] [(.long bf)])) := fun t k => pre4 t (st5 _ k)
  obtain ⟨fs, hr, hrun, hended, hW, hsame⟩ := X5.leave (v := some (.long bf)) (fun h => by rw [Bd.returns] at h; cases h)
  subst hG
  refine ⟨_, _, pre5 _ ?_, hrun, hended, _, _, rfl, ?_, ⟨_, rfl⟩, hW, hsame.mono (by decide) (by decide)⟩
  · show Steps p.tables e below (T5.setTop (mkF m 29 #[.val (.ref o0)] [(.long bf)])) _
    exact retJ X5 hx Bd.returns (hb hby d5_29) hr
  · show Q5_0_0_1 Z o0 ta tA bf gt gT h0 n0 _ T5.heap _
    rw [e5]
    have hv_ : bf = F5_0_0_1 bf := by
      skip
      rfl
    exact ⟨congrArg (fun z => some (Value.long z)) hv_, N0, rfl⟩
theorem pd__28__29_J : parseMethodDescriptor "()J" = some ⟨[], some .long⟩ := by decide +kernel
theorem pd__28_I_29_I : parseMethodDescriptor "(I)I" = some ⟨[.int], some .int⟩ := by decide +kernel
theorem d4_0 : decode prog_21_method_10_code 0 = .ok (.aload_n 0, 1) := by decide +kernel
theorem d4_1 : decode prog_21_method_10_code 1 = .ok (.invokevirtual 27, 3) := by decide +kernel
theorem d4_4 : decode prog_21_method_10_code 4 = .ok (.lstore 6, 2) := by decide +kernel
theorem d4_6 : decode prog_21_method_10_code 6 = .ok (.aload_n 0, 1) := by decide +kernel
theorem d4_7 : decode prog_21_method_10_code 7 = .ok (.getfield 16, 3) := by decide +kernel
theorem d4_10 : decode prog_21_method_10_code 10 = .ok (.aload_n 0, 1) := by decide +kernel
theorem d4_11 : decode prog_21_method_10_code 11 = .ok (.getfield 7, 3) := by decide +kernel
theorem d4_14 : decode prog_21_method_10_code 14 = .ok (.arraylength, 1) := by decide +kernel
theorem d4_15 : decode prog_21_method_10_code 15 = .ok (.if_icmp .ne 63, 3) := by decide +kernel
theorem d4_78 : decode prog_21_method_10_code 78 = .ok (.aload_n 0, 1) := by decide +kernel
theorem d4_79 : decode prog_21_method_10_code 79 = .ok (.getfield 7, 3) := by decide +kernel
theorem d4_82 : decode prog_21_method_10_code 82 = .ok (.aload_n 0, 1) := by decide +kernel
theorem d4_83 : decode prog_21_method_10_code 83 = .ok (.aload_n 0, 1) := by decide +kernel
theorem d4_84 : decode prog_21_method_10_code 84 = .ok (.getfield 16, 3) := by decide +kernel
theorem d4_87 : decode prog_21_method_10_code 87 = .ok (.invokevirtual 23, 3) := by decide +kernel
theorem d4_90 : decode prog_21_method_10_code 90 = .ok (.lload_n 1, 1) := by decide +kernel
theorem d4_91 : decode prog_21_method_10_code 91 = .ok (.lastore, 1) := by decide +kernel
theorem d4_92 : decode prog_21_method_10_code 92 = .ok (.aload_n 0, 1) := by decide +kernel
theorem d4_93 : decode prog_21_method_10_code 93 = .ok (.getfield 13, 3) := by decide +kernel
theorem d4_96 : decode prog_21_method_10_code 96 = .ok (.aload_n 0, 1) := by decide +kernel
theorem d4_97 : decode prog_21_method_10_code 97 = .ok (.aload_n 0, 1) := by decide +kernel
theorem d4_98 : decode prog_21_method_10_code 98 = .ok (.getfield 16, 3) := by decide +kernel
theorem d4_101 : decode prog_21_method_10_code 101 = .ok (.invokevirtual 23, 3) := by decide +kernel
theorem d4_104 : decode prog_21_method_10_code 104 = .ok (.lload 6, 2) := by decide +kernel
theorem d4_106 : decode prog_21_method_10_code 106 = .ok (.lload_n 3, 1) := by decide +kernel
theorem d4_107 : decode prog_21_method_10_code 107 = .ok (.ladd, 1) := by decide +kernel
theorem d4_108 : decode prog_21_method_10_code 108 = .ok (.lastore, 1) := by decide +kernel
theorem d4_109 : decode prog_21_method_10_code 109 = .ok (.aload_n 0, 1) := by decide +kernel
theorem d4_110 : decode prog_21_method_10_code 110 = .ok (.dup, 1) := by decide +kernel
theorem d4_111 : decode prog_21_method_10_code 111 = .ok (.getfield 16, 3) := by decide +kernel
theorem d4_114 : decode prog_21_method_10_code 114 = .ok (.iconst 1, 1) := by decide +kernel
theorem d4_115 : decode prog_21_method_10_code 115 = .ok (.iadd, 1) := by decide +kernel
theorem d4_116 : decode prog_21_method_10_code 116 = .ok (.putfield 16, 3) := by decide +kernel
theorem d4_119 : decode prog_21_method_10_code 119 = .ok (.return_, 1) := by decide +kernel
theorem ef_4_0_0_1_2 (m : MethodId) (o0 : Addr) (q1 : Int64) (q2 : Int64) : entryFrame m #[(.ref o0), (.long q1), (.long q2), (.int (2 : Int32))] 11 = mkF m 0 #[.val (.ref o0), .val (.long q1), .second, .val (.long q2), .second, .val (.int (2 : Int32)), .unset, .unset, .unset, .unset, .unset] [] := by first | (simp [entryFrame, mkF, argsToLocals, Value.category]; done) | rfl
def Q4_0_0_1_2 (Z : State) (o0 : Addr) (q1 : Int64) (q2 : Int64) (ta : Addr) (tA : Addr) (bf : Int64) (gt : Nat → Int64) (gT : Nat → Int64) (h0 : Heap) (n0 : Nat) (v : Option Value) (h : Heap) (L : List Loc) : Prop := v = none ∧ Fr n0 L ∧ Keep h0 h [o0, ta, tA] ∧ Exa Z h o0 "com/example/lean_throttle/leanthrottle/TimeRing" ∧ Fld Z h o0 "com/example/lean_throttle/leanthrottle/TimeRing" "times" "[J" (.ref ta) ∧ Fld Z h o0 "com/example/lean_throttle/leanthrottle/TimeRing" "totals" "[J" (.ref tA) ∧ Fld Z h o0 "com/example/lean_throttle/leanthrottle/TimeRing" "first" "I" (.int (0 : Int32)) ∧ Fld Z h o0 "com/example/lean_throttle/leanthrottle/TimeRing" "size" "I" (.int (1 : Int32)) ∧ Fld Z h o0 "com/example/lean_throttle/leanthrottle/TimeRing" "totalBefore" "J" (.long bf) ∧ JV Value.long Z h ta .long (1 : Int32) (updF gt 0 q1) ∧ JV Value.long Z h tA .long (1 : Int32) (updF gT 0 ((bf) + q2))
set_option maxRecDepth 65536 in
set_option maxHeartbeats 40000000 in
theorem rm4_0_0_1_2 (l : Launch) (Z : State) (a0 : Array Value) (hw : ∀ d ∈ tables_1, d.before a0 Z = true) (ws : List Jvm.Cond) (o0 : Addr) (q1 : Int64) (q2 : Int64) (ta : Addr) (tA : Addr) (bf : Int64) (gt : Nat → Int64) (gT : Nat → Int64) (h0 : Heap) (n0 : Nat) (Z0 : n0 ≤ h0.size) (P0_E : Exa Z h0 o0 "com/example/lean_throttle/leanthrottle/TimeRing") (P1_F : Fld Z h0 o0 "com/example/lean_throttle/leanthrottle/TimeRing" "times" "[J" (.ref ta)) (P2_F : Fld Z h0 o0 "com/example/lean_throttle/leanthrottle/TimeRing" "totals" "[J" (.ref tA)) (P3_F : Fld Z h0 o0 "com/example/lean_throttle/leanthrottle/TimeRing" "first" "I" (.int (0 : Int32))) (P4_F : Fld Z h0 o0 "com/example/lean_throttle/leanthrottle/TimeRing" "size" "I" (.int (0 : Int32))) (P5_F : Fld Z h0 o0 "com/example/lean_throttle/leanthrottle/TimeRing" "totalBefore" "J" (.long bf)) (P6_V : JV Value.long Z h0 ta .long (1 : Int32) gt) (P7_V : JV Value.long Z h0 tA .long (1 : Int32) gT) (P8_NE : o0 ≠ ta) (P9_NE : o0 ≠ tA) (P10_NE : ta ≠ tA) (P11_G : n0 ≤ o0) (P12_G : n0 ≤ ta) (P13_G : n0 ≤ tA) :
    MetFree l (⟨"com/example/lean_throttle/leanthrottle/TimeRing", "add", "(JJI)V"⟩ : MethodName) (head1 (Jvm.Cond.code (⟨"com/example/lean_throttle/leanthrottle/TimeRing", "add", "(JJI)V"⟩ : MethodName) prog_21_method_10_code 11 none :: ws) ({ frames := 1, cells := 0, slots := 0, locals := 15 } : Room)) (fun a U => a = #[(.ref o0), (.long q1), (.long q2), (.int (2 : Int32))] ∧ Z.Warmed39 U.vm ∧ U.heap = h0) (fun _ _ _ _ _ => True) (fun _ U o U' => ∃ v L, o = .returned v ∧ Q4_0_0_1_2 Z o0 q1 q2 ta tA bf gt gT h0 n0 v U'.heap L ∧ FrameEnd U o U' L ({ frames := 1, cells := 0, slots := 0, locals := 15 } : Room).cells ({ frames := 1, cells := 0, slots := 0, locals := 15 } : Room).slots) := by
  refine MetFree.of_bodySF (plainFor_of_name pn_com_example_lean_throttle_leanthrottle_TimeRing) hisR ?_
  intro p e s m args below meth c s₁ Bd hml0 hP hK
  obtain ⟨rfl, hZ, hh⟩ := hP
  have hx := Bd.exec
  have hby := Bd.bytes
  have hml : c.maxLocals = 11 := hml0
  have hown : s.vm.findClass "com/example/lean_throttle/leanthrottle/TimeRing" = some m.cls := findClass_of_methodNamed Bd.named
  have hnm := (name_of_methodNamed Bd.named Bd.method).1
  have X0 : Stand p l e ({ frames := 1, cells := 0, slots := 0, locals := 15 } : Room) s m #[(.ref o0), (.long q1), (.long q2), (.int (2 : Int32))] below meth c s₁ [] 0 0 := Stand.of_body Bd
  have e0 : s₁.heap = h0 := by rw [← hh, Bd.state]; rfl
  have N0 := Fr.nil n0
  have K0 : Keep h0 h0 [o0, ta, tA] := Keep.refl _ _
  obtain ⟨G, hG⟩ : ∃ z, z = s₁.setTop (entryFrame m #[(.ref o0), (.long q1), (.long q2), (.int (2 : Int32))] 11) := ⟨_, rfl⟩
  have pre0 : Lead p e below G (s₁.setTop (mkF m 0 #[.val (.ref o0), .val (.long q1), .second, .val (.long q2), .second, .val (.int (2 : Int32)), .unset, .unset, .unset, .unset, .unset] [])) := fun t k => by rw [hG]; exact castTop (ef_4_0_0_1_2 m o0 q1 q2) k
  have pre1 : Lead p e below G (s₁.setTop (mkF m 1 #[.val (.ref o0), .val (.long q1), .second, .val (.long q2), .second, .val (.int (2 : Int32)), .unset, .unset, .unset, .unset, .unset] [(.ref o0)])) := fun t k => by
    refine pre0 t ?_
    show Steps p.tables e below (s₁.setTop (mkF m 0 #[.val (.ref o0), .val (.long q1), .second, .val (.long q2), .second, .val (.int (2 : Int32)), .unset, .unset, .unset, .unset, .unset] [])) _
    refine XS.aloadN X0.here hx rfl (hb hby d4_0) rfl rfl ?_
    show Steps p.tables e below (s₁.setTop (mkF m 1 #[.val (.ref o0), .val (.long q1), .second, .val (.long q2), .second, .val (.int (2 : Int32)), .unset, .unset, .unset, .unset, .unset] [(.ref o0)])) _
    exact k
  obtain ⟨cq2, zq2, zq2'⟩ := P0_E.cell
  obtain ⟨_, _, ⟨T2, L2, k2, n2⟩, -, X2, ⟨Lc2, hQ2, l2, y2, z2⟩, st2⟩ := X0.privateBack hx (y := (⟨"com/example/lean_throttle/leanthrottle/TimeRing", "newestTotal", "()J"⟩ : MethodName)) hown (mvT hZ (hw _ (List.mem_of_getElem? (i := 25) rfl))) (mvT hZ (hw _ (List.mem_of_getElem? (i := 26) rfl))) (own_selp hZ (hw _ (List.mem_of_getElem? (i := 7) rfl)) (hw _ (List.mem_of_getElem? (i := 27) rfl)) (hw _ (List.mem_of_getElem? (i := 26) rfl)) (by decide)) (Cond.privateMethod_at (mvP hZ (hw _ (List.mem_of_getElem? (i := 27) rfl)) (args := #[]))) (mvT hZ (hw _ (List.mem_of_getElem? (i := 28) rfl))) (by decide) (backOf (W := 0) (rm5_0_0_1 l Z a0 hw [] o0 ta tA bf gt gT h0 n0 (Nat.le_trans Z0 K0.1) P0_E P1_F P2_F P3_F P4_F P5_F P6_V P7_V P8_NE P9_NE P10_NE) hZ (hw _ (List.mem_of_getElem? (i := 28) rfl)) (hw _ (List.mem_of_getElem? (i := 8) rfl)) (by decide) (by decide)) (g := (mkF m 1 #[.val (.ref o0), .val (.long q1), .second, .val (.long q2), .second, .val (.int (2 : Int32)), .unset, .unset, .unset, .unset, .unset] [(.ref o0)])) rfl (by rw [hml]; rfl) (Steps.refl _) (a := o0) (by rw [e0]; exact zq2) zq2' (argsL := []) (rest := []) (lenOf pd__28__29_J rfl) rfl (by show 2 * 0 + _ ≤ _; exact Nat.le_of_eq rfl) (hb hby d4_1) (fun _ _ => ⟨rfl, e0, (by decide : 0 + 0 ≤ _), (by decide : 0 + 0 ≤ _)⟩)
  dsimp only [Pt.U, Pt.locs, Pt.cells, Pt.slots] at X2 l2 y2 z2 st2 hQ2
  subst l2 y2 z2
  obtain ⟨rfl, N2q, e2⟩ := hQ2
  have N2 := Fr.app N0 N2q
  obtain ⟨M2, Y2, N2⟩ : ∃ M, Stand p l e ({ frames := 1, cells := 0, slots := 0, locals := 15 } : Room) s m #[(.ref o0), (.long q1), (.long q2), (.int (2 : Int32))] below meth c T2 M 0 0 ∧ Fr n0 M := ⟨_, X2, N2⟩
  have pre2 : Lead p e below G (T2.setTop (mkF m 4 #[.val (.ref o0), .val (.long q1), .second, .val (.long q2), .second, .val (.int (2 : Int32)), .unset, .unset, .unset, .unset, .unset] [(.long (bf))])) := fun t k => pre1 t (st2.trans k)
  have pre3 : Lead p e below G (T2.setTop (mkF m 7 #[.val (.ref o0), .val (.long q1), .second, .val (.long q2), .second, .val (.int (2 : Int32)), .val (.long (bf)), .second, .unset, .unset, .unset] [(.ref o0)])) := fun t k => by
    refine pre2 t ?_
    show Steps p.tables e below (T2.setTop (mkF m 4 #[.val (.ref o0), .val (.long q1), .second, .val (.long q2), .second, .val (.int (2 : Int32)), .unset, .unset, .unset, .unset, .unset] [(.long (bf))])) _
    refine XS.lstore Y2.here hx rfl (hb hby d4_4) rfl (l' := #[.val (.ref o0), .val (.long q1), .second, .val (.long q2), .second, .val (.int (2 : Int32)), .val (.long (bf)), .second, .unset, .unset, .unset]) rfl ?_
    show Steps p.tables e below (T2.setTop (mkF m 6 #[.val (.ref o0), .val (.long q1), .second, .val (.long q2), .second, .val (.int (2 : Int32)), .val (.long (bf)), .second, .unset, .unset, .unset] [])) _
    refine XS.aloadN Y2.here hx rfl (hb hby d4_6) rfl rfl ?_
    show Steps p.tables e below (T2.setTop (mkF m 7 #[.val (.ref o0), .val (.long q1), .second, .val (.long q2), .second, .val (.int (2 : Int32)), .val (.long (bf)), .second, .unset, .unset, .unset] [(.ref o0)])) _
    exact k
  obtain ⟨T4, X4, e4, st4⟩ := getF Y2 hx hZ hown (host := "") (Or.inl (hw _ (List.mem_of_getElem? (i := 29) rfl))) Via.refl e2 P4_F (g := (mkF m 7 #[.val (.ref o0), .val (.long q1), .second, .val (.long q2), .second, .val (.int (2 : Int32)), .val (.long (bf)), .second, .unset, .unset, .unset] [(.ref o0)])) rfl rfl (hb hby d4_7)
  have pre4 : Lead p e below G (T4.setTop (mkF m 10 #[.val (.ref o0), .val (.long q1), .second, .val (.long q2), .second, .val (.int (2 : Int32)), .val (.long (bf)), .second, .unset, .unset, .unset] [(.int (0 : Int32))])) := fun t k => pre3 t (st4 _ k)
  have pre5 : Lead p e below G (T4.setTop (mkF m 11 #[.val (.ref o0), .val (.long q1), .second, .val (.long q2), .second, .val (.int (2 : Int32)), .val (.long (bf)), .second, .unset, .unset, .unset] [(.ref o0), (.int (0 : Int32))])) := fun t k => by
    refine pre4 t ?_
    show Steps p.tables e below (T4.setTop (mkF m 10 #[.val (.ref o0), .val (.long q1), .second, .val (.long q2), .second, .val (.int (2 : Int32)), .val (.long (bf)), .second, .unset, .unset, .unset] [(.int (0 : Int32))])) _
    refine XS.aloadN X4.here hx rfl (hb hby d4_10) rfl rfl ?_
    show Steps p.tables e below (T4.setTop (mkF m 11 #[.val (.ref o0), .val (.long q1), .second, .val (.long q2), .second, .val (.int (2 : Int32)), .val (.long (bf)), .second, .unset, .unset, .unset] [(.ref o0), (.int (0 : Int32))])) _
    exact k
  obtain ⟨T6, X6, e6, st6⟩ := getF X4 hx hZ hown (host := "") (Or.inl (hw _ (List.mem_of_getElem? (i := 16) rfl))) Via.refl e4 P1_F (g := (mkF m 11 #[.val (.ref o0), .val (.long q1), .second, .val (.long q2), .second, .val (.int (2 : Int32)), .val (.long (bf)), .second, .unset, .unset, .unset] [(.ref o0), (.int (0 : Int32))])) rfl rfl (hb hby d4_11)
  have pre6 : Lead p e below G (T6.setTop (mkF m 14 #[.val (.ref o0), .val (.long q1), .second, .val (.long q2), .second, .val (.int (2 : Int32)), .val (.long (bf)), .second, .unset, .unset, .unset] [(.ref ta), (.int (0 : Int32))])) := fun t k => pre5 t (st6 _ k)
  obtain ⟨cl7, Ar7, len7⟩ := P6_V.len
  have st7 := X6.arraylength hx (by rw [e6]; exact Ar7.1) (State.isArrayOf_alike hZ.alike Ar7.2.1) (g := (mkF m 14 #[.val (.ref o0), .val (.long q1), .second, .val (.long q2), .second, .val (.int (2 : Int32)), .val (.long (bf)), .second, .unset, .unset, .unset] [(.ref ta), (.int (0 : Int32))])) rfl rfl (hb hby d4_14)
  rw [len7] at st7
  have pre7 : Lead p e below G (T6.setTop (mkF m 15 #[.val (.ref o0), .val (.long q1), .second, .val (.long q2), .second, .val (.int (2 : Int32)), .val (.long (bf)), .second, .unset, .unset, .unset] [(.int (1 : Int32)), (.int (0 : Int32))])) := fun t k => pre6 t (st7 _ k)
  have hf8 : ¬ ((0 : Int32) = (1 : Int32)) := (by decide)
  have pre9 : Lead p e below G (T6.setTop (mkF m 79 #[.val (.ref o0), .val (.long q1), .second, .val (.long q2), .second, .val (.int (2 : Int32)), .val (.long (bf)), .second, .unset, .unset, .unset] [(.ref o0)])) := fun t k => by
    refine pre7 t ?_
    show Steps p.tables e below (T6.setTop (mkF m 15 #[.val (.ref o0), .val (.long q1), .second, .val (.long q2), .second, .val (.int (2 : Int32)), .val (.long (bf)), .second, .unset, .unset, .unset] [(.int (1 : Int32)), (.int (0 : Int32))])) _
    refine XS.icmpYes X6.here hx rfl (pc0 := 15) (pc' := 78) rfl (hb hby d4_15) rfl (feq hf8).2 (by decide) (by decide) ?_
    show Steps p.tables e below (T6.setTop (mkF m 78 #[.val (.ref o0), .val (.long q1), .second, .val (.long q2), .second, .val (.int (2 : Int32)), .val (.long (bf)), .second, .unset, .unset, .unset] [])) _
    refine XS.aloadN X6.here hx rfl (hb hby d4_78) rfl rfl ?_
    show Steps p.tables e below (T6.setTop (mkF m 79 #[.val (.ref o0), .val (.long q1), .second, .val (.long q2), .second, .val (.int (2 : Int32)), .val (.long (bf)), .second, .unset, .unset, .unset] [(.ref o0)])) _
    exact k
  obtain ⟨T10, X10, e10, st10⟩ := getF X6 hx hZ hown (host := "") (Or.inl (hw _ (List.mem_of_getElem? (i := 16) rfl))) Via.refl e6 P1_F (g := (mkF m 79 #[.val (.ref o0), .val (.long q1), .second, .val (.long q2), .second, .val (.int (2 : Int32)), .val (.long (bf)), .second, .unset, .unset, .unset] [(.ref o0)])) rfl rfl (hb hby d4_79)
  have pre10 : Lead p e below G (T10.setTop (mkF m 82 #[.val (.ref o0), .val (.long q1), .second, .val (.long q2), .second, .val (.int (2 : Int32)), .val (.long (bf)), .second, .unset, .unset, .unset] [(.ref ta)])) := fun t k => pre9 t (st10 _ k)
  have pre11 : Lead p e below G (T10.setTop (mkF m 84 #[.val (.ref o0), .val (.long q1), .second, .val (.long q2), .second, .val (.int (2 : Int32)), .val (.long (bf)), .second, .unset, .unset, .unset] [(.ref o0), (.ref o0), (.ref ta)])) := fun t k => by
    refine pre10 t ?_
    show Steps p.tables e below (T10.setTop (mkF m 82 #[.val (.ref o0), .val (.long q1), .second, .val (.long q2), .second, .val (.int (2 : Int32)), .val (.long (bf)), .second, .unset, .unset, .unset] [(.ref ta)])) _
    refine XS.aloadN X10.here hx rfl (hb hby d4_82) rfl rfl ?_
    show Steps p.tables e below (T10.setTop (mkF m 83 #[.val (.ref o0), .val (.long q1), .second, .val (.long q2), .second, .val (.int (2 : Int32)), .val (.long (bf)), .second, .unset, .unset, .unset] [(.ref o0), (.ref ta)])) _
    refine XS.aloadN X10.here hx rfl (hb hby d4_83) rfl rfl ?_
    show Steps p.tables e below (T10.setTop (mkF m 84 #[.val (.ref o0), .val (.long q1), .second, .val (.long q2), .second, .val (.int (2 : Int32)), .val (.long (bf)), .second, .unset, .unset, .unset] [(.ref o0), (.ref o0), (.ref ta)])) _
    exact k
  obtain ⟨T12, X12, e12, st12⟩ := getF X10 hx hZ hown (host := "") (Or.inl (hw _ (List.mem_of_getElem? (i := 29) rfl))) Via.refl e10 P4_F (g := (mkF m 84 #[.val (.ref o0), .val (.long q1), .second, .val (.long q2), .second, .val (.int (2 : Int32)), .val (.long (bf)), .second, .unset, .unset, .unset] [(.ref o0), (.ref o0), (.ref ta)])) rfl rfl (hb hby d4_84)
  have pre12 : Lead p e below G (T12.setTop (mkF m 87 #[.val (.ref o0), .val (.long q1), .second, .val (.long q2), .second, .val (.int (2 : Int32)), .val (.long (bf)), .second, .unset, .unset, .unset] [(.int (0 : Int32)), (.ref o0), (.ref ta)])) := fun t k => pre11 t (st12 _ k)
  obtain ⟨cq13, zq13, zq13'⟩ := P0_E.cell
  obtain ⟨_, _, ⟨T13, L13, k13, n13⟩, -, X13, ⟨Lc13, hQ13, l13, y13, z13⟩, st13⟩ := X12.privateBack hx (y := (⟨"com/example/lean_throttle/leanthrottle/TimeRing", "at", "(I)I"⟩ : MethodName)) hown (mvT hZ (hw _ (List.mem_of_getElem? (i := 33) rfl))) (mvT hZ (hw _ (List.mem_of_getElem? (i := 34) rfl))) (own_selp hZ (hw _ (List.mem_of_getElem? (i := 7) rfl)) (hw _ (List.mem_of_getElem? (i := 35) rfl)) (hw _ (List.mem_of_getElem? (i := 34) rfl)) (by decide)) (Cond.privateMethod_at (mvP hZ (hw _ (List.mem_of_getElem? (i := 35) rfl)) (args := #[]))) (mvT hZ (hw _ (List.mem_of_getElem? (i := 36) rfl))) (by decide) (backOf (W := 1) (rm6 l Z a0 hw [] o0 (0 : Int32) (0 : Int32) ta (1 : Int32) gt h0 n0 (Nat.le_trans Z0 K0.1) P3_F P1_F P6_V) hZ (hw _ (List.mem_of_getElem? (i := 36) rfl)) (hw _ (List.mem_of_getElem? (i := 8) rfl)) (by decide) (by decide)) (g := (mkF m 87 #[.val (.ref o0), .val (.long q1), .second, .val (.long q2), .second, .val (.int (2 : Int32)), .val (.long (bf)), .second, .unset, .unset, .unset] [(.int (0 : Int32)), (.ref o0), (.ref ta)])) rfl (by rw [hml]; rfl) (Steps.refl _) (a := o0) (by rw [e12]; exact zq13) zq13' (argsL := [(.int (0 : Int32))]) (rest := [(.ref ta)]) (lenOf pd__28_I_29_I rfl) rfl (by show 2 * 0 + _ ≤ _; exact Nat.le_of_eq rfl) (hb hby d4_87) (fun _ _ => ⟨rfl, e12, (by decide : 0 + 0 ≤ _), (by decide : 0 + 0 ≤ _)⟩)
  dsimp only [Pt.U, Pt.locs, Pt.cells, Pt.slots] at X13 l13 y13 z13 st13 hQ13
  subst l13 y13 z13
  obtain ⟨rfl, N13q, e13⟩ := hQ13
  have N13 := Fr.app N2 N13q
  obtain ⟨M13, Y13, N13⟩ : ∃ M, Stand p l e ({ frames := 1, cells := 0, slots := 0, locals := 15 } : Room) s m #[(.ref o0), (.long q1), (.long q2), (.int (2 : Int32))] below meth c T13 M 0 0 ∧ Fr n0 M := ⟨_, X13, N13⟩
  have pre13 : Lead p e below G (T13.setTop (mkF m 90 #[.val (.ref o0), .val (.long q1), .second, .val (.long q2), .second, .val (.int (2 : Int32)), .val (.long (bf)), .second, .unset, .unset, .unset] [(.int (if (0 : Int32) < (1 : Int32) then (0 : Int32) else (-1 : Int32))), (.ref ta)])) := fun t k => pre12 t (st13.trans k)
  have hr13 : (if (0 : Int32) < (1 : Int32) then (0 : Int32) else (-1 : Int32)) = (0 : Int32) := by decide
  have pre13b : Lead p e below G (T13.setTop (mkF m 90 #[.val (.ref o0), .val (.long q1), .second, .val (.long q2), .second, .val (.int (2 : Int32)), .val (.long (bf)), .second, .unset, .unset, .unset] [(.int (0 : Int32)), (.ref ta)])) := by have q := pre13; rw [hr13] at q; exact q
  have pre14 : Lead p e below G (T13.setTop (mkF m 91 #[.val (.ref o0), .val (.long q1), .second, .val (.long q2), .second, .val (.int (2 : Int32)), .val (.long (bf)), .second, .unset, .unset, .unset] [(.long q1), (.int (0 : Int32)), (.ref ta)])) := fun t k => by
    refine pre13b t ?_
    show Steps p.tables e below (T13.setTop (mkF m 90 #[.val (.ref o0), .val (.long q1), .second, .val (.long q2), .second, .val (.int (2 : Int32)), .val (.long (bf)), .second, .unset, .unset, .unset] [(.int (0 : Int32)), (.ref ta)])) _
    refine XS.lloadN Y13.here hx rfl (hb hby d4_90) rfl ?_
    show Steps p.tables e below (T13.setTop (mkF m 91 #[.val (.ref o0), .val (.long q1), .second, .val (.long q2), .second, .val (.int (2 : Int32)), .val (.long (bf)), .second, .unset, .unset, .unset] [(.long q1), (.int (0 : Int32)), (.ref ta)])) _
    exact k
  obtain ⟨cl15, Ar15, hin15, -⟩ := P6_V.in (j := (0 : Int32)) ⟨by decide, by decide⟩
  obtain ⟨T15, h15, X15, e15, W15, st15⟩ := stJ Y13 hx hZ e13 Ar15 (j := (0 : Int32)) hin15 (g := (mkF m 91 #[.val (.ref o0), .val (.long q1), .second, .val (.long q2), .second, .val (.int (2 : Int32)), .val (.long (bf)), .second, .unset, .unset, .unset] [(.long q1), (.int (0 : Int32)), (.ref ta)])) rfl rfl (hb hby d4_91)
  have N15 := Fr.snoc X15 N13 P12_G
  have K15 : Keep h0 h15 [o0, ta, tA] := K0.wr W15 (Or.inl (List.mem_of_getElem? (i := 1) rfl))
  obtain ⟨M15, Y15, N15⟩ : ∃ M, Stand p l e ({ frames := 1, cells := 0, slots := 0, locals := 15 } : Room) s m #[(.ref o0), (.long q1), (.long q2), (.int (2 : Int32))] below meth c T15 M 0 0 ∧ Fr n0 M := ⟨_, X15, N15⟩
  have V15 : JV Value.long Z h15 ta .long (1 : Int32) (updF gt 0 q1) := P6_V.set W15
  have pre15 : Lead p e below G (T15.setTop (mkF m 92 #[.val (.ref o0), .val (.long q1), .second, .val (.long q2), .second, .val (.int (2 : Int32)), .val (.long (bf)), .second, .unset, .unset, .unset] [])) := fun t k => pre14 t (st15 _ k)
  have pre16 : Lead p e below G (T15.setTop (mkF m 93 #[.val (.ref o0), .val (.long q1), .second, .val (.long q2), .second, .val (.int (2 : Int32)), .val (.long (bf)), .second, .unset, .unset, .unset] [(.ref o0)])) := fun t k => by
    refine pre15 t ?_
    show Steps p.tables e below (T15.setTop (mkF m 92 #[.val (.ref o0), .val (.long q1), .second, .val (.long q2), .second, .val (.int (2 : Int32)), .val (.long (bf)), .second, .unset, .unset, .unset] [])) _
    refine XS.aloadN Y15.here hx rfl (hb hby d4_92) rfl rfl ?_
    show Steps p.tables e below (T15.setTop (mkF m 93 #[.val (.ref o0), .val (.long q1), .second, .val (.long q2), .second, .val (.int (2 : Int32)), .val (.long (bf)), .second, .unset, .unset, .unset] [(.ref o0)])) _
    exact k
  have f18 : Fld Z h15 o0 "com/example/lean_throttle/leanthrottle/TimeRing" "totals" "[J" (.ref tA) := (P2_F.other W15 (Or.inl P8_NE))
  obtain ⟨T17, X17, e17, st17⟩ := getF Y15 hx hZ hown (host := "") (Or.inl (hw _ (List.mem_of_getElem? (i := 18) rfl))) Via.refl e15 f18 (g := (mkF m 93 #[.val (.ref o0), .val (.long q1), .second, .val (.long q2), .second, .val (.int (2 : Int32)), .val (.long (bf)), .second, .unset, .unset, .unset] [(.ref o0)])) rfl rfl (hb hby d4_93)
  have pre17 : Lead p e below G (T17.setTop (mkF m 96 #[.val (.ref o0), .val (.long q1), .second, .val (.long q2), .second, .val (.int (2 : Int32)), .val (.long (bf)), .second, .unset, .unset, .unset] [(.ref tA)])) := fun t k => pre16 t (st17 _ k)
  have pre19 : Lead p e below G (T17.setTop (mkF m 98 #[.val (.ref o0), .val (.long q1), .second, .val (.long q2), .second, .val (.int (2 : Int32)), .val (.long (bf)), .second, .unset, .unset, .unset] [(.ref o0), (.ref o0), (.ref tA)])) := fun t k => by
    refine pre17 t ?_
    show Steps p.tables e below (T17.setTop (mkF m 96 #[.val (.ref o0), .val (.long q1), .second, .val (.long q2), .second, .val (.int (2 : Int32)), .val (.long (bf)), .second, .unset, .unset, .unset] [(.ref tA)])) _
    refine XS.aloadN X17.here hx rfl (hb hby d4_96) rfl rfl ?_
    show Steps p.tables e below (T17.setTop (mkF m 97 #[.val (.ref o0), .val (.long q1), .second, .val (.long q2), .second, .val (.int (2 : Int32)), .val (.long (bf)), .second, .unset, .unset, .unset] [(.ref o0), (.ref tA)])) _
    refine XS.aloadN X17.here hx rfl (hb hby d4_97) rfl rfl ?_
    show Steps p.tables e below (T17.setTop (mkF m 98 #[.val (.ref o0), .val (.long q1), .second, .val (.long q2), .second, .val (.int (2 : Int32)), .val (.long (bf)), .second, .unset, .unset, .unset] [(.ref o0), (.ref o0), (.ref tA)])) _
    exact k
  have f21 : Fld Z h15 o0 "com/example/lean_throttle/leanthrottle/TimeRing" "size" "I" (.int (0 : Int32)) := (P4_F.other W15 (Or.inl P8_NE))
  obtain ⟨T20, X20, e20, st20⟩ := getF X17 hx hZ hown (host := "") (Or.inl (hw _ (List.mem_of_getElem? (i := 29) rfl))) Via.refl e17 f21 (g := (mkF m 98 #[.val (.ref o0), .val (.long q1), .second, .val (.long q2), .second, .val (.int (2 : Int32)), .val (.long (bf)), .second, .unset, .unset, .unset] [(.ref o0), (.ref o0), (.ref tA)])) rfl rfl (hb hby d4_98)
  have pre20 : Lead p e below G (T20.setTop (mkF m 101 #[.val (.ref o0), .val (.long q1), .second, .val (.long q2), .second, .val (.int (2 : Int32)), .val (.long (bf)), .second, .unset, .unset, .unset] [(.int (0 : Int32)), (.ref o0), (.ref tA)])) := fun t k => pre19 t (st20 _ k)
  have f23 : Fld Z h15 o0 "com/example/lean_throttle/leanthrottle/TimeRing" "first" "I" (.int (0 : Int32)) := (P3_F.other W15 (Or.inl P8_NE))
  have f24 : Fld Z h15 o0 "com/example/lean_throttle/leanthrottle/TimeRing" "times" "[J" (.ref ta) := (P1_F.other W15 (Or.inl P8_NE))
  have f25 : Exa Z h15 o0 "com/example/lean_throttle/leanthrottle/TimeRing" := (P0_E.wr W15)
  obtain ⟨cq22, zq22, zq22'⟩ := f25.cell
  obtain ⟨_, _, ⟨T22, L22, k22, n22⟩, -, X22, ⟨Lc22, hQ22, l22, y22, z22⟩, st22⟩ := X20.privateBack hx (y := (⟨"com/example/lean_throttle/leanthrottle/TimeRing", "at", "(I)I"⟩ : MethodName)) hown (mvT hZ (hw _ (List.mem_of_getElem? (i := 33) rfl))) (mvT hZ (hw _ (List.mem_of_getElem? (i := 34) rfl))) (own_selp hZ (hw _ (List.mem_of_getElem? (i := 7) rfl)) (hw _ (List.mem_of_getElem? (i := 35) rfl)) (hw _ (List.mem_of_getElem? (i := 34) rfl)) (by decide)) (Cond.privateMethod_at (mvP hZ (hw _ (List.mem_of_getElem? (i := 35) rfl)) (args := #[]))) (mvT hZ (hw _ (List.mem_of_getElem? (i := 36) rfl))) (by decide) (backOf (W := 1) (rm6 l Z a0 hw [] o0 (0 : Int32) (0 : Int32) ta (1 : Int32) (updF gt 0 q1) h15 n0 (Nat.le_trans Z0 K15.1) f23 f24 V15) hZ (hw _ (List.mem_of_getElem? (i := 36) rfl)) (hw _ (List.mem_of_getElem? (i := 8) rfl)) (by decide) (by decide)) (g := (mkF m 101 #[.val (.ref o0), .val (.long q1), .second, .val (.long q2), .second, .val (.int (2 : Int32)), .val (.long (bf)), .second, .unset, .unset, .unset] [(.int (0 : Int32)), (.ref o0), (.ref tA)])) rfl (by rw [hml]; rfl) (Steps.refl _) (a := o0) (by rw [e20]; exact zq22) zq22' (argsL := [(.int (0 : Int32))]) (rest := [(.ref tA)]) (lenOf pd__28_I_29_I rfl) rfl (by show 2 * 0 + _ ≤ _; exact Nat.le_of_eq rfl) (hb hby d4_101) (fun _ _ => ⟨rfl, e20, (by decide : 0 + 0 ≤ _), (by decide : 0 + 0 ≤ _)⟩)
  dsimp only [Pt.U, Pt.locs, Pt.cells, Pt.slots] at X22 l22 y22 z22 st22 hQ22
  subst l22 y22 z22
  obtain ⟨rfl, N22q, e22⟩ := hQ22
  have N22 := Fr.app N15 N22q
  obtain ⟨M22, Y22, N22⟩ : ∃ M, Stand p l e ({ frames := 1, cells := 0, slots := 0, locals := 15 } : Room) s m #[(.ref o0), (.long q1), (.long q2), (.int (2 : Int32))] below meth c T22 M 0 0 ∧ Fr n0 M := ⟨_, X22, N22⟩
  have pre22 : Lead p e below G (T22.setTop (mkF m 104 #[.val (.ref o0), .val (.long q1), .second, .val (.long q2), .second, .val (.int (2 : Int32)), .val (.long (bf)), .second, .unset, .unset, .unset] [(.int (if (0 : Int32) < (1 : Int32) then (0 : Int32) else (-1 : Int32))), (.ref tA)])) := fun t k => pre20 t (st22.trans k)
  have hr22 : (if (0 : Int32) < (1 : Int32) then (0 : Int32) else (-1 : Int32)) = (0 : Int32) := by decide
  have pre22b : Lead p e below G (T22.setTop (mkF m 104 #[.val (.ref o0), .val (.long q1), .second, .val (.long q2), .second, .val (.int (2 : Int32)), .val (.long (bf)), .second, .unset, .unset, .unset] [(.int (0 : Int32)), (.ref tA)])) := by have q := pre22; rw [hr22] at q; exact q
  have pre26 : Lead p e below G (T22.setTop (mkF m 108 #[.val (.ref o0), .val (.long q1), .second, .val (.long q2), .second, .val (.int (2 : Int32)), .val (.long (bf)), .second, .unset, .unset, .unset] [(.long ((bf) + q2)), (.int (0 : Int32)), (.ref tA)])) := fun t k => by
    refine pre22b t ?_
    show Steps p.tables e below (T22.setTop (mkF m 104 #[.val (.ref o0), .val (.long q1), .second, .val (.long q2), .second, .val (.int (2 : Int32)), .val (.long (bf)), .second, .unset, .unset, .unset] [(.int (0 : Int32)), (.ref tA)])) _
    refine XS.lload Y22.here hx rfl (hb hby d4_104) rfl ?_
    show Steps p.tables e below (T22.setTop (mkF m 106 #[.val (.ref o0), .val (.long q1), .second, .val (.long q2), .second, .val (.int (2 : Int32)), .val (.long (bf)), .second, .unset, .unset, .unset] [(.long (bf)), (.int (0 : Int32)), (.ref tA)])) _
    refine XS.lloadN Y22.here hx rfl (hb hby d4_106) rfl ?_
    show Steps p.tables e below (T22.setTop (mkF m 107 #[.val (.ref o0), .val (.long q1), .second, .val (.long q2), .second, .val (.int (2 : Int32)), .val (.long (bf)), .second, .unset, .unset, .unset] [(.long q2), (.long (bf)), (.int (0 : Int32)), (.ref tA)])) _
    refine XS.ladd Y22.here hx rfl (hb hby d4_107) rfl ?_
    show Steps p.tables e below (T22.setTop (mkF m 108 #[.val (.ref o0), .val (.long q1), .second, .val (.long q2), .second, .val (.int (2 : Int32)), .val (.long (bf)), .second, .unset, .unset, .unset] [(.long ((bf) + q2)), (.int (0 : Int32)), (.ref tA)])) _
    exact k
  have f28 : JV Value.long Z h15 tA .long (1 : Int32) gT := (P7_V.other W15 (Ne.symm P10_NE))
  obtain ⟨cl27, Ar27, hin27, -⟩ := f28.in (j := (0 : Int32)) ⟨by decide, by decide⟩
  obtain ⟨T27, h27, X27, e27, W27, st27⟩ := stJ Y22 hx hZ e22 Ar27 (j := (0 : Int32)) hin27 (g := (mkF m 108 #[.val (.ref o0), .val (.long q1), .second, .val (.long q2), .second, .val (.int (2 : Int32)), .val (.long (bf)), .second, .unset, .unset, .unset] [(.long ((bf) + q2)), (.int (0 : Int32)), (.ref tA)])) rfl rfl (hb hby d4_108)
  have N27 := Fr.snoc X27 N22 P13_G
  have K27 : Keep h0 h27 [o0, ta, tA] := K15.wr W27 (Or.inl (List.mem_of_getElem? (i := 2) rfl))
  obtain ⟨M27, Y27, N27⟩ : ∃ M, Stand p l e ({ frames := 1, cells := 0, slots := 0, locals := 15 } : Room) s m #[(.ref o0), (.long q1), (.long q2), (.int (2 : Int32))] below meth c T27 M 0 0 ∧ Fr n0 M := ⟨_, X27, N27⟩
  have V27 : JV Value.long Z h27 tA .long (1 : Int32) (updF gT 0 ((bf) + q2)) := f28.set W27
  have pre27 : Lead p e below G (T27.setTop (mkF m 109 #[.val (.ref o0), .val (.long q1), .second, .val (.long q2), .second, .val (.int (2 : Int32)), .val (.long (bf)), .second, .unset, .unset, .unset] [])) := fun t k => pre26 t (st27 _ k)
  have pre29 : Lead p e below G (T27.setTop (mkF m 111 #[.val (.ref o0), .val (.long q1), .second, .val (.long q2), .second, .val (.int (2 : Int32)), .val (.long (bf)), .second, .unset, .unset, .unset] [(.ref o0), (.ref o0)])) := fun t k => by
    refine pre27 t ?_
    show Steps p.tables e below (T27.setTop (mkF m 109 #[.val (.ref o0), .val (.long q1), .second, .val (.long q2), .second, .val (.int (2 : Int32)), .val (.long (bf)), .second, .unset, .unset, .unset] [])) _
    refine XS.aloadN Y27.here hx rfl (hb hby d4_109) rfl rfl ?_
    show Steps p.tables e below (T27.setTop (mkF m 110 #[.val (.ref o0), .val (.long q1), .second, .val (.long q2), .second, .val (.int (2 : Int32)), .val (.long (bf)), .second, .unset, .unset, .unset] [(.ref o0)])) _
    refine XS.dup Y27.here hx rfl (hb hby d4_110) rfl rfl ?_
    show Steps p.tables e below (T27.setTop (mkF m 111 #[.val (.ref o0), .val (.long q1), .second, .val (.long q2), .second, .val (.int (2 : Int32)), .val (.long (bf)), .second, .unset, .unset, .unset] [(.ref o0), (.ref o0)])) _
    exact k
  have f31 : Fld Z h27 o0 "com/example/lean_throttle/leanthrottle/TimeRing" "size" "I" (.int (0 : Int32)) := (f21.other W27 (Or.inl P9_NE))
  obtain ⟨T30, X30, e30, st30⟩ := getF Y27 hx hZ hown (host := "") (Or.inl (hw _ (List.mem_of_getElem? (i := 29) rfl))) Via.refl e27 f31 (g := (mkF m 111 #[.val (.ref o0), .val (.long q1), .second, .val (.long q2), .second, .val (.int (2 : Int32)), .val (.long (bf)), .second, .unset, .unset, .unset] [(.ref o0), (.ref o0)])) rfl rfl (hb hby d4_111)
  have pre30 : Lead p e below G (T30.setTop (mkF m 114 #[.val (.ref o0), .val (.long q1), .second, .val (.long q2), .second, .val (.int (2 : Int32)), .val (.long (bf)), .second, .unset, .unset, .unset] [(.int (0 : Int32)), (.ref o0)])) := fun t k => pre29 t (st30 _ k)
  have pre32 : Lead p e below G (T30.setTop (mkF m 116 #[.val (.ref o0), .val (.long q1), .second, .val (.long q2), .second, .val (.int (2 : Int32)), .val (.long (bf)), .second, .unset, .unset, .unset] [(.int (1 : Int32)), (.ref o0)])) := fun t k => by
    refine pre30 t ?_
    show Steps p.tables e below (T30.setTop (mkF m 114 #[.val (.ref o0), .val (.long q1), .second, .val (.long q2), .second, .val (.int (2 : Int32)), .val (.long (bf)), .second, .unset, .unset, .unset] [(.int (0 : Int32)), (.ref o0)])) _
    refine XS.iconst X30.here hx rfl (hb hby d4_114) ?_
    show Steps p.tables e below (T30.setTop (mkF m 115 #[.val (.ref o0), .val (.long q1), .second, .val (.long q2), .second, .val (.int (2 : Int32)), .val (.long (bf)), .second, .unset, .unset, .unset] [(.int (1 : Int32)), (.int (0 : Int32)), (.ref o0)])) _
    refine XS.iadd X30.here hx rfl (hb hby d4_115) rfl ?_
    show Steps p.tables e below (T30.setTop (mkF m 116 #[.val (.ref o0), .val (.long q1), .second, .val (.long q2), .second, .val (.int (2 : Int32)), .val (.long (bf)), .second, .unset, .unset, .unset] [(.int (1 : Int32)), (.ref o0)])) _
    exact k
  have f34 : Exa Z h27 o0 "com/example/lean_throttle/leanthrottle/TimeRing" := (f25.wr W27)
  obtain ⟨T33, h33, X33, e33, W33, st33⟩ := putF X30 hx hZ hown (host := "") (Or.inl (hw _ (List.mem_of_getElem? (i := 29) rfl))) Via.refl e30 f31 f34 (Or.inl (hw _ (List.mem_of_getElem? (i := 30) rfl))) (hw _ (List.mem_of_getElem? (i := 7) rfl)) (ty := .int) (by decide) rfl rfl (g := (mkF m 116 #[.val (.ref o0), .val (.long q1), .second, .val (.long q2), .second, .val (.int (2 : Int32)), .val (.long (bf)), .second, .unset, .unset, .unset] [(.int (1 : Int32)), (.ref o0)])) rfl rfl (hb hby d4_116)
  have N33 := Fr.snoc X33 N27 P11_G
  have K33 : Keep h0 h33 [o0, ta, tA] := K27.wr W33 (Or.inl (List.mem_of_getElem? (i := 0) rfl))
  obtain ⟨M33, Y33, N33⟩ : ∃ M, Stand p l e ({ frames := 1, cells := 0, slots := 0, locals := 15 } : Room) s m #[(.ref o0), (.long q1), (.long q2), (.int (2 : Int32))] below meth c T33 M 0 0 ∧ Fr n0 M := ⟨_, X33, N33⟩
  have Fw33 : Fld Z h33 o0 "com/example/lean_throttle/leanthrottle/TimeRing" "size" "I" (.int (1 : Int32)) := f31.same W33
  have pre33 : Lead p e below G (T33.setTop (mkF m 119 #[.val (.ref o0), .val (.long q1), .second, .val (.long q2), .second, .val (.int (2 : Int32)), .val (.long (bf)), .second, .unset, .unset, .unset] [])) := fun t k => pre32 t (st33 _ k)
  obtain ⟨fs, hr, hrun, hended, hW, hsame⟩ := Y33.leave (v := none) (fun _ => rfl)
  subst hG
  refine ⟨_, _, pre33 _ ?_, hrun, hended, _, _, rfl, ?_, ⟨_, rfl⟩, hW, hsame.mono (by decide) (by decide)⟩
  · show Steps p.tables e below (T33.setTop (mkF m 119 #[.val (.ref o0), .val (.long q1), .second, .val (.long q2), .second, .val (.int (2 : Int32)), .val (.long (bf)), .second, .unset, .unset, .unset] [])) _
    exact Y33.returnOut hx Bd.returns (hb hby d4_119) hr
  · show Q4_0_0_1_2 Z o0 q1 q2 ta tA bf gt gT h0 n0 _ T33.heap _
    rw [e33]
    have f35 : Exa Z h33 o0 "com/example/lean_throttle/leanthrottle/TimeRing" := (f34.wr W33)
    have f36 : Fld Z h33 o0 "com/example/lean_throttle/leanthrottle/TimeRing" "times" "[J" (.ref ta) := ((f24.other W27 (Or.inl P9_NE)).other W33 (Or.inr (slot_ne (Or.inl (hw _ (List.mem_of_getElem? (i := 17) rfl))) (Or.inl (hw _ (List.mem_of_getElem? (i := 30) rfl))) (by decide) (t := (.array .long)) (t' := .int) (by decide) (by decide))))
    have f37 : Fld Z h33 o0 "com/example/lean_throttle/leanthrottle/TimeRing" "totals" "[J" (.ref tA) := ((f18.other W27 (Or.inl P9_NE)).other W33 (Or.inr (slot_ne (Or.inl (hw _ (List.mem_of_getElem? (i := 19) rfl))) (Or.inl (hw _ (List.mem_of_getElem? (i := 30) rfl))) (by decide) (t := (.array .long)) (t' := .int) (by decide) (by decide))))
    have f38 : Fld Z h33 o0 "com/example/lean_throttle/leanthrottle/TimeRing" "first" "I" (.int (0 : Int32)) := ((f23.other W27 (Or.inl P9_NE)).other W33 (Or.inr (slot_ne (Or.inl (hw _ (List.mem_of_getElem? (i := 38) rfl))) (Or.inl (hw _ (List.mem_of_getElem? (i := 30) rfl))) (by decide) (t := .int) (t' := .int) (by decide) (by decide))))
    have f39 : Fld Z h33 o0 "com/example/lean_throttle/leanthrottle/TimeRing" "totalBefore" "J" (.long bf) := (((P5_F.other W15 (Or.inl P8_NE)).other W27 (Or.inl P9_NE)).other W33 (Or.inr (slot_ne (Or.inl (hw _ (List.mem_of_getElem? (i := 32) rfl))) (Or.inl (hw _ (List.mem_of_getElem? (i := 30) rfl))) (by decide) (t := .long) (t' := .int) (by decide) (by decide))))
    have f40 : JV Value.long Z h33 ta .long (1 : Int32) (updF gt 0 q1) := ((V15.other W27 P10_NE).other W33 (Ne.symm P8_NE))
    have f41 : JV Value.long Z h33 tA .long (1 : Int32) (updF gT 0 ((bf) + q2)) := (V27.other W33 (Ne.symm P9_NE))
    exact ⟨rfl, N33, K33, f35, f36, f37, f38, Fw33, f39, f40, f41⟩
theorem pd__28_JJI_29_V : parseMethodDescriptor "(JJI)V" = some ⟨[.long, .long, .int], none⟩ := by decide +kernel
theorem d5_7 : decode prog_21_method_11_code 7 = .ok (.aload_n 0, 1) := by decide +kernel
theorem d5_8 : decode prog_21_method_11_code 8 = .ok (.getfield 13, 3) := by decide +kernel
theorem d5_11 : decode prog_21_method_11_code 11 = .ok (.aload_n 0, 1) := by decide +kernel
theorem d5_12 : decode prog_21_method_11_code 12 = .ok (.aload_n 0, 1) := by decide +kernel
theorem d5_13 : decode prog_21_method_11_code 13 = .ok (.getfield 16, 3) := by decide +kernel
theorem d5_16 : decode prog_21_method_11_code 16 = .ok (.iconst 1, 1) := by decide +kernel
theorem d5_17 : decode prog_21_method_11_code 17 = .ok (.isub, 1) := by decide +kernel
theorem d5_18 : decode prog_21_method_11_code 18 = .ok (.invokevirtual 23, 3) := by decide +kernel
theorem d5_21 : decode prog_21_method_11_code 21 = .ok (.laload, 1) := by decide +kernel
theorem d5_22 : decode prog_21_method_11_code 22 = .ok (.goto 7, 3) := by decide +kernel
def F5_0_1_1 (gT : Nat → Int64) : Int64 := (gT 0)
theorem ef_5_0_1_1 (m : MethodId) (o0 : Addr) : entryFrame m #[(.ref o0)] 1 = mkF m 0 #[.val (.ref o0)] [] := by first | (simp [entryFrame, mkF, argsToLocals, Value.category]; done) | rfl
def Q5_0_1_1 (Z : State) (o0 : Addr) (ta : Addr) (tA : Addr) (bf : Int64) (gt : Nat → Int64) (gT : Nat → Int64) (h0 : Heap) (n0 : Nat) (v : Option Value) (h : Heap) (L : List Loc) : Prop := v = some (.long (gT 0)) ∧ Fr n0 L ∧ h = h0
set_option maxRecDepth 65536 in
set_option maxHeartbeats 40000000 in
theorem rm5_0_1_1 (l : Launch) (Z : State) (a0 : Array Value) (hw : ∀ d ∈ tables_1, d.before a0 Z = true) (ws : List Jvm.Cond) (o0 : Addr) (ta : Addr) (tA : Addr) (bf : Int64) (gt : Nat → Int64) (gT : Nat → Int64) (h0 : Heap) (n0 : Nat) (Z0 : n0 ≤ h0.size) (P0_E : Exa Z h0 o0 "com/example/lean_throttle/leanthrottle/TimeRing") (P1_F : Fld Z h0 o0 "com/example/lean_throttle/leanthrottle/TimeRing" "times" "[J" (.ref ta)) (P2_F : Fld Z h0 o0 "com/example/lean_throttle/leanthrottle/TimeRing" "totals" "[J" (.ref tA)) (P3_F : Fld Z h0 o0 "com/example/lean_throttle/leanthrottle/TimeRing" "first" "I" (.int (0 : Int32))) (P4_F : Fld Z h0 o0 "com/example/lean_throttle/leanthrottle/TimeRing" "size" "I" (.int (1 : Int32))) (P5_F : Fld Z h0 o0 "com/example/lean_throttle/leanthrottle/TimeRing" "totalBefore" "J" (.long bf)) (P6_V : JV Value.long Z h0 ta .long (1 : Int32) gt) (P7_V : JV Value.long Z h0 tA .long (1 : Int32) gT) (P8_NE : o0 ≠ ta) (P9_NE : o0 ≠ tA) (P10_NE : ta ≠ tA) :
    MetFree l (⟨"com/example/lean_throttle/leanthrottle/TimeRing", "newestTotal", "()J"⟩ : MethodName) (head1 (Jvm.Cond.code (⟨"com/example/lean_throttle/leanthrottle/TimeRing", "newestTotal", "()J"⟩ : MethodName) prog_21_method_11_code 1 (some .long) :: ws) ({ frames := 1, cells := 0, slots := 0, locals := 15 } : Room)) (fun a U => a = #[(.ref o0)] ∧ Z.Warmed39 U.vm ∧ U.heap = h0) (fun _ _ _ _ _ => True) (fun _ U o U' => ∃ v L, o = .returned v ∧ Q5_0_1_1 Z o0 ta tA bf gt gT h0 n0 v U'.heap L ∧ FrameEnd U o U' L ({ frames := 1, cells := 0, slots := 0, locals := 15 } : Room).cells ({ frames := 1, cells := 0, slots := 0, locals := 15 } : Room).slots) := by
  refine MetFree.of_bodySF (plainFor_of_name pn_com_example_lean_throttle_leanthrottle_TimeRing) hisR ?_
  intro p e s m args below meth c s₁ Bd hml0 hP hK
  obtain ⟨rfl, hZ, hh⟩ := hP
  have hx := Bd.exec
  have hby := Bd.bytes
  have hml : c.maxLocals = 1 := hml0
  have hown : s.vm.findClass "com/example/lean_throttle/leanthrottle/TimeRing" = some m.cls := findClass_of_methodNamed Bd.named
  have hnm := (name_of_methodNamed Bd.named Bd.method).1
  have X0 : Stand p l e ({ frames := 1, cells := 0, slots := 0, locals := 15 } : Room) s m #[(.ref o0)] below meth c s₁ [] 0 0 := Stand.of_body Bd
  have e0 : s₁.heap = h0 := by rw [← hh, Bd.state]; rfl
  have N0 := Fr.nil n0
  have K0 : Keep h0 h0 [] := Keep.refl _ _
  obtain ⟨G, hG⟩ : ∃ z, z = s₁.setTop (entryFrame m #[(.ref o0)] 1) := ⟨_, rfl⟩
  have pre0 : Lead p e below G (s₁.setTop (mkF m 0 #[.val (.ref o0)] [])) := fun t k => by rw [hG]; exact castTop (ef_5_0_1_1 m o0) k
  have pre1 : Lead p e below G (s₁.setTop (mkF m 1 #[.val (.ref o0)] [(.ref o0)])) := fun t k => by
    refine pre0 t ?_
    show Steps p.tables e below (s₁.setTop (mkF m 0 #[.val (.ref o0)] [])) _
    refine XS.aloadN X0.here hx rfl (hb hby d5_0) rfl rfl ?_
    show Steps p.tables e below (s₁.setTop (mkF m 1 #[.val (.ref o0)] [(.ref o0)])) _
    exact k
  obtain ⟨T2, X2, e2, st2⟩ := getF X0 hx hZ hown (host := "") (Or.inl (hw _ (List.mem_of_getElem? (i := 29) rfl))) Via.refl e0 P4_F (g := (mkF m 1 #[.val (.ref o0)] [(.ref o0)])) rfl rfl (hb hby d5_1)
  have pre2 : Lead p e below G (T2.setTop (mkF m 4 #[.val (.ref o0)] [(.int (1 : Int32))])) := fun t k => pre1 t (st2 _ k)
  have hf3 : (0 : Int32) < (1 : Int32) := (by decide)
  have pre4 : Lead p e below G (T2.setTop (mkF m 8 #[.val (.ref o0)] [(.ref o0)])) := fun t k => by
    refine pre2 t ?_
    show Steps p.tables e below (T2.setTop (mkF m 4 #[.val (.ref o0)] [(.int (1 : Int32))])) _
    refine XS.ifNo X2.here hx rfl (hb hby d5_4) rfl ((if0 _ _).trans (tlt hf3).2.2.2) ?_
    show Steps p.tables e below (T2.setTop (mkF m 7 #[.val (.ref o0)] [])) _
    refine XS.aloadN X2.here hx rfl (hb hby d5_7) rfl rfl ?_
    show Steps p.tables e below (T2.setTop (mkF m 8 #[.val (.ref o0)] [(.ref o0)])) _
    exact k
  obtain ⟨T5, X5, e5, st5⟩ := getF X2 hx hZ hown (host := "") (Or.inl (hw _ (List.mem_of_getElem? (i := 18) rfl))) Via.refl e2 P2_F (g := (mkF m 8 #[.val (.ref o0)] [(.ref o0)])) rfl rfl (hb hby d5_8)
  have pre5 : Lead p e below G (T5.setTop (mkF m 11 #[.val (.ref o0)] [(.ref tA)])) := fun t k => pre4 t (st5 _ k)
  have pre6 : Lead p e below G (T5.setTop (mkF m 13 #[.val (.ref o0)] [(.ref o0), (.ref o0), (.ref tA)])) := fun t k => by
    refine pre5 t ?_
    show Steps p.tables e below (T5.setTop (mkF m 11 #[.val (.ref o0)] [(.ref tA)])) _
    refine XS.aloadN X5.here hx rfl (hb hby d5_11) rfl rfl ?_
    show Steps p.tables e below (T5.setTop (mkF m 12 #[.val (.ref o0)] [(.ref o0), (.ref tA)])) _
    refine XS.aloadN X5.here hx rfl (hb hby d5_12) rfl rfl ?_
    show Steps p.tables e below (T5.setTop (mkF m 13 #[.val (.ref o0)] [(.ref o0), (.ref o0), (.ref tA)])) _
    exact k
  obtain ⟨T7, X7, e7, st7⟩ := getF X5 hx hZ hown (host := "") (Or.inl (hw _ (List.mem_of_getElem? (i := 29) rfl))) Via.refl e5 P4_F (g := (mkF m 13 #[.val (.ref o0)] [(.ref o0), (.ref o0), (.ref tA)])) rfl rfl (hb hby d5_13)
  have pre7 : Lead p e below G (T7.setTop (mkF m 16 #[.val (.ref o0)] [(.int (1 : Int32)), (.ref o0), (.ref tA)])) := fun t k => pre6 t (st7 _ k)
  have pre8 : Lead p e below G (T7.setTop (mkF m 18 #[.val (.ref o0)] [(.int (0 : Int32)), (.ref o0), (.ref tA)])) := fun t k => by
    refine pre7 t ?_
    show Steps p.tables e below (T7.setTop (mkF m 16 #[.val (.ref o0)] [(.int (1 : Int32)), (.ref o0), (.ref tA)])) _
    refine XS.iconst X7.here hx rfl (hb hby d5_16) ?_
    show Steps p.tables e below (T7.setTop (mkF m 17 #[.val (.ref o0)] [(.int (1 : Int32)), (.int (1 : Int32)), (.ref o0), (.ref tA)])) _
    refine XS.isub X7.here hx rfl (hb hby d5_17) rfl ?_
    show Steps p.tables e below (T7.setTop (mkF m 18 #[.val (.ref o0)] [(.int (0 : Int32)), (.ref o0), (.ref tA)])) _
    exact k
  obtain ⟨cq9, zq9, zq9'⟩ := P0_E.cell
  obtain ⟨_, _, ⟨T9, L9, k9, n9⟩, -, X9, ⟨Lc9, hQ9, l9, y9, z9⟩, st9⟩ := X7.privateBack hx (y := (⟨"com/example/lean_throttle/leanthrottle/TimeRing", "at", "(I)I"⟩ : MethodName)) hown (mvT hZ (hw _ (List.mem_of_getElem? (i := 33) rfl))) (mvT hZ (hw _ (List.mem_of_getElem? (i := 34) rfl))) (own_selp hZ (hw _ (List.mem_of_getElem? (i := 7) rfl)) (hw _ (List.mem_of_getElem? (i := 35) rfl)) (hw _ (List.mem_of_getElem? (i := 34) rfl)) (by decide)) (Cond.privateMethod_at (mvP hZ (hw _ (List.mem_of_getElem? (i := 35) rfl)) (args := #[]))) (mvT hZ (hw _ (List.mem_of_getElem? (i := 36) rfl))) (by decide) (backOf (W := 1) (rm6 l Z a0 hw [] o0 (0 : Int32) (0 : Int32) ta (1 : Int32) gt h0 n0 (Nat.le_trans Z0 K0.1) P3_F P1_F P6_V) hZ (hw _ (List.mem_of_getElem? (i := 36) rfl)) (hw _ (List.mem_of_getElem? (i := 8) rfl)) (by decide) (by decide)) (g := (mkF m 18 #[.val (.ref o0)] [(.int (0 : Int32)), (.ref o0), (.ref tA)])) rfl (by rw [hml]; rfl) (Steps.refl _) (a := o0) (by rw [e7]; exact zq9) zq9' (argsL := [(.int (0 : Int32))]) (rest := [(.ref tA)]) (lenOf pd__28_I_29_I rfl) rfl (by show 2 * 0 + _ ≤ _; exact Nat.le_of_eq rfl) (hb hby d5_18) (fun _ _ => ⟨rfl, e7, (by decide : 0 + 0 ≤ _), (by decide : 0 + 0 ≤ _)⟩)
  dsimp only [Pt.U, Pt.locs, Pt.cells, Pt.slots] at X9 l9 y9 z9 st9 hQ9
  subst l9 y9 z9
  obtain ⟨rfl, N9q, e9⟩ := hQ9
  have N9 := Fr.app N0 N9q
  obtain ⟨M9, Y9, N9⟩ : ∃ M, Stand p l e ({ frames := 1, cells := 0, slots := 0, locals := 15 } : Room) s m #[(.ref o0)] below meth c T9 M 0 0 ∧ Fr n0 M := ⟨_, X9, N9⟩
  have pre9 : Lead p e below G (T9.setTop (mkF m 21 #[.val (.ref o0)] [(.int (if (0 : Int32) < (1 : Int32) then (0 : Int32) else (-1 : Int32))), (.ref tA)])) := fun t k => pre8 t (st9.trans k)
  have hr9 : (if (0 : Int32) < (1 : Int32) then (0 : Int32) else (-1 : Int32)) = (0 : Int32) := by decide
  have pre9b : Lead p e below G (T9.setTop (mkF m 21 #[.val (.ref o0)] [(.int (0 : Int32)), (.ref tA)])) := by have q := pre9; rw [hr9] at q; exact q
  obtain ⟨cl10, Ar10, hin10, hat10⟩ := P7_V.in (j := (0 : Int32)) ⟨by decide, by decide⟩
  have st10 := Y9.laload hx (j := (0 : Int32)) (v := (.long (gT 0))) (by rw [e9]; exact Ar10.1) (State.isArrayOf_alike hZ.alike Ar10.2.1) Ar10.2.2 hin10 hat10 (g := (mkF m 21 #[.val (.ref o0)] [(.int (0 : Int32)), (.ref tA)])) rfl rfl (hb hby d5_21)
  have pre10 : Lead p e below G (T9.setTop (mkF m 22 #[.val (.ref o0)] [(.long (gT 0))])) := fun t k => pre9b t (st10 _ k)
  obtain ⟨fs, hr, hrun, hended, hW, hsame⟩ := Y9.leave (v := some (.long (gT 0))) (fun h => by rw [Bd.returns] at h; cases h)
  subst hG
  refine ⟨_, _, pre10 _ ?_, hrun, hended, _, _, rfl, ?_, ⟨_, rfl⟩, hW, hsame.mono (by decide) (by decide)⟩
  · show Steps p.tables e below (T9.setTop (mkF m 22 #[.val (.ref o0)] [(.long (gT 0))])) _
    refine XS.goto Y9.here hx rfl (pc0 := 22) (pc' := 29) rfl (hb hby d5_22) (by decide) (by decide) ?_
    show Steps p.tables e below (T9.setTop (mkF m 29 #[.val (.ref o0)] [(.long (gT 0))])) _
    exact retJ Y9 hx Bd.returns (hb hby d5_29) hr
  · show Q5_0_1_1 Z o0 ta tA bf gt gT h0 n0 _ T9.heap _
    rw [e9]
    have hv_ : (gT 0) = F5_0_1_1 gT := by
      skip
      rfl
    exact ⟨congrArg (fun z => some (Value.long z)) hv_, N9, rfl⟩
theorem d8_0 : decode prog_21_method_12_code 0 = .ok (.iload_n 2, 1) := by decide +kernel
theorem d8_1 : decode prog_21_method_12_code 1 = .ok (.newarray .long, 2) := by decide +kernel
theorem d8_3 : decode prog_21_method_12_code 3 = .ok (.astore_n 3, 1) := by decide +kernel
theorem d8_4 : decode prog_21_method_12_code 4 = .ok (.iconst 0, 1) := by decide +kernel
theorem d8_5 : decode prog_21_method_12_code 5 = .ok (.istore 4, 2) := by decide +kernel
theorem d8_7 : decode prog_21_method_12_code 7 = .ok (.iload 4, 2) := by decide +kernel
theorem d8_9 : decode prog_21_method_12_code 9 = .ok (.aload_n 0, 1) := by decide +kernel
theorem d8_10 : decode prog_21_method_12_code 10 = .ok (.getfield 16, 3) := by decide +kernel
theorem d8_13 : decode prog_21_method_12_code 13 = .ok (.if_icmp .ge 21, 3) := by decide +kernel
theorem d8_16 : decode prog_21_method_12_code 16 = .ok (.aload_n 3, 1) := by decide +kernel
theorem d8_17 : decode prog_21_method_12_code 17 = .ok (.iload 4, 2) := by decide +kernel
theorem d8_19 : decode prog_21_method_12_code 19 = .ok (.aload_n 1, 1) := by decide +kernel
theorem d8_20 : decode prog_21_method_12_code 20 = .ok (.aload_n 0, 1) := by decide +kernel
theorem d8_21 : decode prog_21_method_12_code 21 = .ok (.iload 4, 2) := by decide +kernel
theorem d8_23 : decode prog_21_method_12_code 23 = .ok (.invokevirtual 23, 3) := by decide +kernel
theorem d8_26 : decode prog_21_method_12_code 26 = .ok (.laload, 1) := by decide +kernel
theorem d8_27 : decode prog_21_method_12_code 27 = .ok (.lastore, 1) := by decide +kernel
theorem d8_28 : decode prog_21_method_12_code 28 = .ok (.iinc 4 1, 3) := by decide +kernel
theorem d8_31 : decode prog_21_method_12_code 31 = .ok (.goto (-24), 3) := by decide +kernel
theorem d8_34 : decode prog_21_method_12_code 34 = .ok (.aload_n 3, 1) := by decide +kernel
theorem d8_35 : decode prog_21_method_12_code 35 = .ok (.areturn, 1) := by decide +kernel
theorem ef_8_0_1_1_2 (m : MethodId) (o0 : Addr) (o1 : Addr) : entryFrame m #[(.ref o0), (.ref o1), (.int (2 : Int32))] 5 = mkF m 0 #[.val (.ref o0), .val (.ref o1), .val (.int (2 : Int32)), .unset, .unset] [] := by first | (simp [entryFrame, mkF, argsToLocals, Value.category]; done) | rfl
def Q8_0_1_1_2 (Z : State) (o0 : Addr) (o1 : Addr) (ta : Addr) (gt : Nat → Int64) (go : Nat → Int64) (h0 : Heap) (n0 : Nat) (v : Option Value) (h : Heap) (L : List Loc) : Prop := ∃ nb : Addr, v = some (.ref nb) ∧ Fr n0 L ∧ Keep h0 h [] ∧ h0.size ≤ nb ∧ JV Value.long Z h nb .long (2 : Int32) (updF (fun _ => (0 : Int64)) 0 (go 0))
set_option maxRecDepth 65536 in
set_option maxHeartbeats 40000000 in
theorem rm8_0_1_1_2 (l : Launch) (Z : State) (a0 : Array Value) (hw : ∀ d ∈ tables_1, d.before a0 Z = true) (ws : List Jvm.Cond) (o0 : Addr) (o1 : Addr) (ta : Addr) (gt : Nat → Int64) (go : Nat → Int64) (h0 : Heap) (n0 : Nat) (Z0 : n0 ≤ h0.size) (P0_E : Exa Z h0 o0 "com/example/lean_throttle/leanthrottle/TimeRing") (P1_F : Fld Z h0 o0 "com/example/lean_throttle/leanthrottle/TimeRing" "times" "[J" (.ref ta)) (P2_F : Fld Z h0 o0 "com/example/lean_throttle/leanthrottle/TimeRing" "first" "I" (.int (0 : Int32))) (P3_F : Fld Z h0 o0 "com/example/lean_throttle/leanthrottle/TimeRing" "size" "I" (.int (1 : Int32))) (P4_V : JV Value.long Z h0 ta .long (1 : Int32) gt) (P5_V : JV Value.long Z h0 o1 .long (1 : Int32) go) :
    MetFree l (⟨"com/example/lean_throttle/leanthrottle/TimeRing", "unwrapped", "([JI)[J"⟩ : MethodName) (head1 (Jvm.Cond.code (⟨"com/example/lean_throttle/leanthrottle/TimeRing", "unwrapped", "([JI)[J"⟩ : MethodName) prog_21_method_12_code 5 (some (.array .long)) :: ws) ({ frames := 1, cells := 1, slots := 2, locals := 17 } : Room)) (fun a U => a = #[(.ref o0), (.ref o1), (.int (2 : Int32))] ∧ Z.Warmed39 U.vm ∧ U.heap = h0) (fun _ _ _ _ _ => True) (fun _ U o U' => ∃ v L, o = .returned v ∧ Q8_0_1_1_2 Z o0 o1 ta gt go h0 n0 v U'.heap L ∧ FrameEnd U o U' L ({ frames := 1, cells := 1, slots := 2, locals := 17 } : Room).cells ({ frames := 1, cells := 1, slots := 2, locals := 17 } : Room).slots) := by
  refine MetFree.of_bodySF (plainFor_of_name pn_com_example_lean_throttle_leanthrottle_TimeRing) hisR ?_
  intro p e s m args below meth c s₁ Bd hml0 hP hK
  obtain ⟨rfl, hZ, hh⟩ := hP
  have hx := Bd.exec
  have hby := Bd.bytes
  have hml : c.maxLocals = 5 := hml0
  have hown : s.vm.findClass "com/example/lean_throttle/leanthrottle/TimeRing" = some m.cls := findClass_of_methodNamed Bd.named
  have hnm := (name_of_methodNamed Bd.named Bd.method).1
  have X0 : Stand p l e ({ frames := 1, cells := 1, slots := 2, locals := 17 } : Room) s m #[(.ref o0), (.ref o1), (.int (2 : Int32))] below meth c s₁ [] 0 0 := Stand.of_body Bd
  have e0 : s₁.heap = h0 := by rw [← hh, Bd.state]; rfl
  have N0 := Fr.nil n0
  have K0 : Keep h0 h0 [] := Keep.refl _ _
  obtain ⟨G, hG⟩ : ∃ z, z = s₁.setTop (entryFrame m #[(.ref o0), (.ref o1), (.int (2 : Int32))] 5) := ⟨_, rfl⟩
  have pre0 : Lead p e below G (s₁.setTop (mkF m 0 #[.val (.ref o0), .val (.ref o1), .val (.int (2 : Int32)), .unset, .unset] [])) := fun t k => by rw [hG]; exact castTop (ef_8_0_1_1_2 m o0 o1) k
  have pre1 : Lead p e below G (s₁.setTop (mkF m 1 #[.val (.ref o0), .val (.ref o1), .val (.int (2 : Int32)), .unset, .unset] [(.int (2 : Int32))])) := fun t k => by
    refine pre0 t ?_
    show Steps p.tables e below (s₁.setTop (mkF m 0 #[.val (.ref o0), .val (.ref o1), .val (.int (2 : Int32)), .unset, .unset] [])) _
    refine XS.iloadN X0.here hx rfl (hb hby d8_0) rfl ?_
    show Steps p.tables e below (s₁.setTop (mkF m 1 #[.val (.ref o0), .val (.ref o1), .val (.int (2 : Int32)), .unset, .unset] [(.int (2 : Int32))])) _
    exact k
  obtain ⟨T2, h2, k2, X2, e2, E2, A2, st2⟩ := newP X0 hx hZ (hw _ (List.mem_of_getElem? (i := 15) rfl)) e0 (g := (mkF m 1 #[.val (.ref o0), .val (.ref o1), .val (.int (2 : Int32)), .unset, .unset] [(.int (2 : Int32))])) rfl (hb hby d8_1) rfl (by decide) (cap := 2) (by decide) (by decide) (by decide) (by decide)
  obtain ⟨b2, g2⟩ : ∃ z, z = h0.size := ⟨_, rfl⟩
  rw [← g2] at A2 st2
  have ne2_o0 : o0 ≠ b2 := Nat.ne_of_lt (Nat.lt_of_lt_of_le P0_E.lt (Nat.le_of_eq g2.symm))
  have ne2_ta : ta ≠ b2 := Nat.ne_of_lt (Nat.lt_of_lt_of_le P4_V.lt (Nat.le_of_eq g2.symm))
  have ne2_o1 : o1 ≠ b2 := Nat.ne_of_lt (Nat.lt_of_lt_of_le P5_V.lt (Nat.le_of_eq g2.symm))
  have sz2 : h0.size ≤ b2 := Nat.le_trans K0.1 (Nat.le_of_eq g2.symm)
  have ge2 : n0 ≤ b2 := Nat.le_trans Z0 sz2
  have K2 : Keep h0 h2 [] := K0.ext E2
  have V2 : JV Value.long Z h2 b2 .long (2 : Int32) (fun _ => (0 : Int64)) := JV.new A2 (by decide) _ rfl
  have pre2 : Lead p e below G (T2.setTop (mkF m 3 #[.val (.ref o0), .val (.ref o1), .val (.int (2 : Int32)), .unset, .unset] [(.ref b2)])) := fun t k => pre1 t (st2 _ k)
  have pre3 : Lead p e below G (T2.setTop (mkF m 10 #[.val (.ref o0), .val (.ref o1), .val (.int (2 : Int32)), .val (.ref b2), .val (.int (0 : Int32))] [(.ref o0), (.int (0 : Int32))])) := fun t k => by
    refine pre2 t ?_
    show Steps p.tables e below (T2.setTop (mkF m 3 #[.val (.ref o0), .val (.ref o1), .val (.int (2 : Int32)), .unset, .unset] [(.ref b2)])) _
    refine XS.astoreN X2.here hx rfl (hb hby d8_3) rfl rfl (l' := #[.val (.ref o0), .val (.ref o1), .val (.int (2 : Int32)), .val (.ref b2), .unset]) rfl ?_
    show Steps p.tables e below (T2.setTop (mkF m 4 #[.val (.ref o0), .val (.ref o1), .val (.int (2 : Int32)), .val (.ref b2), .unset] [])) _
    refine XS.iconst X2.here hx rfl (hb hby d8_4) ?_
    show Steps p.tables e below (T2.setTop (mkF m 5 #[.val (.ref o0), .val (.ref o1), .val (.int (2 : Int32)), .val (.ref b2), .unset] [(.int (0 : Int32))])) _
    refine XS.istore X2.here hx rfl (hb hby d8_5) rfl (l' := #[.val (.ref o0), .val (.ref o1), .val (.int (2 : Int32)), .val (.ref b2), .val (.int (0 : Int32))]) rfl ?_
    show Steps p.tables e below (T2.setTop (mkF m 7 #[.val (.ref o0), .val (.ref o1), .val (.int (2 : Int32)), .val (.ref b2), .val (.int (0 : Int32))] [])) _
    refine XS.iload X2.here hx rfl (hb hby d8_7) rfl ?_
    show Steps p.tables e below (T2.setTop (mkF m 9 #[.val (.ref o0), .val (.ref o1), .val (.int (2 : Int32)), .val (.ref b2), .val (.int (0 : Int32))] [(.int (0 : Int32))])) _
    refine XS.aloadN X2.here hx rfl (hb hby d8_9) rfl rfl ?_
    show Steps p.tables e below (T2.setTop (mkF m 10 #[.val (.ref o0), .val (.ref o1), .val (.int (2 : Int32)), .val (.ref b2), .val (.int (0 : Int32))] [(.ref o0), (.int (0 : Int32))])) _
    exact k
  have f5 : Fld Z h2 o0 "com/example/lean_throttle/leanthrottle/TimeRing" "size" "I" (.int (1 : Int32)) := (P3_F.ext E2)
  obtain ⟨T4, X4, e4, st4⟩ := getF X2 hx hZ hown (host := "") (Or.inl (hw _ (List.mem_of_getElem? (i := 29) rfl))) Via.refl e2 f5 (g := (mkF m 10 #[.val (.ref o0), .val (.ref o1), .val (.int (2 : Int32)), .val (.ref b2), .val (.int (0 : Int32))] [(.ref o0), (.int (0 : Int32))])) rfl rfl (hb hby d8_10)
  have pre4 : Lead p e below G (T4.setTop (mkF m 13 #[.val (.ref o0), .val (.ref o1), .val (.int (2 : Int32)), .val (.ref b2), .val (.int (0 : Int32))] [(.int (1 : Int32)), (.int (0 : Int32))])) := fun t k => pre3 t (st4 _ k)
  have hf6 : (0 : Int32) < (1 : Int32) := (by decide)
  have pre7 : Lead p e below G (T4.setTop (mkF m 23 #[.val (.ref o0), .val (.ref o1), .val (.int (2 : Int32)), .val (.ref b2), .val (.int (0 : Int32))] [(.int (0 : Int32)), (.ref o0), (.ref o1), (.int (0 : Int32)), (.ref b2)])) := fun t k => by
    refine pre4 t ?_
    show Steps p.tables e below (T4.setTop (mkF m 13 #[.val (.ref o0), .val (.ref o1), .val (.int (2 : Int32)), .val (.ref b2), .val (.int (0 : Int32))] [(.int (1 : Int32)), (.int (0 : Int32))])) _
    refine XS.icmpNo X4.here hx rfl (hb hby d8_13) rfl (tlt hf6).2.1 ?_
    show Steps p.tables e below (T4.setTop (mkF m 16 #[.val (.ref o0), .val (.ref o1), .val (.int (2 : Int32)), .val (.ref b2), .val (.int (0 : Int32))] [])) _
    refine XS.aloadN X4.here hx rfl (hb hby d8_16) rfl rfl ?_
    show Steps p.tables e below (T4.setTop (mkF m 17 #[.val (.ref o0), .val (.ref o1), .val (.int (2 : Int32)), .val (.ref b2), .val (.int (0 : Int32))] [(.ref b2)])) _
    refine XS.iload X4.here hx rfl (hb hby d8_17) rfl ?_
    show Steps p.tables e below (T4.setTop (mkF m 19 #[.val (.ref o0), .val (.ref o1), .val (.int (2 : Int32)), .val (.ref b2), .val (.int (0 : Int32))] [(.int (0 : Int32)), (.ref b2)])) _
    refine XS.aloadN X4.here hx rfl (hb hby d8_19) rfl rfl ?_
    show Steps p.tables e below (T4.setTop (mkF m 20 #[.val (.ref o0), .val (.ref o1), .val (.int (2 : Int32)), .val (.ref b2), .val (.int (0 : Int32))] [(.ref o1), (.int (0 : Int32)), (.ref b2)])) _
    refine XS.aloadN X4.here hx rfl (hb hby d8_20) rfl rfl ?_
    show Steps p.tables e below (T4.setTop (mkF m 21 #[.val (.ref o0), .val (.ref o1), .val (.int (2 : Int32)), .val (.ref b2), .val (.int (0 : Int32))] [(.ref o0), (.ref o1), (.int (0 : Int32)), (.ref b2)])) _
    refine XS.iload X4.here hx rfl (hb hby d8_21) rfl ?_
    show Steps p.tables e below (T4.setTop (mkF m 23 #[.val (.ref o0), .val (.ref o1), .val (.int (2 : Int32)), .val (.ref b2), .val (.int (0 : Int32))] [(.int (0 : Int32)), (.ref o0), (.ref o1), (.int (0 : Int32)), (.ref b2)])) _
    exact k
  have f9 : Fld Z h2 o0 "com/example/lean_throttle/leanthrottle/TimeRing" "first" "I" (.int (0 : Int32)) := (P2_F.ext E2)
  have f10 : Fld Z h2 o0 "com/example/lean_throttle/leanthrottle/TimeRing" "times" "[J" (.ref ta) := (P1_F.ext E2)
  have f11 : JV Value.long Z h2 ta .long (1 : Int32) gt := (P4_V.ext E2)
  have f12 : Exa Z h2 o0 "com/example/lean_throttle/leanthrottle/TimeRing" := (P0_E.ext E2)
  obtain ⟨cq8, zq8, zq8'⟩ := f12.cell
  obtain ⟨_, _, ⟨T8, L8, k8, n8⟩, -, X8, ⟨Lc8, hQ8, l8, y8, z8⟩, st8⟩ := X4.privateBack hx (y := (⟨"com/example/lean_throttle/leanthrottle/TimeRing", "at", "(I)I"⟩ : MethodName)) hown (mvT hZ (hw _ (List.mem_of_getElem? (i := 33) rfl))) (mvT hZ (hw _ (List.mem_of_getElem? (i := 34) rfl))) (own_selp hZ (hw _ (List.mem_of_getElem? (i := 7) rfl)) (hw _ (List.mem_of_getElem? (i := 35) rfl)) (hw _ (List.mem_of_getElem? (i := 34) rfl)) (by decide)) (Cond.privateMethod_at (mvP hZ (hw _ (List.mem_of_getElem? (i := 35) rfl)) (args := #[]))) (mvT hZ (hw _ (List.mem_of_getElem? (i := 36) rfl))) (by decide) (backOf (W := 3) (rm6 l Z a0 hw [] o0 (0 : Int32) (0 : Int32) ta (1 : Int32) gt h2 n0 (Nat.le_trans Z0 K2.1) f9 f10 f11) hZ (hw _ (List.mem_of_getElem? (i := 36) rfl)) (hw _ (List.mem_of_getElem? (i := 8) rfl)) (by decide) (by decide)) (g := (mkF m 23 #[.val (.ref o0), .val (.ref o1), .val (.int (2 : Int32)), .val (.ref b2), .val (.int (0 : Int32))] [(.int (0 : Int32)), (.ref o0), (.ref o1), (.int (0 : Int32)), (.ref b2)])) rfl (by rw [hml]; rfl) (Steps.refl _) (a := o0) (by rw [e4]; exact zq8) zq8' (argsL := [(.int (0 : Int32))]) (rest := [(.ref o1), (.int (0 : Int32)), (.ref b2)]) (lenOf pd__28_I_29_I rfl) rfl (by show 2 * 0 + _ ≤ _; exact Nat.le_of_eq rfl) (hb hby d8_23) (fun _ _ => ⟨rfl, e4, (by decide : 1 + 0 ≤ _), (by decide : 2 + 0 ≤ _)⟩)
  dsimp only [Pt.U, Pt.locs, Pt.cells, Pt.slots] at X8 l8 y8 z8 st8 hQ8
  subst l8 y8 z8
  obtain ⟨rfl, N8q, e8⟩ := hQ8
  have N8 := Fr.app N0 N8q
  obtain ⟨M8, Y8, N8⟩ : ∃ M, Stand p l e ({ frames := 1, cells := 1, slots := 2, locals := 17 } : Room) s m #[(.ref o0), (.ref o1), (.int (2 : Int32))] below meth c T8 M 1 2 ∧ Fr n0 M := ⟨_, X8, N8⟩
  have pre8 : Lead p e below G (T8.setTop (mkF m 26 #[.val (.ref o0), .val (.ref o1), .val (.int (2 : Int32)), .val (.ref b2), .val (.int (0 : Int32))] [(.int (if (0 : Int32) < (1 : Int32) then (0 : Int32) else (-1 : Int32))), (.ref o1), (.int (0 : Int32)), (.ref b2)])) := fun t k => pre7 t (st8.trans k)
  have hr8 : (if (0 : Int32) < (1 : Int32) then (0 : Int32) else (-1 : Int32)) = (0 : Int32) := by decide
  have pre8b : Lead p e below G (T8.setTop (mkF m 26 #[.val (.ref o0), .val (.ref o1), .val (.int (2 : Int32)), .val (.ref b2), .val (.int (0 : Int32))] [(.int (0 : Int32)), (.ref o1), (.int (0 : Int32)), (.ref b2)])) := by have q := pre8; rw [hr8] at q; exact q
  have f14 : JV Value.long Z h2 o1 .long (1 : Int32) go := (P5_V.ext E2)
  obtain ⟨cl13, Ar13, hin13, hat13⟩ := f14.in (j := (0 : Int32)) ⟨by decide, by decide⟩
  have st13 := Y8.laload hx (j := (0 : Int32)) (v := (.long (go 0))) (by rw [e8]; exact Ar13.1) (State.isArrayOf_alike hZ.alike Ar13.2.1) Ar13.2.2 hin13 hat13 (g := (mkF m 26 #[.val (.ref o0), .val (.ref o1), .val (.int (2 : Int32)), .val (.ref b2), .val (.int (0 : Int32))] [(.int (0 : Int32)), (.ref o1), (.int (0 : Int32)), (.ref b2)])) rfl rfl (hb hby d8_26)
  have pre13 : Lead p e below G (T8.setTop (mkF m 27 #[.val (.ref o0), .val (.ref o1), .val (.int (2 : Int32)), .val (.ref b2), .val (.int (0 : Int32))] [(.long (go 0)), (.int (0 : Int32)), (.ref b2)])) := fun t k => pre8b t (st13 _ k)
  obtain ⟨cl15, Ar15, hin15, -⟩ := V2.in (j := (0 : Int32)) ⟨by decide, by decide⟩
  obtain ⟨T15, h15, X15, e15, W15, st15⟩ := stJ Y8 hx hZ e8 Ar15 (j := (0 : Int32)) hin15 (g := (mkF m 27 #[.val (.ref o0), .val (.ref o1), .val (.int (2 : Int32)), .val (.ref b2), .val (.int (0 : Int32))] [(.long (go 0)), (.int (0 : Int32)), (.ref b2)])) rfl rfl (hb hby d8_27)
  have N15 := Fr.snoc X15 N8 ge2
  have K15 : Keep h0 h15 [] := K2.wr W15 (Or.inr sz2)
  obtain ⟨M15, Y15, N15⟩ : ∃ M, Stand p l e ({ frames := 1, cells := 1, slots := 2, locals := 17 } : Room) s m #[(.ref o0), (.ref o1), (.int (2 : Int32))] below meth c T15 M 1 2 ∧ Fr n0 M := ⟨_, X15, N15⟩
  have V15 : JV Value.long Z h15 b2 .long (2 : Int32) (updF (fun _ => (0 : Int64)) 0 (go 0)) := V2.set W15
  have pre15 : Lead p e below G (T15.setTop (mkF m 28 #[.val (.ref o0), .val (.ref o1), .val (.int (2 : Int32)), .val (.ref b2), .val (.int (0 : Int32))] [])) := fun t k => pre13 t (st15 _ k)
  have pre16 : Lead p e below G (T15.setTop (mkF m 10 #[.val (.ref o0), .val (.ref o1), .val (.int (2 : Int32)), .val (.ref b2), .val (.int (1 : Int32))] [(.ref o0), (.int (1 : Int32))])) := fun t k => by
    refine pre15 t ?_
    show Steps p.tables e below (T15.setTop (mkF m 28 #[.val (.ref o0), .val (.ref o1), .val (.int (2 : Int32)), .val (.ref b2), .val (.int (0 : Int32))] [])) _
    refine XS.iinc Y15.here hx rfl (hb hby d8_28) rfl (l' := #[.val (.ref o0), .val (.ref o1), .val (.int (2 : Int32)), .val (.ref b2), .val (.int (1 : Int32))]) rfl ?_
    show Steps p.tables e below (T15.setTop (mkF m 31 #[.val (.ref o0), .val (.ref o1), .val (.int (2 : Int32)), .val (.ref b2), .val (.int (1 : Int32))] [])) _
    refine XS.goto Y15.here hx rfl (pc0 := 31) (pc' := 7) rfl (hb hby d8_31) (by decide) (by decide) ?_
    show Steps p.tables e below (T15.setTop (mkF m 7 #[.val (.ref o0), .val (.ref o1), .val (.int (2 : Int32)), .val (.ref b2), .val (.int (1 : Int32))] [])) _
    refine XS.iload Y15.here hx rfl (hb hby d8_7) rfl ?_
    show Steps p.tables e below (T15.setTop (mkF m 9 #[.val (.ref o0), .val (.ref o1), .val (.int (2 : Int32)), .val (.ref b2), .val (.int (1 : Int32))] [(.int (1 : Int32))])) _
    refine XS.aloadN Y15.here hx rfl (hb hby d8_9) rfl rfl ?_
    show Steps p.tables e below (T15.setTop (mkF m 10 #[.val (.ref o0), .val (.ref o1), .val (.int (2 : Int32)), .val (.ref b2), .val (.int (1 : Int32))] [(.ref o0), (.int (1 : Int32))])) _
    exact k
  have f18 : Fld Z h15 o0 "com/example/lean_throttle/leanthrottle/TimeRing" "size" "I" (.int (1 : Int32)) := (f5.other W15 (Or.inl ne2_o0))
  obtain ⟨T17, X17, e17, st17⟩ := getF Y15 hx hZ hown (host := "") (Or.inl (hw _ (List.mem_of_getElem? (i := 29) rfl))) Via.refl e15 f18 (g := (mkF m 10 #[.val (.ref o0), .val (.ref o1), .val (.int (2 : Int32)), .val (.ref b2), .val (.int (1 : Int32))] [(.ref o0), (.int (1 : Int32))])) rfl rfl (hb hby d8_10)
  have pre17 : Lead p e below G (T17.setTop (mkF m 13 #[.val (.ref o0), .val (.ref o1), .val (.int (2 : Int32)), .val (.ref b2), .val (.int (1 : Int32))] [(.int (1 : Int32)), (.int (1 : Int32))])) := fun t k => pre16 t (st17 _ k)
  have hf19 : ¬ ((1 : Int32) < (1 : Int32)) := (by decide)
  obtain ⟨fs, hr, hrun, hended, hW, hsame⟩ := X17.leave (v := some (.ref b2)) (fun h => by rw [Bd.returns] at h; cases h)
  subst hG
  refine ⟨_, _, pre17 _ ?_, hrun, hended, _, _, rfl, ?_, ⟨_, rfl⟩, hW, hsame.mono (by decide) (by decide)⟩
  · show Steps p.tables e below (T17.setTop (mkF m 13 #[.val (.ref o0), .val (.ref o1), .val (.int (2 : Int32)), .val (.ref b2), .val (.int (1 : Int32))] [(.int (1 : Int32)), (.int (1 : Int32))])) _
    refine XS.icmpYes X17.here hx rfl (pc0 := 13) (pc' := 34) rfl (hb hby d8_13) rfl (flt hf19).2.1 (by decide) (by decide) ?_
    show Steps p.tables e below (T17.setTop (mkF m 34 #[.val (.ref o0), .val (.ref o1), .val (.int (2 : Int32)), .val (.ref b2), .val (.int (1 : Int32))] [])) _
    refine XS.aloadN X17.here hx rfl (hb hby d8_34) rfl rfl ?_
    show Steps p.tables e below (T17.setTop (mkF m 35 #[.val (.ref o0), .val (.ref o1), .val (.int (2 : Int32)), .val (.ref b2), .val (.int (1 : Int32))] [(.ref b2)])) _
    jvm_step X17.here [X17.here.top, hx, (hb hby d8_35), X17.method', Bd.returns, Value.isRef, FieldType.isReference]
    first | (intro acts; rw [hr _ acts rfl rfl rfl]) | rw [hr _ _ rfl rfl rfl]
    exact Steps.refl _
  · show Q8_0_1_1_2 Z o0 o1 ta gt go h0 n0 _ T17.heap _
    rw [e17]
    exact ⟨b2, congrArg (fun z => some (Value.ref z)) (show b2 = b2 from rfl), N15, K15, sz2, V15⟩
theorem pd__28__5b_JI_29__5b_J : parseMethodDescriptor "([JI)[J" = some ⟨[(.array .long), .int], some (.array .long)⟩ := by decide +kernel
theorem d4_18 : decode prog_21_method_10_code 18 = .ok (.ldc2_w 41, 3) := by decide +kernel
theorem d4_21 : decode prog_21_method_10_code 21 = .ok (.aload_n 0, 1) := by decide +kernel
theorem d4_22 : decode prog_21_method_10_code 22 = .ok (.getfield 7, 3) := by decide +kernel
theorem d4_25 : decode prog_21_method_10_code 25 = .ok (.arraylength, 1) := by decide +kernel
theorem d4_26 : decode prog_21_method_10_code 26 = .ok (.i2l, 1) := by decide +kernel
theorem d4_27 : decode prog_21_method_10_code 27 = .ok (.lmul, 1) := by decide +kernel
theorem d4_28 : decode prog_21_method_10_code 28 = .ok (.iload 5, 2) := by decide +kernel
theorem d4_30 : decode prog_21_method_10_code 30 = .ok (.i2l, 1) := by decide +kernel
theorem d4_31 : decode prog_21_method_10_code 31 = .ok (.invokestatic 43, 3) := by decide +kernel
theorem d4_34 : decode prog_21_method_10_code 34 = .ok (.l2i, 1) := by decide +kernel
theorem d4_35 : decode prog_21_method_10_code 35 = .ok (.istore 8, 2) := by decide +kernel
theorem d4_37 : decode prog_21_method_10_code 37 = .ok (.aload_n 0, 1) := by decide +kernel
theorem d4_38 : decode prog_21_method_10_code 38 = .ok (.aload_n 0, 1) := by decide +kernel
theorem d4_39 : decode prog_21_method_10_code 39 = .ok (.getfield 7, 3) := by decide +kernel
theorem d4_42 : decode prog_21_method_10_code 42 = .ok (.iload 8, 2) := by decide +kernel
theorem d4_44 : decode prog_21_method_10_code 44 = .ok (.invokevirtual 46, 3) := by decide +kernel
theorem d4_47 : decode prog_21_method_10_code 47 = .ok (.astore 9, 2) := by decide +kernel
theorem d4_49 : decode prog_21_method_10_code 49 = .ok (.aload_n 0, 1) := by decide +kernel
theorem d4_50 : decode prog_21_method_10_code 50 = .ok (.aload_n 0, 1) := by decide +kernel
theorem d4_51 : decode prog_21_method_10_code 51 = .ok (.getfield 13, 3) := by decide +kernel
theorem d4_54 : decode prog_21_method_10_code 54 = .ok (.iload 8, 2) := by decide +kernel
theorem d4_56 : decode prog_21_method_10_code 56 = .ok (.invokevirtual 46, 3) := by decide +kernel
theorem d4_59 : decode prog_21_method_10_code 59 = .ok (.astore 10, 2) := by decide +kernel
theorem d4_61 : decode prog_21_method_10_code 61 = .ok (.aload_n 0, 1) := by decide +kernel
theorem d4_62 : decode prog_21_method_10_code 62 = .ok (.aload 9, 2) := by decide +kernel
theorem d4_64 : decode prog_21_method_10_code 64 = .ok (.putfield 7, 3) := by decide +kernel
theorem d4_67 : decode prog_21_method_10_code 67 = .ok (.aload_n 0, 1) := by decide +kernel
theorem d4_68 : decode prog_21_method_10_code 68 = .ok (.aload 10, 2) := by decide +kernel
theorem d4_70 : decode prog_21_method_10_code 70 = .ok (.putfield 13, 3) := by decide +kernel
theorem d4_73 : decode prog_21_method_10_code 73 = .ok (.aload_n 0, 1) := by decide +kernel
theorem d4_74 : decode prog_21_method_10_code 74 = .ok (.iconst 0, 1) := by decide +kernel
theorem d4_75 : decode prog_21_method_10_code 75 = .ok (.putfield 20, 3) := by decide +kernel
theorem ef_4_0_1_1_2 (m : MethodId) (o0 : Addr) (q1 : Int64) (q2 : Int64) : entryFrame m #[(.ref o0), (.long q1), (.long q2), (.int (2 : Int32))] 11 = mkF m 0 #[.val (.ref o0), .val (.long q1), .second, .val (.long q2), .second, .val (.int (2 : Int32)), .unset, .unset, .unset, .unset, .unset] [] := by first | (simp [entryFrame, mkF, argsToLocals, Value.category]; done) | rfl
def Q4_0_1_1_2 (Z : State) (o0 : Addr) (q1 : Int64) (q2 : Int64) (ta : Addr) (tA : Addr) (bf : Int64) (gt : Nat → Int64) (gT : Nat → Int64) (h0 : Heap) (n0 : Nat) (v : Option Value) (h : Heap) (L : List Loc) : Prop := ∃ n1 : Addr, ∃ n2 : Addr, v = none ∧ Fr n0 L ∧ Keep h0 h [o0] ∧ Exa Z h o0 "com/example/lean_throttle/leanthrottle/TimeRing" ∧ Fld Z h o0 "com/example/lean_throttle/leanthrottle/TimeRing" "times" "[J" (.ref n1) ∧ Fld Z h o0 "com/example/lean_throttle/leanthrottle/TimeRing" "totals" "[J" (.ref n2) ∧ Fld Z h o0 "com/example/lean_throttle/leanthrottle/TimeRing" "first" "I" (.int (0 : Int32)) ∧ Fld Z h o0 "com/example/lean_throttle/leanthrottle/TimeRing" "size" "I" (.int (2 : Int32)) ∧ Fld Z h o0 "com/example/lean_throttle/leanthrottle/TimeRing" "totalBefore" "J" (.long bf) ∧ h0.size ≤ n1 ∧ h0.size ≤ n2 ∧ n1 ≠ n2 ∧ JV Value.long Z h n1 .long (2 : Int32) (updF (updF (fun _ => (0 : Int64)) 0 (gt 0)) 1 q1) ∧ JV Value.long Z h n2 .long (2 : Int32) (updF (updF (fun _ => (0 : Int64)) 0 (gT 0)) 1 ((gT 0) + q2))
set_option maxRecDepth 65536 in
set_option maxHeartbeats 40000000 in
theorem rm4_0_1_1_2 (l : Launch) (Z : State) (a0 : Array Value) (hw : ∀ d ∈ tables_1, d.before a0 Z = true) (ws : List Jvm.Cond) (o0 : Addr) (q1 : Int64) (q2 : Int64) (ta : Addr) (tA : Addr) (bf : Int64) (gt : Nat → Int64) (gT : Nat → Int64) (h0 : Heap) (n0 : Nat) (Z0 : n0 ≤ h0.size) (P0_E : Exa Z h0 o0 "com/example/lean_throttle/leanthrottle/TimeRing") (P1_F : Fld Z h0 o0 "com/example/lean_throttle/leanthrottle/TimeRing" "times" "[J" (.ref ta)) (P2_F : Fld Z h0 o0 "com/example/lean_throttle/leanthrottle/TimeRing" "totals" "[J" (.ref tA)) (P3_F : Fld Z h0 o0 "com/example/lean_throttle/leanthrottle/TimeRing" "first" "I" (.int (0 : Int32))) (P4_F : Fld Z h0 o0 "com/example/lean_throttle/leanthrottle/TimeRing" "size" "I" (.int (1 : Int32))) (P5_F : Fld Z h0 o0 "com/example/lean_throttle/leanthrottle/TimeRing" "totalBefore" "J" (.long bf)) (P6_V : JV Value.long Z h0 ta .long (1 : Int32) gt) (P7_V : JV Value.long Z h0 tA .long (1 : Int32) gT) (P8_NE : o0 ≠ ta) (P9_NE : o0 ≠ tA) (P10_NE : ta ≠ tA) (P11_G : n0 ≤ o0) :
    MetFree l (⟨"com/example/lean_throttle/leanthrottle/TimeRing", "add", "(JJI)V"⟩ : MethodName) (head1 (Jvm.Cond.code (⟨"com/example/lean_throttle/leanthrottle/TimeRing", "add", "(JJI)V"⟩ : MethodName) prog_21_method_10_code 11 none :: ws) ({ frames := 2, cells := 2, slots := 4, locals := 33 } : Room)) (fun a U => a = #[(.ref o0), (.long q1), (.long q2), (.int (2 : Int32))] ∧ Z.Warmed39 U.vm ∧ U.heap = h0) (fun _ _ _ _ _ => True) (fun _ U o U' => ∃ v L, o = .returned v ∧ Q4_0_1_1_2 Z o0 q1 q2 ta tA bf gt gT h0 n0 v U'.heap L ∧ FrameEnd U o U' L ({ frames := 2, cells := 2, slots := 4, locals := 33 } : Room).cells ({ frames := 2, cells := 2, slots := 4, locals := 33 } : Room).slots) := by
  refine MetFree.of_bodySF (plainFor_of_name pn_com_example_lean_throttle_leanthrottle_TimeRing) hisR ?_
  intro p e s m args below meth c s₁ Bd hml0 hP hK
  obtain ⟨rfl, hZ, hh⟩ := hP
  have hx := Bd.exec
  have hby := Bd.bytes
  have hml : c.maxLocals = 11 := hml0
  have hown : s.vm.findClass "com/example/lean_throttle/leanthrottle/TimeRing" = some m.cls := findClass_of_methodNamed Bd.named
  have hnm := (name_of_methodNamed Bd.named Bd.method).1
  have X0 : Stand p l e ({ frames := 2, cells := 2, slots := 4, locals := 33 } : Room) s m #[(.ref o0), (.long q1), (.long q2), (.int (2 : Int32))] below meth c s₁ [] 0 0 := Stand.of_body Bd
  have e0 : s₁.heap = h0 := by rw [← hh, Bd.state]; rfl
  have N0 := Fr.nil n0
  have K0 : Keep h0 h0 [o0] := Keep.refl _ _
  obtain ⟨G, hG⟩ : ∃ z, z = s₁.setTop (entryFrame m #[(.ref o0), (.long q1), (.long q2), (.int (2 : Int32))] 11) := ⟨_, rfl⟩
  have pre0 : Lead p e below G (s₁.setTop (mkF m 0 #[.val (.ref o0), .val (.long q1), .second, .val (.long q2), .second, .val (.int (2 : Int32)), .unset, .unset, .unset, .unset, .unset] [])) := fun t k => by rw [hG]; exact castTop (ef_4_0_1_1_2 m o0 q1 q2) k
  have pre1 : Lead p e below G (s₁.setTop (mkF m 1 #[.val (.ref o0), .val (.long q1), .second, .val (.long q2), .second, .val (.int (2 : Int32)), .unset, .unset, .unset, .unset, .unset] [(.ref o0)])) := fun t k => by
    refine pre0 t ?_
    show Steps p.tables e below (s₁.setTop (mkF m 0 #[.val (.ref o0), .val (.long q1), .second, .val (.long q2), .second, .val (.int (2 : Int32)), .unset, .unset, .unset, .unset, .unset] [])) _
    refine XS.aloadN X0.here hx rfl (hb hby d4_0) rfl rfl ?_
    show Steps p.tables e below (s₁.setTop (mkF m 1 #[.val (.ref o0), .val (.long q1), .second, .val (.long q2), .second, .val (.int (2 : Int32)), .unset, .unset, .unset, .unset, .unset] [(.ref o0)])) _
    exact k
  obtain ⟨cq2, zq2, zq2'⟩ := P0_E.cell
  obtain ⟨_, _, ⟨T2, L2, k2, n2⟩, -, X2, ⟨Lc2, hQ2, l2, y2, z2⟩, st2⟩ := X0.privateBack hx (y := (⟨"com/example/lean_throttle/leanthrottle/TimeRing", "newestTotal", "()J"⟩ : MethodName)) hown (mvT hZ (hw _ (List.mem_of_getElem? (i := 25) rfl))) (mvT hZ (hw _ (List.mem_of_getElem? (i := 26) rfl))) (own_selp hZ (hw _ (List.mem_of_getElem? (i := 7) rfl)) (hw _ (List.mem_of_getElem? (i := 27) rfl)) (hw _ (List.mem_of_getElem? (i := 26) rfl)) (by decide)) (Cond.privateMethod_at (mvP hZ (hw _ (List.mem_of_getElem? (i := 27) rfl)) (args := #[]))) (mvT hZ (hw _ (List.mem_of_getElem? (i := 28) rfl))) (by decide) (backOf (W := 0) (rm5_0_1_1 l Z a0 hw [] o0 ta tA bf gt gT h0 n0 (Nat.le_trans Z0 K0.1) P0_E P1_F P2_F P3_F P4_F P5_F P6_V P7_V P8_NE P9_NE P10_NE) hZ (hw _ (List.mem_of_getElem? (i := 28) rfl)) (hw _ (List.mem_of_getElem? (i := 8) rfl)) (by decide) (by decide)) (g := (mkF m 1 #[.val (.ref o0), .val (.long q1), .second, .val (.long q2), .second, .val (.int (2 : Int32)), .unset, .unset, .unset, .unset, .unset] [(.ref o0)])) rfl (by rw [hml]; rfl) (Steps.refl _) (a := o0) (by rw [e0]; exact zq2) zq2' (argsL := []) (rest := []) (lenOf pd__28__29_J rfl) rfl (by show 2 * 0 + _ ≤ _; exact Nat.le_of_eq rfl) (hb hby d4_1) (fun _ _ => ⟨rfl, e0, (by decide : 0 + 0 ≤ _), (by decide : 0 + 0 ≤ _)⟩)
  dsimp only [Pt.U, Pt.locs, Pt.cells, Pt.slots] at X2 l2 y2 z2 st2 hQ2
  subst l2 y2 z2
  obtain ⟨rfl, N2q, e2⟩ := hQ2
  have N2 := Fr.app N0 N2q
  obtain ⟨M2, Y2, N2⟩ : ∃ M, Stand p l e ({ frames := 2, cells := 2, slots := 4, locals := 33 } : Room) s m #[(.ref o0), (.long q1), (.long q2), (.int (2 : Int32))] below meth c T2 M 0 0 ∧ Fr n0 M := ⟨_, X2, N2⟩
  have pre2 : Lead p e below G (T2.setTop (mkF m 4 #[.val (.ref o0), .val (.long q1), .second, .val (.long q2), .second, .val (.int (2 : Int32)), .unset, .unset, .unset, .unset, .unset] [(.long (gT 0))])) := fun t k => pre1 t (st2.trans k)
  have pre3 : Lead p e below G (T2.setTop (mkF m 7 #[.val (.ref o0), .val (.long q1), .second, .val (.long q2), .second, .val (.int (2 : Int32)), .val (.long (gT 0)), .second, .unset, .unset, .unset] [(.ref o0)])) := fun t k => by
    refine pre2 t ?_
    show Steps p.tables e below (T2.setTop (mkF m 4 #[.val (.ref o0), .val (.long q1), .second, .val (.long q2), .second, .val (.int (2 : Int32)), .unset, .unset, .unset, .unset, .unset] [(.long (gT 0))])) _
    refine XS.lstore Y2.here hx rfl (hb hby d4_4) rfl (l' := #[.val (.ref o0), .val (.long q1), .second, .val (.long q2), .second, .val (.int (2 : Int32)), .val (.long (gT 0)), .second, .unset, .unset, .unset]) rfl ?_
    show Steps p.tables e below (T2.setTop (mkF m 6 #[.val (.ref o0), .val (.long q1), .second, .val (.long q2), .second, .val (.int (2 : Int32)), .val (.long (gT 0)), .second, .unset, .unset, .unset] [])) _
    refine XS.aloadN Y2.here hx rfl (hb hby d4_6) rfl rfl ?_
    show Steps p.tables e below (T2.setTop (mkF m 7 #[.val (.ref o0), .val (.long q1), .second, .val (.long q2), .second, .val (.int (2 : Int32)), .val (.long (gT 0)), .second, .unset, .unset, .unset] [(.ref o0)])) _
    exact k
  obtain ⟨T4, X4, e4, st4⟩ := getF Y2 hx hZ hown (host := "") (Or.inl (hw _ (List.mem_of_getElem? (i := 29) rfl))) Via.refl e2 P4_F (g := (mkF m 7 #[.val (.ref o0), .val (.long q1), .second, .val (.long q2), .second, .val (.int (2 : Int32)), .val (.long (gT 0)), .second, .unset, .unset, .unset] [(.ref o0)])) rfl rfl (hb hby d4_7)
  have pre4 : Lead p e below G (T4.setTop (mkF m 10 #[.val (.ref o0), .val (.long q1), .second, .val (.long q2), .second, .val (.int (2 : Int32)), .val (.long (gT 0)), .second, .unset, .unset, .unset] [(.int (1 : Int32))])) := fun t k => pre3 t (st4 _ k)
  have pre5 : Lead p e below G (T4.setTop (mkF m 11 #[.val (.ref o0), .val (.long q1), .second, .val (.long q2), .second, .val (.int (2 : Int32)), .val (.long (gT 0)), .second, .unset, .unset, .unset] [(.ref o0), (.int (1 : Int32))])) := fun t k => by
    refine pre4 t ?_
    show Steps p.tables e below (T4.setTop (mkF m 10 #[.val (.ref o0), .val (.long q1), .second, .val (.long q2), .second, .val (.int (2 : Int32)), .val (.long (gT 0)), .second, .unset, .unset, .unset] [(.int (1 : Int32))])) _
    refine XS.aloadN X4.here hx rfl (hb hby d4_10) rfl rfl ?_
    show Steps p.tables e below (T4.setTop (mkF m 11 #[.val (.ref o0), .val (.long q1), .second, .val (.long q2), .second, .val (.int (2 : Int32)), .val (.long (gT 0)), .second, .unset, .unset, .unset] [(.ref o0), (.int (1 : Int32))])) _
    exact k
  obtain ⟨T6, X6, e6, st6⟩ := getF X4 hx hZ hown (host := "") (Or.inl (hw _ (List.mem_of_getElem? (i := 16) rfl))) Via.refl e4 P1_F (g := (mkF m 11 #[.val (.ref o0), .val (.long q1), .second, .val (.long q2), .second, .val (.int (2 : Int32)), .val (.long (gT 0)), .second, .unset, .unset, .unset] [(.ref o0), (.int (1 : Int32))])) rfl rfl (hb hby d4_11)
  have pre6 : Lead p e below G (T6.setTop (mkF m 14 #[.val (.ref o0), .val (.long q1), .second, .val (.long q2), .second, .val (.int (2 : Int32)), .val (.long (gT 0)), .second, .unset, .unset, .unset] [(.ref ta), (.int (1 : Int32))])) := fun t k => pre5 t (st6 _ k)
  obtain ⟨cl7, Ar7, len7⟩ := P6_V.len
  have st7 := X6.arraylength hx (by rw [e6]; exact Ar7.1) (State.isArrayOf_alike hZ.alike Ar7.2.1) (g := (mkF m 14 #[.val (.ref o0), .val (.long q1), .second, .val (.long q2), .second, .val (.int (2 : Int32)), .val (.long (gT 0)), .second, .unset, .unset, .unset] [(.ref ta), (.int (1 : Int32))])) rfl rfl (hb hby d4_14)
  rw [len7] at st7
  have pre7 : Lead p e below G (T6.setTop (mkF m 15 #[.val (.ref o0), .val (.long q1), .second, .val (.long q2), .second, .val (.int (2 : Int32)), .val (.long (gT 0)), .second, .unset, .unset, .unset] [(.int (1 : Int32)), (.int (1 : Int32))])) := fun t k => pre6 t (st7 _ k)
  have hf8 : (1 : Int32) = (1 : Int32) := (by decide)
  have pre9 : Lead p e below G (T6.setTop (mkF m 22 #[.val (.ref o0), .val (.long q1), .second, .val (.long q2), .second, .val (.int (2 : Int32)), .val (.long (gT 0)), .second, .unset, .unset, .unset] [(.ref o0), (.long (2 : Int64))])) := fun t k => by
    refine pre7 t ?_
    show Steps p.tables e below (T6.setTop (mkF m 15 #[.val (.ref o0), .val (.long q1), .second, .val (.long q2), .second, .val (.int (2 : Int32)), .val (.long (gT 0)), .second, .unset, .unset, .unset] [(.int (1 : Int32)), (.int (1 : Int32))])) _
    refine XS.icmpNo X6.here hx rfl (hb hby d4_15) rfl (teq hf8).2 ?_
    show Steps p.tables e below (T6.setTop (mkF m 18 #[.val (.ref o0), .val (.long q1), .second, .val (.long q2), .second, .val (.int (2 : Int32)), .val (.long (gT 0)), .second, .unset, .unset, .unset] [])) _
    refine X6.ldc2Long hx hown (mvT hZ (hw _ (List.mem_of_getElem? (i := 39) rfl))) (g := (mkF m 18 #[.val (.ref o0), .val (.long q1), .second, .val (.long q2), .second, .val (.int (2 : Int32)), .val (.long (gT 0)), .second, .unset, .unset, .unset] [])) rfl (hb hby d4_18) _ ?_
    show Steps p.tables e below (T6.setTop (mkF m 21 #[.val (.ref o0), .val (.long q1), .second, .val (.long q2), .second, .val (.int (2 : Int32)), .val (.long (gT 0)), .second, .unset, .unset, .unset] [(.long (2 : Int64))])) _
    refine XS.aloadN X6.here hx rfl (hb hby d4_21) rfl rfl ?_
    show Steps p.tables e below (T6.setTop (mkF m 22 #[.val (.ref o0), .val (.long q1), .second, .val (.long q2), .second, .val (.int (2 : Int32)), .val (.long (gT 0)), .second, .unset, .unset, .unset] [(.ref o0), (.long (2 : Int64))])) _
    exact k
  obtain ⟨T10, X10, e10, st10⟩ := getF X6 hx hZ hown (host := "") (Or.inl (hw _ (List.mem_of_getElem? (i := 16) rfl))) Via.refl e6 P1_F (g := (mkF m 22 #[.val (.ref o0), .val (.long q1), .second, .val (.long q2), .second, .val (.int (2 : Int32)), .val (.long (gT 0)), .second, .unset, .unset, .unset] [(.ref o0), (.long (2 : Int64))])) rfl rfl (hb hby d4_22)
  have pre10 : Lead p e below G (T10.setTop (mkF m 25 #[.val (.ref o0), .val (.long q1), .second, .val (.long q2), .second, .val (.int (2 : Int32)), .val (.long (gT 0)), .second, .unset, .unset, .unset] [(.ref ta), (.long (2 : Int64))])) := fun t k => pre9 t (st10 _ k)
  obtain ⟨cl11, Ar11, len11⟩ := P6_V.len
  have st11 := X10.arraylength hx (by rw [e10]; exact Ar11.1) (State.isArrayOf_alike hZ.alike Ar11.2.1) (g := (mkF m 25 #[.val (.ref o0), .val (.long q1), .second, .val (.long q2), .second, .val (.int (2 : Int32)), .val (.long (gT 0)), .second, .unset, .unset, .unset] [(.ref ta), (.long (2 : Int64))])) rfl rfl (hb hby d4_25)
  rw [len11] at st11
  have pre11 : Lead p e below G (T10.setTop (mkF m 26 #[.val (.ref o0), .val (.long q1), .second, .val (.long q2), .second, .val (.int (2 : Int32)), .val (.long (gT 0)), .second, .unset, .unset, .unset] [(.int (1 : Int32)), (.long (2 : Int64))])) := fun t k => pre10 t (st11 _ k)
  have pre12 : Lead p e below G (T10.setTop (mkF m 31 #[.val (.ref o0), .val (.long q1), .second, .val (.long q2), .second, .val (.int (2 : Int32)), .val (.long (gT 0)), .second, .unset, .unset, .unset] [(.long (2 : Int64)), (.long (2 : Int64))])) := fun t k => by
    refine pre11 t ?_
    show Steps p.tables e below (T10.setTop (mkF m 26 #[.val (.ref o0), .val (.long q1), .second, .val (.long q2), .second, .val (.int (2 : Int32)), .val (.long (gT 0)), .second, .unset, .unset, .unset] [(.int (1 : Int32)), (.long (2 : Int64))])) _
    refine XS.i2l X10.here hx rfl (hb hby d4_26) rfl ?_
    show Steps p.tables e below (T10.setTop (mkF m 27 #[.val (.ref o0), .val (.long q1), .second, .val (.long q2), .second, .val (.int (2 : Int32)), .val (.long (gT 0)), .second, .unset, .unset, .unset] [(.long (1 : Int64)), (.long (2 : Int64))])) _
    refine XS.lmul X10.here hx rfl (hb hby d4_27) rfl ?_
    show Steps p.tables e below (T10.setTop (mkF m 28 #[.val (.ref o0), .val (.long q1), .second, .val (.long q2), .second, .val (.int (2 : Int32)), .val (.long (gT 0)), .second, .unset, .unset, .unset] [(.long (2 : Int64))])) _
    refine XS.iload X10.here hx rfl (hb hby d4_28) rfl ?_
    show Steps p.tables e below (T10.setTop (mkF m 30 #[.val (.ref o0), .val (.long q1), .second, .val (.long q2), .second, .val (.int (2 : Int32)), .val (.long (gT 0)), .second, .unset, .unset, .unset] [(.int (2 : Int32)), (.long (2 : Int64))])) _
    refine XS.i2l X10.here hx rfl (hb hby d4_30) rfl ?_
    show Steps p.tables e below (T10.setTop (mkF m 31 #[.val (.ref o0), .val (.long q1), .second, .val (.long q2), .second, .val (.int (2 : Int32)), .val (.long (gT 0)), .second, .unset, .unset, .unset] [(.long (2 : Int64)), (.long (2 : Int64))])) _
    exact k
  obtain ⟨_, _, ⟨T13, L13, k13, n13⟩, -, X13, ⟨Lc13, hQ13, l13, y13, z13⟩, st13⟩ := Jvm.LawKit.callS X10 hx (y := (⟨"java/lang/Math", "min", "(JJ)J"⟩ : MethodName)) hown (mvT hZ (hw _ (List.mem_of_getElem? (i := 40) rfl))) (mvT hZ (hw _ (List.mem_of_getElem? (i := 41) rfl))) (mvT hZ (hw _ (List.mem_of_getElem? (i := 3) rfl))) (mvT hZ (hw _ (List.mem_of_getElem? (i := 42) rfl))) (by decide) (backOf (W := 0) (rm7 l Z a0 hw [] (2 : Int64) (2 : Int64)  h0 n0 (Nat.le_trans Z0 K0.1) ) hZ (hw _ (List.mem_of_getElem? (i := 42) rfl)) (hw _ (List.mem_of_getElem? (i := 3) rfl)) (by decide) (by decide)) (g := (mkF m 31 #[.val (.ref o0), .val (.long q1), .second, .val (.long q2), .second, .val (.int (2 : Int32)), .val (.long (gT 0)), .second, .unset, .unset, .unset] [(.long (2 : Int64)), (.long (2 : Int64))])) rfl (by rw [hml]; rfl) (argsL := [(.long (2 : Int64)), (.long (2 : Int64))]) (rest := []) (lenOf pd__28_JJ_29_J rfl) rfl (by show 2 * 0 + _ ≤ _; exact Nat.le_of_eq rfl) (hb hby d4_31) (fun _ _ => ⟨rfl, e10, (by decide : 0 + 0 ≤ _), (by decide : 0 + 0 ≤ _)⟩)
  dsimp only [Pt.U, Pt.locs, Pt.cells, Pt.slots] at X13 l13 y13 z13 st13 hQ13
  subst l13 y13 z13
  obtain ⟨rfl, N13q, e13⟩ := hQ13
  have N13 := Fr.app N2 N13q
  obtain ⟨M13, Y13, N13⟩ : ∃ M, Stand p l e ({ frames := 2, cells := 2, slots := 4, locals := 33 } : Room) s m #[(.ref o0), (.long q1), (.long q2), (.int (2 : Int32))] below meth c T13 M 0 0 ∧ Fr n0 M := ⟨_, X13, N13⟩
  have pre13 : Lead p e below G (T13.setTop (mkF m 34 #[.val (.ref o0), .val (.long q1), .second, .val (.long q2), .second, .val (.int (2 : Int32)), .val (.long (gT 0)), .second, .unset, .unset, .unset] [(.long (if (2 : Int64) < (2 : Int64) then (2 : Int64) else (2 : Int64)))])) := fun t k => pre12 t (st13 _ k)
  have hr13 : (if (2 : Int64) < (2 : Int64) then (2 : Int64) else (2 : Int64)) = (2 : Int64) := by decide
  have pre13b : Lead p e below G (T13.setTop (mkF m 34 #[.val (.ref o0), .val (.long q1), .second, .val (.long q2), .second, .val (.int (2 : Int32)), .val (.long (gT 0)), .second, .unset, .unset, .unset] [(.long (2 : Int64))])) := by have q := pre13; rw [hr13] at q; exact q
  have pre14 : Lead p e below G (T13.setTop (mkF m 39 #[.val (.ref o0), .val (.long q1), .second, .val (.long q2), .second, .val (.int (2 : Int32)), .val (.long (gT 0)), .second, .val (.int (2 : Int32)), .unset, .unset] [(.ref o0), (.ref o0)])) := fun t k => by
    refine pre13b t ?_
    show Steps p.tables e below (T13.setTop (mkF m 34 #[.val (.ref o0), .val (.long q1), .second, .val (.long q2), .second, .val (.int (2 : Int32)), .val (.long (gT 0)), .second, .unset, .unset, .unset] [(.long (2 : Int64))])) _
    refine XS.l2i Y13.here hx rfl (hb hby d4_34) rfl ?_
    show Steps p.tables e below (T13.setTop (mkF m 35 #[.val (.ref o0), .val (.long q1), .second, .val (.long q2), .second, .val (.int (2 : Int32)), .val (.long (gT 0)), .second, .unset, .unset, .unset] [(.int (2 : Int32))])) _
    refine XS.istore Y13.here hx rfl (hb hby d4_35) rfl (l' := #[.val (.ref o0), .val (.long q1), .second, .val (.long q2), .second, .val (.int (2 : Int32)), .val (.long (gT 0)), .second, .val (.int (2 : Int32)), .unset, .unset]) rfl ?_
    show Steps p.tables e below (T13.setTop (mkF m 37 #[.val (.ref o0), .val (.long q1), .second, .val (.long q2), .second, .val (.int (2 : Int32)), .val (.long (gT 0)), .second, .val (.int (2 : Int32)), .unset, .unset] [])) _
    refine XS.aloadN Y13.here hx rfl (hb hby d4_37) rfl rfl ?_
    show Steps p.tables e below (T13.setTop (mkF m 38 #[.val (.ref o0), .val (.long q1), .second, .val (.long q2), .second, .val (.int (2 : Int32)), .val (.long (gT 0)), .second, .val (.int (2 : Int32)), .unset, .unset] [(.ref o0)])) _
    refine XS.aloadN Y13.here hx rfl (hb hby d4_38) rfl rfl ?_
    show Steps p.tables e below (T13.setTop (mkF m 39 #[.val (.ref o0), .val (.long q1), .second, .val (.long q2), .second, .val (.int (2 : Int32)), .val (.long (gT 0)), .second, .val (.int (2 : Int32)), .unset, .unset] [(.ref o0), (.ref o0)])) _
    exact k
  obtain ⟨T15, X15, e15, st15⟩ := getF Y13 hx hZ hown (host := "") (Or.inl (hw _ (List.mem_of_getElem? (i := 16) rfl))) Via.refl e13 P1_F (g := (mkF m 39 #[.val (.ref o0), .val (.long q1), .second, .val (.long q2), .second, .val (.int (2 : Int32)), .val (.long (gT 0)), .second, .val (.int (2 : Int32)), .unset, .unset] [(.ref o0), (.ref o0)])) rfl rfl (hb hby d4_39)
  have pre15 : Lead p e below G (T15.setTop (mkF m 42 #[.val (.ref o0), .val (.long q1), .second, .val (.long q2), .second, .val (.int (2 : Int32)), .val (.long (gT 0)), .second, .val (.int (2 : Int32)), .unset, .unset] [(.ref ta), (.ref o0)])) := fun t k => pre14 t (st15 _ k)
  have pre16 : Lead p e below G (T15.setTop (mkF m 44 #[.val (.ref o0), .val (.long q1), .second, .val (.long q2), .second, .val (.int (2 : Int32)), .val (.long (gT 0)), .second, .val (.int (2 : Int32)), .unset, .unset] [(.int (2 : Int32)), (.ref ta), (.ref o0)])) := fun t k => by
    refine pre15 t ?_
    show Steps p.tables e below (T15.setTop (mkF m 42 #[.val (.ref o0), .val (.long q1), .second, .val (.long q2), .second, .val (.int (2 : Int32)), .val (.long (gT 0)), .second, .val (.int (2 : Int32)), .unset, .unset] [(.ref ta), (.ref o0)])) _
    refine XS.iload X15.here hx rfl (hb hby d4_42) rfl ?_
    show Steps p.tables e below (T15.setTop (mkF m 44 #[.val (.ref o0), .val (.long q1), .second, .val (.long q2), .second, .val (.int (2 : Int32)), .val (.long (gT 0)), .second, .val (.int (2 : Int32)), .unset, .unset] [(.int (2 : Int32)), (.ref ta), (.ref o0)])) _
    exact k
  obtain ⟨cq17, zq17, zq17'⟩ := P0_E.cell
  obtain ⟨_, _, ⟨T17, L17, k17, n17⟩, -, X17, ⟨Lc17, hQ17, l17, y17, z17⟩, st17⟩ := X15.privateBack hx (y := (⟨"com/example/lean_throttle/leanthrottle/TimeRing", "unwrapped", "([JI)[J"⟩ : MethodName)) hown (mvT hZ (hw _ (List.mem_of_getElem? (i := 43) rfl))) (mvT hZ (hw _ (List.mem_of_getElem? (i := 44) rfl))) (own_selp hZ (hw _ (List.mem_of_getElem? (i := 7) rfl)) (hw _ (List.mem_of_getElem? (i := 45) rfl)) (hw _ (List.mem_of_getElem? (i := 44) rfl)) (by decide)) (Cond.privateMethod_at (mvP hZ (hw _ (List.mem_of_getElem? (i := 45) rfl)) (args := #[]))) (mvT hZ (hw _ (List.mem_of_getElem? (i := 46) rfl))) (by decide) (backOf (W := 0) (rm8_0_1_1_2 l Z a0 hw [] o0 ta ta gt gt h0 n0 (Nat.le_trans Z0 K0.1) P0_E P1_F P3_F P4_F P6_V P6_V) hZ (hw _ (List.mem_of_getElem? (i := 46) rfl)) (hw _ (List.mem_of_getElem? (i := 8) rfl)) (by decide) (by decide)) (g := (mkF m 44 #[.val (.ref o0), .val (.long q1), .second, .val (.long q2), .second, .val (.int (2 : Int32)), .val (.long (gT 0)), .second, .val (.int (2 : Int32)), .unset, .unset] [(.int (2 : Int32)), (.ref ta), (.ref o0)])) rfl (by rw [hml]; rfl) (Steps.refl _) (a := o0) (by rw [e15]; exact zq17) zq17' (argsL := [(.ref ta), (.int (2 : Int32))]) (rest := []) (lenOf pd__28__5b_JI_29__5b_J rfl) rfl (by show 2 * 0 + _ ≤ _; exact Nat.le_of_eq rfl) (hb hby d4_44) (fun _ _ => ⟨rfl, e15, (by decide : 0 + 1 ≤ _), (by decide : 0 + 2 ≤ _)⟩)
  dsimp only [Pt.U, Pt.locs, Pt.cells, Pt.slots] at X17 l17 y17 z17 st17 hQ17
  subst l17 y17 z17
  obtain ⟨nb_17, rfl, N17q, K17c, c17_0, c17_1⟩ := hQ17
  have N17 := Fr.app N13 N17q
  have ne17_o0_nb_17 : o0 ≠ nb_17 := Nat.ne_of_lt (Nat.lt_of_lt_of_le P0_E.lt c17_0)
  have ne17_ta_nb_17 : ta ≠ nb_17 := Nat.ne_of_lt (Nat.lt_of_lt_of_le P6_V.lt c17_0)
  have ne17_tA_nb_17 : tA ≠ nb_17 := Nat.ne_of_lt (Nat.lt_of_lt_of_le P7_V.lt c17_0)
  have sznb_17 : h0.size ≤ nb_17 := Nat.le_trans K0.1 c17_0
  have genb_17 : n0 ≤ nb_17 := Nat.le_trans Z0 sznb_17
  have K17 : Keep h0 T17.heap [o0] := K0.trans K17c all0
  obtain ⟨M17, Y17, N17⟩ : ∃ M, Stand p l e ({ frames := 2, cells := 2, slots := 4, locals := 33 } : Room) s m #[(.ref o0), (.long q1), (.long q2), (.int (2 : Int32))] below meth c T17 M 1 2 ∧ Fr n0 M := ⟨_, X17, N17⟩
  have pre17 : Lead p e below G (T17.setTop (mkF m 47 #[.val (.ref o0), .val (.long q1), .second, .val (.long q2), .second, .val (.int (2 : Int32)), .val (.long (gT 0)), .second, .val (.int (2 : Int32)), .unset, .unset] [(.ref nb_17)])) := fun t k => pre16 t (st17.trans k)
  have pre18 : Lead p e below G (T17.setTop (mkF m 51 #[.val (.ref o0), .val (.long q1), .second, .val (.long q2), .second, .val (.int (2 : Int32)), .val (.long (gT 0)), .second, .val (.int (2 : Int32)), .val (.ref nb_17), .unset] [(.ref o0), (.ref o0)])) := fun t k => by
    refine pre17 t ?_
    show Steps p.tables e below (T17.setTop (mkF m 47 #[.val (.ref o0), .val (.long q1), .second, .val (.long q2), .second, .val (.int (2 : Int32)), .val (.long (gT 0)), .second, .val (.int (2 : Int32)), .unset, .unset] [(.ref nb_17)])) _
    refine XS.astore Y17.here hx rfl (hb hby d4_47) rfl rfl (l' := #[.val (.ref o0), .val (.long q1), .second, .val (.long q2), .second, .val (.int (2 : Int32)), .val (.long (gT 0)), .second, .val (.int (2 : Int32)), .val (.ref nb_17), .unset]) rfl ?_
    show Steps p.tables e below (T17.setTop (mkF m 49 #[.val (.ref o0), .val (.long q1), .second, .val (.long q2), .second, .val (.int (2 : Int32)), .val (.long (gT 0)), .second, .val (.int (2 : Int32)), .val (.ref nb_17), .unset] [])) _
    refine XS.aloadN Y17.here hx rfl (hb hby d4_49) rfl rfl ?_
    show Steps p.tables e below (T17.setTop (mkF m 50 #[.val (.ref o0), .val (.long q1), .second, .val (.long q2), .second, .val (.int (2 : Int32)), .val (.long (gT 0)), .second, .val (.int (2 : Int32)), .val (.ref nb_17), .unset] [(.ref o0)])) _
    refine XS.aloadN Y17.here hx rfl (hb hby d4_50) rfl rfl ?_
    show Steps p.tables e below (T17.setTop (mkF m 51 #[.val (.ref o0), .val (.long q1), .second, .val (.long q2), .second, .val (.int (2 : Int32)), .val (.long (gT 0)), .second, .val (.int (2 : Int32)), .val (.ref nb_17), .unset] [(.ref o0), (.ref o0)])) _
    exact k
  have f20 : Fld Z T17.heap o0 "com/example/lean_throttle/leanthrottle/TimeRing" "totals" "[J" (.ref tA) := (P2_F.keep K17c nin0)
  obtain ⟨T19, X19, e19, st19⟩ := getF Y17 hx hZ hown (host := "") (Or.inl (hw _ (List.mem_of_getElem? (i := 18) rfl))) Via.refl rfl f20 (g := (mkF m 51 #[.val (.ref o0), .val (.long q1), .second, .val (.long q2), .second, .val (.int (2 : Int32)), .val (.long (gT 0)), .second, .val (.int (2 : Int32)), .val (.ref nb_17), .unset] [(.ref o0), (.ref o0)])) rfl rfl (hb hby d4_51)
  have pre19 : Lead p e below G (T19.setTop (mkF m 54 #[.val (.ref o0), .val (.long q1), .second, .val (.long q2), .second, .val (.int (2 : Int32)), .val (.long (gT 0)), .second, .val (.int (2 : Int32)), .val (.ref nb_17), .unset] [(.ref tA), (.ref o0)])) := fun t k => pre18 t (st19 _ k)
  have pre21 : Lead p e below G (T19.setTop (mkF m 56 #[.val (.ref o0), .val (.long q1), .second, .val (.long q2), .second, .val (.int (2 : Int32)), .val (.long (gT 0)), .second, .val (.int (2 : Int32)), .val (.ref nb_17), .unset] [(.int (2 : Int32)), (.ref tA), (.ref o0)])) := fun t k => by
    refine pre19 t ?_
    show Steps p.tables e below (T19.setTop (mkF m 54 #[.val (.ref o0), .val (.long q1), .second, .val (.long q2), .second, .val (.int (2 : Int32)), .val (.long (gT 0)), .second, .val (.int (2 : Int32)), .val (.ref nb_17), .unset] [(.ref tA), (.ref o0)])) _
    refine XS.iload X19.here hx rfl (hb hby d4_54) rfl ?_
    show Steps p.tables e below (T19.setTop (mkF m 56 #[.val (.ref o0), .val (.long q1), .second, .val (.long q2), .second, .val (.int (2 : Int32)), .val (.long (gT 0)), .second, .val (.int (2 : Int32)), .val (.ref nb_17), .unset] [(.int (2 : Int32)), (.ref tA), (.ref o0)])) _
    exact k
  have f23 : Exa Z T17.heap o0 "com/example/lean_throttle/leanthrottle/TimeRing" := (P0_E.keep K17c)
  have f24 : Fld Z T17.heap o0 "com/example/lean_throttle/leanthrottle/TimeRing" "times" "[J" (.ref ta) := (P1_F.keep K17c nin0)
  have f25 : Fld Z T17.heap o0 "com/example/lean_throttle/leanthrottle/TimeRing" "first" "I" (.int (0 : Int32)) := (P3_F.keep K17c nin0)
  have f26 : Fld Z T17.heap o0 "com/example/lean_throttle/leanthrottle/TimeRing" "size" "I" (.int (1 : Int32)) := (P4_F.keep K17c nin0)
  have f27 : JV Value.long Z T17.heap ta .long (1 : Int32) gt := (P6_V.keep K17c nin0)
  have f28 : JV Value.long Z T17.heap tA .long (1 : Int32) gT := (P7_V.keep K17c nin0)
  obtain ⟨cq22, zq22, zq22'⟩ := f23.cell
  obtain ⟨_, _, ⟨T22, L22, k22, n22⟩, -, X22, ⟨Lc22, hQ22, l22, y22, z22⟩, st22⟩ := X19.privateBack hx (y := (⟨"com/example/lean_throttle/leanthrottle/TimeRing", "unwrapped", "([JI)[J"⟩ : MethodName)) hown (mvT hZ (hw _ (List.mem_of_getElem? (i := 43) rfl))) (mvT hZ (hw _ (List.mem_of_getElem? (i := 44) rfl))) (own_selp hZ (hw _ (List.mem_of_getElem? (i := 7) rfl)) (hw _ (List.mem_of_getElem? (i := 45) rfl)) (hw _ (List.mem_of_getElem? (i := 44) rfl)) (by decide)) (Cond.privateMethod_at (mvP hZ (hw _ (List.mem_of_getElem? (i := 45) rfl)) (args := #[]))) (mvT hZ (hw _ (List.mem_of_getElem? (i := 46) rfl))) (by decide) (backOf (W := 0) (rm8_0_1_1_2 l Z a0 hw [] o0 tA ta gt gT T17.heap n0 (Nat.le_trans Z0 K17.1) f23 f24 f25 f26 f27 f28) hZ (hw _ (List.mem_of_getElem? (i := 46) rfl)) (hw _ (List.mem_of_getElem? (i := 8) rfl)) (by decide) (by decide)) (g := (mkF m 56 #[.val (.ref o0), .val (.long q1), .second, .val (.long q2), .second, .val (.int (2 : Int32)), .val (.long (gT 0)), .second, .val (.int (2 : Int32)), .val (.ref nb_17), .unset] [(.int (2 : Int32)), (.ref tA), (.ref o0)])) rfl (by rw [hml]; rfl) (Steps.refl _) (a := o0) (by rw [e19]; exact zq22) zq22' (argsL := [(.ref tA), (.int (2 : Int32))]) (rest := []) (lenOf pd__28__5b_JI_29__5b_J rfl) rfl (by show 2 * 0 + _ ≤ _; exact Nat.le_of_eq rfl) (hb hby d4_56) (fun _ _ => ⟨rfl, e19, (by decide : 1 + 1 ≤ _), (by decide : 2 + 2 ≤ _)⟩)
  dsimp only [Pt.U, Pt.locs, Pt.cells, Pt.slots] at X22 l22 y22 z22 st22 hQ22
  subst l22 y22 z22
  obtain ⟨nb_22, rfl, N22q, K22c, c22_0, c22_1⟩ := hQ22
  have N22 := Fr.app N17 N22q
  have ne22_o0_nb_22 : o0 ≠ nb_22 := Nat.ne_of_lt (Nat.lt_of_lt_of_le f23.lt c22_0)
  have ne22_ta_nb_22 : ta ≠ nb_22 := Nat.ne_of_lt (Nat.lt_of_lt_of_le f27.lt c22_0)
  have ne22_tA_nb_22 : tA ≠ nb_22 := Nat.ne_of_lt (Nat.lt_of_lt_of_le f28.lt c22_0)
  have ne22_nb_17_nb_22 : nb_17 ≠ nb_22 := Nat.ne_of_lt (Nat.lt_of_lt_of_le c17_1.lt c22_0)
  have sznb_22 : h0.size ≤ nb_22 := Nat.le_trans K17.1 c22_0
  have genb_22 : n0 ≤ nb_22 := Nat.le_trans Z0 sznb_22
  have K22 : Keep h0 T22.heap [o0] := K17.trans K22c all0
  obtain ⟨M22, Y22, N22⟩ : ∃ M, Stand p l e ({ frames := 2, cells := 2, slots := 4, locals := 33 } : Room) s m #[(.ref o0), (.long q1), (.long q2), (.int (2 : Int32))] below meth c T22 M 2 4 ∧ Fr n0 M := ⟨_, X22, N22⟩
  have pre22 : Lead p e below G (T22.setTop (mkF m 59 #[.val (.ref o0), .val (.long q1), .second, .val (.long q2), .second, .val (.int (2 : Int32)), .val (.long (gT 0)), .second, .val (.int (2 : Int32)), .val (.ref nb_17), .unset] [(.ref nb_22)])) := fun t k => pre21 t (st22.trans k)
  have pre29 : Lead p e below G (T22.setTop (mkF m 64 #[.val (.ref o0), .val (.long q1), .second, .val (.long q2), .second, .val (.int (2 : Int32)), .val (.long (gT 0)), .second, .val (.int (2 : Int32)), .val (.ref nb_17), .val (.ref nb_22)] [(.ref nb_17), (.ref o0)])) := fun t k => by
    refine pre22 t ?_
    show Steps p.tables e below (T22.setTop (mkF m 59 #[.val (.ref o0), .val (.long q1), .second, .val (.long q2), .second, .val (.int (2 : Int32)), .val (.long (gT 0)), .second, .val (.int (2 : Int32)), .val (.ref nb_17), .unset] [(.ref nb_22)])) _
    refine XS.astore Y22.here hx rfl (hb hby d4_59) rfl rfl (l' := #[.val (.ref o0), .val (.long q1), .second, .val (.long q2), .second, .val (.int (2 : Int32)), .val (.long (gT 0)), .second, .val (.int (2 : Int32)), .val (.ref nb_17), .val (.ref nb_22)]) rfl ?_
    show Steps p.tables e below (T22.setTop (mkF m 61 #[.val (.ref o0), .val (.long q1), .second, .val (.long q2), .second, .val (.int (2 : Int32)), .val (.long (gT 0)), .second, .val (.int (2 : Int32)), .val (.ref nb_17), .val (.ref nb_22)] [])) _
    refine XS.aloadN Y22.here hx rfl (hb hby d4_61) rfl rfl ?_
    show Steps p.tables e below (T22.setTop (mkF m 62 #[.val (.ref o0), .val (.long q1), .second, .val (.long q2), .second, .val (.int (2 : Int32)), .val (.long (gT 0)), .second, .val (.int (2 : Int32)), .val (.ref nb_17), .val (.ref nb_22)] [(.ref o0)])) _
    refine XS.aload Y22.here hx rfl (hb hby d4_62) rfl rfl ?_
    show Steps p.tables e below (T22.setTop (mkF m 64 #[.val (.ref o0), .val (.long q1), .second, .val (.long q2), .second, .val (.int (2 : Int32)), .val (.long (gT 0)), .second, .val (.int (2 : Int32)), .val (.ref nb_17), .val (.ref nb_22)] [(.ref nb_17), (.ref o0)])) _
    exact k
  have f31 : Fld Z T22.heap o0 "com/example/lean_throttle/leanthrottle/TimeRing" "times" "[J" (.ref ta) := (f24.keep K22c nin0)
  have f32 : Exa Z T22.heap o0 "com/example/lean_throttle/leanthrottle/TimeRing" := (f23.keep K22c)
  obtain ⟨T30, h30, X30, e30, W30, st30⟩ := putF Y22 hx hZ hown (host := "") (Or.inl (hw _ (List.mem_of_getElem? (i := 16) rfl))) Via.refl rfl f31 f32 (Or.inl (hw _ (List.mem_of_getElem? (i := 17) rfl))) (hw _ (List.mem_of_getElem? (i := 7) rfl)) (ty := (.array .long)) (by decide) rfl rfl (g := (mkF m 64 #[.val (.ref o0), .val (.long q1), .second, .val (.long q2), .second, .val (.int (2 : Int32)), .val (.long (gT 0)), .second, .val (.int (2 : Int32)), .val (.ref nb_17), .val (.ref nb_22)] [(.ref nb_17), (.ref o0)])) rfl rfl (hb hby d4_64)
  have N30 := Fr.snoc X30 N22 P11_G
  have K30 : Keep h0 h30 [o0] := K22.wr W30 (Or.inl (List.mem_of_getElem? (i := 0) rfl))
  obtain ⟨M30, Y30, N30⟩ : ∃ M, Stand p l e ({ frames := 2, cells := 2, slots := 4, locals := 33 } : Room) s m #[(.ref o0), (.long q1), (.long q2), (.int (2 : Int32))] below meth c T30 M 2 4 ∧ Fr n0 M := ⟨_, X30, N30⟩
  have Fw30 : Fld Z h30 o0 "com/example/lean_throttle/leanthrottle/TimeRing" "times" "[J" (.ref nb_17) := f31.same W30
  have pre30 : Lead p e below G (T30.setTop (mkF m 67 #[.val (.ref o0), .val (.long q1), .second, .val (.long q2), .second, .val (.int (2 : Int32)), .val (.long (gT 0)), .second, .val (.int (2 : Int32)), .val (.ref nb_17), .val (.ref nb_22)] [])) := fun t k => pre29 t (st30 _ k)
  have pre33 : Lead p e below G (T30.setTop (mkF m 70 #[.val (.ref o0), .val (.long q1), .second, .val (.long q2), .second, .val (.int (2 : Int32)), .val (.long (gT 0)), .second, .val (.int (2 : Int32)), .val (.ref nb_17), .val (.ref nb_22)] [(.ref nb_22), (.ref o0)])) := fun t k => by
    refine pre30 t ?_
    show Steps p.tables e below (T30.setTop (mkF m 67 #[.val (.ref o0), .val (.long q1), .second, .val (.long q2), .second, .val (.int (2 : Int32)), .val (.long (gT 0)), .second, .val (.int (2 : Int32)), .val (.ref nb_17), .val (.ref nb_22)] [])) _
    refine XS.aloadN Y30.here hx rfl (hb hby d4_67) rfl rfl ?_
    show Steps p.tables e below (T30.setTop (mkF m 68 #[.val (.ref o0), .val (.long q1), .second, .val (.long q2), .second, .val (.int (2 : Int32)), .val (.long (gT 0)), .second, .val (.int (2 : Int32)), .val (.ref nb_17), .val (.ref nb_22)] [(.ref o0)])) _
    refine XS.aload Y30.here hx rfl (hb hby d4_68) rfl rfl ?_
    show Steps p.tables e below (T30.setTop (mkF m 70 #[.val (.ref o0), .val (.long q1), .second, .val (.long q2), .second, .val (.int (2 : Int32)), .val (.long (gT 0)), .second, .val (.int (2 : Int32)), .val (.ref nb_17), .val (.ref nb_22)] [(.ref nb_22), (.ref o0)])) _
    exact k
  have f35 : Fld Z h30 o0 "com/example/lean_throttle/leanthrottle/TimeRing" "totals" "[J" (.ref tA) := ((f20.keep K22c nin0).other W30 (Or.inr (slot_ne (Or.inl (hw _ (List.mem_of_getElem? (i := 19) rfl))) (Or.inl (hw _ (List.mem_of_getElem? (i := 17) rfl))) (by decide) (t := (.array .long)) (t' := (.array .long)) (by decide) (by decide))))
  have f36 : Exa Z h30 o0 "com/example/lean_throttle/leanthrottle/TimeRing" := (f32.wr W30)
  obtain ⟨T34, h34, X34, e34, W34, st34⟩ := putF Y30 hx hZ hown (host := "") (Or.inl (hw _ (List.mem_of_getElem? (i := 18) rfl))) Via.refl e30 f35 f36 (Or.inl (hw _ (List.mem_of_getElem? (i := 19) rfl))) (hw _ (List.mem_of_getElem? (i := 7) rfl)) (ty := (.array .long)) (by decide) rfl rfl (g := (mkF m 70 #[.val (.ref o0), .val (.long q1), .second, .val (.long q2), .second, .val (.int (2 : Int32)), .val (.long (gT 0)), .second, .val (.int (2 : Int32)), .val (.ref nb_17), .val (.ref nb_22)] [(.ref nb_22), (.ref o0)])) rfl rfl (hb hby d4_70)
  have N34 := Fr.snoc X34 N30 P11_G
  have K34 : Keep h0 h34 [o0] := K30.wr W34 (Or.inl (List.mem_of_getElem? (i := 0) rfl))
  obtain ⟨M34, Y34, N34⟩ : ∃ M, Stand p l e ({ frames := 2, cells := 2, slots := 4, locals := 33 } : Room) s m #[(.ref o0), (.long q1), (.long q2), (.int (2 : Int32))] below meth c T34 M 2 4 ∧ Fr n0 M := ⟨_, X34, N34⟩
  have Fw34 : Fld Z h34 o0 "com/example/lean_throttle/leanthrottle/TimeRing" "totals" "[J" (.ref nb_22) := f35.same W34
  have pre34 : Lead p e below G (T34.setTop (mkF m 73 #[.val (.ref o0), .val (.long q1), .second, .val (.long q2), .second, .val (.int (2 : Int32)), .val (.long (gT 0)), .second, .val (.int (2 : Int32)), .val (.ref nb_17), .val (.ref nb_22)] [])) := fun t k => pre33 t (st34 _ k)
  have pre37 : Lead p e below G (T34.setTop (mkF m 75 #[.val (.ref o0), .val (.long q1), .second, .val (.long q2), .second, .val (.int (2 : Int32)), .val (.long (gT 0)), .second, .val (.int (2 : Int32)), .val (.ref nb_17), .val (.ref nb_22)] [(.int (0 : Int32)), (.ref o0)])) := fun t k => by
    refine pre34 t ?_
    show Steps p.tables e below (T34.setTop (mkF m 73 #[.val (.ref o0), .val (.long q1), .second, .val (.long q2), .second, .val (.int (2 : Int32)), .val (.long (gT 0)), .second, .val (.int (2 : Int32)), .val (.ref nb_17), .val (.ref nb_22)] [])) _
    refine XS.aloadN Y34.here hx rfl (hb hby d4_73) rfl rfl ?_
    show Steps p.tables e below (T34.setTop (mkF m 74 #[.val (.ref o0), .val (.long q1), .second, .val (.long q2), .second, .val (.int (2 : Int32)), .val (.long (gT 0)), .second, .val (.int (2 : Int32)), .val (.ref nb_17), .val (.ref nb_22)] [(.ref o0)])) _
    refine XS.iconst Y34.here hx rfl (hb hby d4_74) ?_
    show Steps p.tables e below (T34.setTop (mkF m 75 #[.val (.ref o0), .val (.long q1), .second, .val (.long q2), .second, .val (.int (2 : Int32)), .val (.long (gT 0)), .second, .val (.int (2 : Int32)), .val (.ref nb_17), .val (.ref nb_22)] [(.int (0 : Int32)), (.ref o0)])) _
    exact k
  have f39 : Fld Z h34 o0 "com/example/lean_throttle/leanthrottle/TimeRing" "first" "I" (.int (0 : Int32)) := (((f25.keep K22c nin0).other W30 (Or.inr (slot_ne (Or.inl (hw _ (List.mem_of_getElem? (i := 38) rfl))) (Or.inl (hw _ (List.mem_of_getElem? (i := 17) rfl))) (by decide) (t := .int) (t' := (.array .long)) (by decide) (by decide)))).other W34 (Or.inr (slot_ne (Or.inl (hw _ (List.mem_of_getElem? (i := 38) rfl))) (Or.inl (hw _ (List.mem_of_getElem? (i := 19) rfl))) (by decide) (t := .int) (t' := (.array .long)) (by decide) (by decide))))
  have f40 : Exa Z h34 o0 "com/example/lean_throttle/leanthrottle/TimeRing" := (f36.wr W34)
  obtain ⟨T38, h38, X38, e38, W38, st38⟩ := putF Y34 hx hZ hown (host := "") (Or.inl (hw _ (List.mem_of_getElem? (i := 37) rfl))) Via.refl e34 f39 f40 (Or.inl (hw _ (List.mem_of_getElem? (i := 38) rfl))) (hw _ (List.mem_of_getElem? (i := 7) rfl)) (ty := .int) (by decide) rfl rfl (g := (mkF m 75 #[.val (.ref o0), .val (.long q1), .second, .val (.long q2), .second, .val (.int (2 : Int32)), .val (.long (gT 0)), .second, .val (.int (2 : Int32)), .val (.ref nb_17), .val (.ref nb_22)] [(.int (0 : Int32)), (.ref o0)])) rfl rfl (hb hby d4_75)
  have N38 := Fr.snoc X38 N34 P11_G
  have K38 : Keep h0 h38 [o0] := K34.wr W38 (Or.inl (List.mem_of_getElem? (i := 0) rfl))
  obtain ⟨M38, Y38, N38⟩ : ∃ M, Stand p l e ({ frames := 2, cells := 2, slots := 4, locals := 33 } : Room) s m #[(.ref o0), (.long q1), (.long q2), (.int (2 : Int32))] below meth c T38 M 2 4 ∧ Fr n0 M := ⟨_, X38, N38⟩
  have Fw38 : Fld Z h38 o0 "com/example/lean_throttle/leanthrottle/TimeRing" "first" "I" (.int (0 : Int32)) := f39.same W38
  have pre38 : Lead p e below G (T38.setTop (mkF m 78 #[.val (.ref o0), .val (.long q1), .second, .val (.long q2), .second, .val (.int (2 : Int32)), .val (.long (gT 0)), .second, .val (.int (2 : Int32)), .val (.ref nb_17), .val (.ref nb_22)] [])) := fun t k => pre37 t (st38 _ k)
  have pre41 : Lead p e below G (T38.setTop (mkF m 79 #[.val (.ref o0), .val (.long q1), .second, .val (.long q2), .second, .val (.int (2 : Int32)), .val (.long (gT 0)), .second, .val (.int (2 : Int32)), .val (.ref nb_17), .val (.ref nb_22)] [(.ref o0)])) := fun t k => by
    refine pre38 t ?_
    show Steps p.tables e below (T38.setTop (mkF m 78 #[.val (.ref o0), .val (.long q1), .second, .val (.long q2), .second, .val (.int (2 : Int32)), .val (.long (gT 0)), .second, .val (.int (2 : Int32)), .val (.ref nb_17), .val (.ref nb_22)] [])) _
    refine XS.aloadN Y38.here hx rfl (hb hby d4_78) rfl rfl ?_
    show Steps p.tables e below (T38.setTop (mkF m 79 #[.val (.ref o0), .val (.long q1), .second, .val (.long q2), .second, .val (.int (2 : Int32)), .val (.long (gT 0)), .second, .val (.int (2 : Int32)), .val (.ref nb_17), .val (.ref nb_22)] [(.ref o0)])) _
    exact k
  have f43 : Fld Z h38 o0 "com/example/lean_throttle/leanthrottle/TimeRing" "times" "[J" (.ref nb_17) := ((Fw30.other W34 (Or.inr (slot_ne (Or.inl (hw _ (List.mem_of_getElem? (i := 17) rfl))) (Or.inl (hw _ (List.mem_of_getElem? (i := 19) rfl))) (by decide) (t := (.array .long)) (t' := (.array .long)) (by decide) (by decide)))).other W38 (Or.inr (slot_ne (Or.inl (hw _ (List.mem_of_getElem? (i := 17) rfl))) (Or.inl (hw _ (List.mem_of_getElem? (i := 38) rfl))) (by decide) (t := (.array .long)) (t' := .int) (by decide) (by decide))))
  obtain ⟨T42, X42, e42, st42⟩ := getF Y38 hx hZ hown (host := "") (Or.inl (hw _ (List.mem_of_getElem? (i := 16) rfl))) Via.refl e38 f43 (g := (mkF m 79 #[.val (.ref o0), .val (.long q1), .second, .val (.long q2), .second, .val (.int (2 : Int32)), .val (.long (gT 0)), .second, .val (.int (2 : Int32)), .val (.ref nb_17), .val (.ref nb_22)] [(.ref o0)])) rfl rfl (hb hby d4_79)
  have pre42 : Lead p e below G (T42.setTop (mkF m 82 #[.val (.ref o0), .val (.long q1), .second, .val (.long q2), .second, .val (.int (2 : Int32)), .val (.long (gT 0)), .second, .val (.int (2 : Int32)), .val (.ref nb_17), .val (.ref nb_22)] [(.ref nb_17)])) := fun t k => pre41 t (st42 _ k)
  have pre44 : Lead p e below G (T42.setTop (mkF m 84 #[.val (.ref o0), .val (.long q1), .second, .val (.long q2), .second, .val (.int (2 : Int32)), .val (.long (gT 0)), .second, .val (.int (2 : Int32)), .val (.ref nb_17), .val (.ref nb_22)] [(.ref o0), (.ref o0), (.ref nb_17)])) := fun t k => by
    refine pre42 t ?_
    show Steps p.tables e below (T42.setTop (mkF m 82 #[.val (.ref o0), .val (.long q1), .second, .val (.long q2), .second, .val (.int (2 : Int32)), .val (.long (gT 0)), .second, .val (.int (2 : Int32)), .val (.ref nb_17), .val (.ref nb_22)] [(.ref nb_17)])) _
    refine XS.aloadN X42.here hx rfl (hb hby d4_82) rfl rfl ?_
    show Steps p.tables e below (T42.setTop (mkF m 83 #[.val (.ref o0), .val (.long q1), .second, .val (.long q2), .second, .val (.int (2 : Int32)), .val (.long (gT 0)), .second, .val (.int (2 : Int32)), .val (.ref nb_17), .val (.ref nb_22)] [(.ref o0), (.ref nb_17)])) _
    refine XS.aloadN X42.here hx rfl (hb hby d4_83) rfl rfl ?_
    show Steps p.tables e below (T42.setTop (mkF m 84 #[.val (.ref o0), .val (.long q1), .second, .val (.long q2), .second, .val (.int (2 : Int32)), .val (.long (gT 0)), .second, .val (.int (2 : Int32)), .val (.ref nb_17), .val (.ref nb_22)] [(.ref o0), (.ref o0), (.ref nb_17)])) _
    exact k
  have f46 : Fld Z h38 o0 "com/example/lean_throttle/leanthrottle/TimeRing" "size" "I" (.int (1 : Int32)) := ((((f26.keep K22c nin0).other W30 (Or.inr (slot_ne (Or.inl (hw _ (List.mem_of_getElem? (i := 30) rfl))) (Or.inl (hw _ (List.mem_of_getElem? (i := 17) rfl))) (by decide) (t := .int) (t' := (.array .long)) (by decide) (by decide)))).other W34 (Or.inr (slot_ne (Or.inl (hw _ (List.mem_of_getElem? (i := 30) rfl))) (Or.inl (hw _ (List.mem_of_getElem? (i := 19) rfl))) (by decide) (t := .int) (t' := (.array .long)) (by decide) (by decide)))).other W38 (Or.inr (slot_ne (Or.inl (hw _ (List.mem_of_getElem? (i := 30) rfl))) (Or.inl (hw _ (List.mem_of_getElem? (i := 38) rfl))) (by decide) (t := .int) (t' := .int) (by decide) (by decide))))
  obtain ⟨T45, X45, e45, st45⟩ := getF X42 hx hZ hown (host := "") (Or.inl (hw _ (List.mem_of_getElem? (i := 29) rfl))) Via.refl e42 f46 (g := (mkF m 84 #[.val (.ref o0), .val (.long q1), .second, .val (.long q2), .second, .val (.int (2 : Int32)), .val (.long (gT 0)), .second, .val (.int (2 : Int32)), .val (.ref nb_17), .val (.ref nb_22)] [(.ref o0), (.ref o0), (.ref nb_17)])) rfl rfl (hb hby d4_84)
  have pre45 : Lead p e below G (T45.setTop (mkF m 87 #[.val (.ref o0), .val (.long q1), .second, .val (.long q2), .second, .val (.int (2 : Int32)), .val (.long (gT 0)), .second, .val (.int (2 : Int32)), .val (.ref nb_17), .val (.ref nb_22)] [(.int (1 : Int32)), (.ref o0), (.ref nb_17)])) := fun t k => pre44 t (st45 _ k)
  have f48 : JV Value.long Z h38 nb_17 .long (2 : Int32) (updF (fun _ => (0 : Int64)) 0 (gt 0)) := ((((c17_1.keep K22c nin0).other W30 (Ne.symm ne17_o0_nb_17)).other W34 (Ne.symm ne17_o0_nb_17)).other W38 (Ne.symm ne17_o0_nb_17))
  have f49 : Exa Z h38 o0 "com/example/lean_throttle/leanthrottle/TimeRing" := (f40.wr W38)
  obtain ⟨cq47, zq47, zq47'⟩ := f49.cell
  obtain ⟨_, _, ⟨T47, L47, k47, n47⟩, -, X47, ⟨Lc47, hQ47, l47, y47, z47⟩, st47⟩ := X45.privateBack hx (y := (⟨"com/example/lean_throttle/leanthrottle/TimeRing", "at", "(I)I"⟩ : MethodName)) hown (mvT hZ (hw _ (List.mem_of_getElem? (i := 33) rfl))) (mvT hZ (hw _ (List.mem_of_getElem? (i := 34) rfl))) (own_selp hZ (hw _ (List.mem_of_getElem? (i := 7) rfl)) (hw _ (List.mem_of_getElem? (i := 35) rfl)) (hw _ (List.mem_of_getElem? (i := 34) rfl)) (by decide)) (Cond.privateMethod_at (mvP hZ (hw _ (List.mem_of_getElem? (i := 35) rfl)) (args := #[]))) (mvT hZ (hw _ (List.mem_of_getElem? (i := 36) rfl))) (by decide) (backOf (W := 1) (rm6 l Z a0 hw [] o0 (1 : Int32) (0 : Int32) nb_17 (2 : Int32) (updF (fun _ => (0 : Int64)) 0 (gt 0)) h38 n0 (Nat.le_trans Z0 K38.1) Fw38 f43 f48) hZ (hw _ (List.mem_of_getElem? (i := 36) rfl)) (hw _ (List.mem_of_getElem? (i := 8) rfl)) (by decide) (by decide)) (g := (mkF m 87 #[.val (.ref o0), .val (.long q1), .second, .val (.long q2), .second, .val (.int (2 : Int32)), .val (.long (gT 0)), .second, .val (.int (2 : Int32)), .val (.ref nb_17), .val (.ref nb_22)] [(.int (1 : Int32)), (.ref o0), (.ref nb_17)])) rfl (by rw [hml]; rfl) (Steps.refl _) (a := o0) (by rw [e45]; exact zq47) zq47' (argsL := [(.int (1 : Int32))]) (rest := [(.ref nb_17)]) (lenOf pd__28_I_29_I rfl) rfl (by show 2 * 0 + _ ≤ _; exact Nat.le_of_eq rfl) (hb hby d4_87) (fun _ _ => ⟨rfl, e45, (by decide : 2 + 0 ≤ _), (by decide : 4 + 0 ≤ _)⟩)
  dsimp only [Pt.U, Pt.locs, Pt.cells, Pt.slots] at X47 l47 y47 z47 st47 hQ47
  subst l47 y47 z47
  obtain ⟨rfl, N47q, e47⟩ := hQ47
  have N47 := Fr.app N38 N47q
  obtain ⟨M47, Y47, N47⟩ : ∃ M, Stand p l e ({ frames := 2, cells := 2, slots := 4, locals := 33 } : Room) s m #[(.ref o0), (.long q1), (.long q2), (.int (2 : Int32))] below meth c T47 M 2 4 ∧ Fr n0 M := ⟨_, X47, N47⟩
  have pre47 : Lead p e below G (T47.setTop (mkF m 90 #[.val (.ref o0), .val (.long q1), .second, .val (.long q2), .second, .val (.int (2 : Int32)), .val (.long (gT 0)), .second, .val (.int (2 : Int32)), .val (.ref nb_17), .val (.ref nb_22)] [(.int (if (1 : Int32) < (2 : Int32) then (1 : Int32) else (-1 : Int32))), (.ref nb_17)])) := fun t k => pre45 t (st47.trans k)
  have hr47 : (if (1 : Int32) < (2 : Int32) then (1 : Int32) else (-1 : Int32)) = (1 : Int32) := by decide
  have pre47b : Lead p e below G (T47.setTop (mkF m 90 #[.val (.ref o0), .val (.long q1), .second, .val (.long q2), .second, .val (.int (2 : Int32)), .val (.long (gT 0)), .second, .val (.int (2 : Int32)), .val (.ref nb_17), .val (.ref nb_22)] [(.int (1 : Int32)), (.ref nb_17)])) := by have q := pre47; rw [hr47] at q; exact q
  have pre50 : Lead p e below G (T47.setTop (mkF m 91 #[.val (.ref o0), .val (.long q1), .second, .val (.long q2), .second, .val (.int (2 : Int32)), .val (.long (gT 0)), .second, .val (.int (2 : Int32)), .val (.ref nb_17), .val (.ref nb_22)] [(.long q1), (.int (1 : Int32)), (.ref nb_17)])) := fun t k => by
    refine pre47b t ?_
    show Steps p.tables e below (T47.setTop (mkF m 90 #[.val (.ref o0), .val (.long q1), .second, .val (.long q2), .second, .val (.int (2 : Int32)), .val (.long (gT 0)), .second, .val (.int (2 : Int32)), .val (.ref nb_17), .val (.ref nb_22)] [(.int (1 : Int32)), (.ref nb_17)])) _
    refine XS.lloadN Y47.here hx rfl (hb hby d4_90) rfl ?_
    show Steps p.tables e below (T47.setTop (mkF m 91 #[.val (.ref o0), .val (.long q1), .second, .val (.long q2), .second, .val (.int (2 : Int32)), .val (.long (gT 0)), .second, .val (.int (2 : Int32)), .val (.ref nb_17), .val (.ref nb_22)] [(.long q1), (.int (1 : Int32)), (.ref nb_17)])) _
    exact k
  obtain ⟨cl51, Ar51, hin51, -⟩ := f48.in (j := (1 : Int32)) ⟨by decide, by decide⟩
  obtain ⟨T51, h51, X51, e51, W51, st51⟩ := stJ Y47 hx hZ e47 Ar51 (j := (1 : Int32)) hin51 (g := (mkF m 91 #[.val (.ref o0), .val (.long q1), .second, .val (.long q2), .second, .val (.int (2 : Int32)), .val (.long (gT 0)), .second, .val (.int (2 : Int32)), .val (.ref nb_17), .val (.ref nb_22)] [(.long q1), (.int (1 : Int32)), (.ref nb_17)])) rfl rfl (hb hby d4_91)
  have N51 := Fr.snoc X51 N47 genb_17
  have K51 : Keep h0 h51 [o0] := K38.wr W51 (Or.inr sznb_17)
  obtain ⟨M51, Y51, N51⟩ : ∃ M, Stand p l e ({ frames := 2, cells := 2, slots := 4, locals := 33 } : Room) s m #[(.ref o0), (.long q1), (.long q2), (.int (2 : Int32))] below meth c T51 M 2 4 ∧ Fr n0 M := ⟨_, X51, N51⟩
  have V51 : JV Value.long Z h51 nb_17 .long (2 : Int32) (updF (updF (fun _ => (0 : Int64)) 0 (gt 0)) 1 q1) := f48.set W51
  have pre51 : Lead p e below G (T51.setTop (mkF m 92 #[.val (.ref o0), .val (.long q1), .second, .val (.long q2), .second, .val (.int (2 : Int32)), .val (.long (gT 0)), .second, .val (.int (2 : Int32)), .val (.ref nb_17), .val (.ref nb_22)] [])) := fun t k => pre50 t (st51 _ k)
  have pre52 : Lead p e below G (T51.setTop (mkF m 93 #[.val (.ref o0), .val (.long q1), .second, .val (.long q2), .second, .val (.int (2 : Int32)), .val (.long (gT 0)), .second, .val (.int (2 : Int32)), .val (.ref nb_17), .val (.ref nb_22)] [(.ref o0)])) := fun t k => by
    refine pre51 t ?_
    show Steps p.tables e below (T51.setTop (mkF m 92 #[.val (.ref o0), .val (.long q1), .second, .val (.long q2), .second, .val (.int (2 : Int32)), .val (.long (gT 0)), .second, .val (.int (2 : Int32)), .val (.ref nb_17), .val (.ref nb_22)] [])) _
    refine XS.aloadN Y51.here hx rfl (hb hby d4_92) rfl rfl ?_
    show Steps p.tables e below (T51.setTop (mkF m 93 #[.val (.ref o0), .val (.long q1), .second, .val (.long q2), .second, .val (.int (2 : Int32)), .val (.long (gT 0)), .second, .val (.int (2 : Int32)), .val (.ref nb_17), .val (.ref nb_22)] [(.ref o0)])) _
    exact k
  have f54 : Fld Z h51 o0 "com/example/lean_throttle/leanthrottle/TimeRing" "totals" "[J" (.ref nb_22) := ((Fw34.other W38 (Or.inr (slot_ne (Or.inl (hw _ (List.mem_of_getElem? (i := 19) rfl))) (Or.inl (hw _ (List.mem_of_getElem? (i := 38) rfl))) (by decide) (t := (.array .long)) (t' := .int) (by decide) (by decide)))).other W51 (Or.inl ne17_o0_nb_17))
  obtain ⟨T53, X53, e53, st53⟩ := getF Y51 hx hZ hown (host := "") (Or.inl (hw _ (List.mem_of_getElem? (i := 18) rfl))) Via.refl e51 f54 (g := (mkF m 93 #[.val (.ref o0), .val (.long q1), .second, .val (.long q2), .second, .val (.int (2 : Int32)), .val (.long (gT 0)), .second, .val (.int (2 : Int32)), .val (.ref nb_17), .val (.ref nb_22)] [(.ref o0)])) rfl rfl (hb hby d4_93)
  have pre53 : Lead p e below G (T53.setTop (mkF m 96 #[.val (.ref o0), .val (.long q1), .second, .val (.long q2), .second, .val (.int (2 : Int32)), .val (.long (gT 0)), .second, .val (.int (2 : Int32)), .val (.ref nb_17), .val (.ref nb_22)] [(.ref nb_22)])) := fun t k => pre52 t (st53 _ k)
  have pre55 : Lead p e below G (T53.setTop (mkF m 98 #[.val (.ref o0), .val (.long q1), .second, .val (.long q2), .second, .val (.int (2 : Int32)), .val (.long (gT 0)), .second, .val (.int (2 : Int32)), .val (.ref nb_17), .val (.ref nb_22)] [(.ref o0), (.ref o0), (.ref nb_22)])) := fun t k => by
    refine pre53 t ?_
    show Steps p.tables e below (T53.setTop (mkF m 96 #[.val (.ref o0), .val (.long q1), .second, .val (.long q2), .second, .val (.int (2 : Int32)), .val (.long (gT 0)), .second, .val (.int (2 : Int32)), .val (.ref nb_17), .val (.ref nb_22)] [(.ref nb_22)])) _
    refine XS.aloadN X53.here hx rfl (hb hby d4_96) rfl rfl ?_
    show Steps p.tables e below (T53.setTop (mkF m 97 #[.val (.ref o0), .val (.long q1), .second, .val (.long q2), .second, .val (.int (2 : Int32)), .val (.long (gT 0)), .second, .val (.int (2 : Int32)), .val (.ref nb_17), .val (.ref nb_22)] [(.ref o0), (.ref nb_22)])) _
    refine XS.aloadN X53.here hx rfl (hb hby d4_97) rfl rfl ?_
    show Steps p.tables e below (T53.setTop (mkF m 98 #[.val (.ref o0), .val (.long q1), .second, .val (.long q2), .second, .val (.int (2 : Int32)), .val (.long (gT 0)), .second, .val (.int (2 : Int32)), .val (.ref nb_17), .val (.ref nb_22)] [(.ref o0), (.ref o0), (.ref nb_22)])) _
    exact k
  have f57 : Fld Z h51 o0 "com/example/lean_throttle/leanthrottle/TimeRing" "size" "I" (.int (1 : Int32)) := (f46.other W51 (Or.inl ne17_o0_nb_17))
  obtain ⟨T56, X56, e56, st56⟩ := getF X53 hx hZ hown (host := "") (Or.inl (hw _ (List.mem_of_getElem? (i := 29) rfl))) Via.refl e53 f57 (g := (mkF m 98 #[.val (.ref o0), .val (.long q1), .second, .val (.long q2), .second, .val (.int (2 : Int32)), .val (.long (gT 0)), .second, .val (.int (2 : Int32)), .val (.ref nb_17), .val (.ref nb_22)] [(.ref o0), (.ref o0), (.ref nb_22)])) rfl rfl (hb hby d4_98)
  have pre56 : Lead p e below G (T56.setTop (mkF m 101 #[.val (.ref o0), .val (.long q1), .second, .val (.long q2), .second, .val (.int (2 : Int32)), .val (.long (gT 0)), .second, .val (.int (2 : Int32)), .val (.ref nb_17), .val (.ref nb_22)] [(.int (1 : Int32)), (.ref o0), (.ref nb_22)])) := fun t k => pre55 t (st56 _ k)
  have f59 : Fld Z h51 o0 "com/example/lean_throttle/leanthrottle/TimeRing" "first" "I" (.int (0 : Int32)) := (Fw38.other W51 (Or.inl ne17_o0_nb_17))
  have f60 : Fld Z h51 o0 "com/example/lean_throttle/leanthrottle/TimeRing" "times" "[J" (.ref nb_17) := (f43.other W51 (Or.inl ne17_o0_nb_17))
  have f61 : Exa Z h51 o0 "com/example/lean_throttle/leanthrottle/TimeRing" := (f49.wr W51)
  obtain ⟨cq58, zq58, zq58'⟩ := f61.cell
  obtain ⟨_, _, ⟨T58, L58, k58, n58⟩, -, X58, ⟨Lc58, hQ58, l58, y58, z58⟩, st58⟩ := X56.privateBack hx (y := (⟨"com/example/lean_throttle/leanthrottle/TimeRing", "at", "(I)I"⟩ : MethodName)) hown (mvT hZ (hw _ (List.mem_of_getElem? (i := 33) rfl))) (mvT hZ (hw _ (List.mem_of_getElem? (i := 34) rfl))) (own_selp hZ (hw _ (List.mem_of_getElem? (i := 7) rfl)) (hw _ (List.mem_of_getElem? (i := 35) rfl)) (hw _ (List.mem_of_getElem? (i := 34) rfl)) (by decide)) (Cond.privateMethod_at (mvP hZ (hw _ (List.mem_of_getElem? (i := 35) rfl)) (args := #[]))) (mvT hZ (hw _ (List.mem_of_getElem? (i := 36) rfl))) (by decide) (backOf (W := 1) (rm6 l Z a0 hw [] o0 (1 : Int32) (0 : Int32) nb_17 (2 : Int32) (updF (updF (fun _ => (0 : Int64)) 0 (gt 0)) 1 q1) h51 n0 (Nat.le_trans Z0 K51.1) f59 f60 V51) hZ (hw _ (List.mem_of_getElem? (i := 36) rfl)) (hw _ (List.mem_of_getElem? (i := 8) rfl)) (by decide) (by decide)) (g := (mkF m 101 #[.val (.ref o0), .val (.long q1), .second, .val (.long q2), .second, .val (.int (2 : Int32)), .val (.long (gT 0)), .second, .val (.int (2 : Int32)), .val (.ref nb_17), .val (.ref nb_22)] [(.int (1 : Int32)), (.ref o0), (.ref nb_22)])) rfl (by rw [hml]; rfl) (Steps.refl _) (a := o0) (by rw [e56]; exact zq58) zq58' (argsL := [(.int (1 : Int32))]) (rest := [(.ref nb_22)]) (lenOf pd__28_I_29_I rfl) rfl (by show 2 * 0 + _ ≤ _; exact Nat.le_of_eq rfl) (hb hby d4_101) (fun _ _ => ⟨rfl, e56, (by decide : 2 + 0 ≤ _), (by decide : 4 + 0 ≤ _)⟩)
  dsimp only [Pt.U, Pt.locs, Pt.cells, Pt.slots] at X58 l58 y58 z58 st58 hQ58
  subst l58 y58 z58
  obtain ⟨rfl, N58q, e58⟩ := hQ58
  have N58 := Fr.app N51 N58q
  obtain ⟨M58, Y58, N58⟩ : ∃ M, Stand p l e ({ frames := 2, cells := 2, slots := 4, locals := 33 } : Room) s m #[(.ref o0), (.long q1), (.long q2), (.int (2 : Int32))] below meth c T58 M 2 4 ∧ Fr n0 M := ⟨_, X58, N58⟩
  have pre58 : Lead p e below G (T58.setTop (mkF m 104 #[.val (.ref o0), .val (.long q1), .second, .val (.long q2), .second, .val (.int (2 : Int32)), .val (.long (gT 0)), .second, .val (.int (2 : Int32)), .val (.ref nb_17), .val (.ref nb_22)] [(.int (if (1 : Int32) < (2 : Int32) then (1 : Int32) else (-1 : Int32))), (.ref nb_22)])) := fun t k => pre56 t (st58.trans k)
  have hr58 : (if (1 : Int32) < (2 : Int32) then (1 : Int32) else (-1 : Int32)) = (1 : Int32) := by decide
  have pre58b : Lead p e below G (T58.setTop (mkF m 104 #[.val (.ref o0), .val (.long q1), .second, .val (.long q2), .second, .val (.int (2 : Int32)), .val (.long (gT 0)), .second, .val (.int (2 : Int32)), .val (.ref nb_17), .val (.ref nb_22)] [(.int (1 : Int32)), (.ref nb_22)])) := by have q := pre58; rw [hr58] at q; exact q
  have pre62 : Lead p e below G (T58.setTop (mkF m 108 #[.val (.ref o0), .val (.long q1), .second, .val (.long q2), .second, .val (.int (2 : Int32)), .val (.long (gT 0)), .second, .val (.int (2 : Int32)), .val (.ref nb_17), .val (.ref nb_22)] [(.long ((gT 0) + q2)), (.int (1 : Int32)), (.ref nb_22)])) := fun t k => by
    refine pre58b t ?_
    show Steps p.tables e below (T58.setTop (mkF m 104 #[.val (.ref o0), .val (.long q1), .second, .val (.long q2), .second, .val (.int (2 : Int32)), .val (.long (gT 0)), .second, .val (.int (2 : Int32)), .val (.ref nb_17), .val (.ref nb_22)] [(.int (1 : Int32)), (.ref nb_22)])) _
    refine XS.lload Y58.here hx rfl (hb hby d4_104) rfl ?_
    show Steps p.tables e below (T58.setTop (mkF m 106 #[.val (.ref o0), .val (.long q1), .second, .val (.long q2), .second, .val (.int (2 : Int32)), .val (.long (gT 0)), .second, .val (.int (2 : Int32)), .val (.ref nb_17), .val (.ref nb_22)] [(.long (gT 0)), (.int (1 : Int32)), (.ref nb_22)])) _
    refine XS.lloadN Y58.here hx rfl (hb hby d4_106) rfl ?_
    show Steps p.tables e below (T58.setTop (mkF m 107 #[.val (.ref o0), .val (.long q1), .second, .val (.long q2), .second, .val (.int (2 : Int32)), .val (.long (gT 0)), .second, .val (.int (2 : Int32)), .val (.ref nb_17), .val (.ref nb_22)] [(.long q2), (.long (gT 0)), (.int (1 : Int32)), (.ref nb_22)])) _
    refine XS.ladd Y58.here hx rfl (hb hby d4_107) rfl ?_
    show Steps p.tables e below (T58.setTop (mkF m 108 #[.val (.ref o0), .val (.long q1), .second, .val (.long q2), .second, .val (.int (2 : Int32)), .val (.long (gT 0)), .second, .val (.int (2 : Int32)), .val (.ref nb_17), .val (.ref nb_22)] [(.long ((gT 0) + q2)), (.int (1 : Int32)), (.ref nb_22)])) _
    exact k
  have f64 : JV Value.long Z h51 nb_22 .long (2 : Int32) (updF (fun _ => (0 : Int64)) 0 (gT 0)) := ((((c22_1.other W30 (Ne.symm ne22_o0_nb_22)).other W34 (Ne.symm ne22_o0_nb_22)).other W38 (Ne.symm ne22_o0_nb_22)).other W51 (Ne.symm ne22_nb_17_nb_22))
  obtain ⟨cl63, Ar63, hin63, -⟩ := f64.in (j := (1 : Int32)) ⟨by decide, by decide⟩
  obtain ⟨T63, h63, X63, e63, W63, st63⟩ := stJ Y58 hx hZ e58 Ar63 (j := (1 : Int32)) hin63 (g := (mkF m 108 #[.val (.ref o0), .val (.long q1), .second, .val (.long q2), .second, .val (.int (2 : Int32)), .val (.long (gT 0)), .second, .val (.int (2 : Int32)), .val (.ref nb_17), .val (.ref nb_22)] [(.long ((gT 0) + q2)), (.int (1 : Int32)), (.ref nb_22)])) rfl rfl (hb hby d4_108)
  have N63 := Fr.snoc X63 N58 genb_22
  have K63 : Keep h0 h63 [o0] := K51.wr W63 (Or.inr sznb_22)
  obtain ⟨M63, Y63, N63⟩ : ∃ M, Stand p l e ({ frames := 2, cells := 2, slots := 4, locals := 33 } : Room) s m #[(.ref o0), (.long q1), (.long q2), (.int (2 : Int32))] below meth c T63 M 2 4 ∧ Fr n0 M := ⟨_, X63, N63⟩
  obtain ⟨g63, hg63⟩ : ∃ z, z = (updF (updF (fun _ => (0 : Int64)) 0 (gT 0)) 1 ((gT 0) + q2)) := ⟨_, rfl⟩
  have V63 : JV Value.long Z h63 nb_22 .long (2 : Int32) g63 := by rw [hg63]; exact f64.set W63
  have pre63 : Lead p e below G (T63.setTop (mkF m 109 #[.val (.ref o0), .val (.long q1), .second, .val (.long q2), .second, .val (.int (2 : Int32)), .val (.long (gT 0)), .second, .val (.int (2 : Int32)), .val (.ref nb_17), .val (.ref nb_22)] [])) := fun t k => pre62 t (st63 _ k)
  have pre65 : Lead p e below G (T63.setTop (mkF m 111 #[.val (.ref o0), .val (.long q1), .second, .val (.long q2), .second, .val (.int (2 : Int32)), .val (.long (gT 0)), .second, .val (.int (2 : Int32)), .val (.ref nb_17), .val (.ref nb_22)] [(.ref o0), (.ref o0)])) := fun t k => by
    refine pre63 t ?_
    show Steps p.tables e below (T63.setTop (mkF m 109 #[.val (.ref o0), .val (.long q1), .second, .val (.long q2), .second, .val (.int (2 : Int32)), .val (.long (gT 0)), .second, .val (.int (2 : Int32)), .val (.ref nb_17), .val (.ref nb_22)] [])) _
    refine XS.aloadN Y63.here hx rfl (hb hby d4_109) rfl rfl ?_
    show Steps p.tables e below (T63.setTop (mkF m 110 #[.val (.ref o0), .val (.long q1), .second, .val (.long q2), .second, .val (.int (2 : Int32)), .val (.long (gT 0)), .second, .val (.int (2 : Int32)), .val (.ref nb_17), .val (.ref nb_22)] [(.ref o0)])) _
    refine XS.dup Y63.here hx rfl (hb hby d4_110) rfl rfl ?_
    show Steps p.tables e below (T63.setTop (mkF m 111 #[.val (.ref o0), .val (.long q1), .second, .val (.long q2), .second, .val (.int (2 : Int32)), .val (.long (gT 0)), .second, .val (.int (2 : Int32)), .val (.ref nb_17), .val (.ref nb_22)] [(.ref o0), (.ref o0)])) _
    exact k
  have f67 : Fld Z h63 o0 "com/example/lean_throttle/leanthrottle/TimeRing" "size" "I" (.int (1 : Int32)) := (f57.other W63 (Or.inl ne22_o0_nb_22))
  obtain ⟨T66, X66, e66, st66⟩ := getF Y63 hx hZ hown (host := "") (Or.inl (hw _ (List.mem_of_getElem? (i := 29) rfl))) Via.refl e63 f67 (g := (mkF m 111 #[.val (.ref o0), .val (.long q1), .second, .val (.long q2), .second, .val (.int (2 : Int32)), .val (.long (gT 0)), .second, .val (.int (2 : Int32)), .val (.ref nb_17), .val (.ref nb_22)] [(.ref o0), (.ref o0)])) rfl rfl (hb hby d4_111)
  have pre66 : Lead p e below G (T66.setTop (mkF m 114 #[.val (.ref o0), .val (.long q1), .second, .val (.long q2), .second, .val (.int (2 : Int32)), .val (.long (gT 0)), .second, .val (.int (2 : Int32)), .val (.ref nb_17), .val (.ref nb_22)] [(.int (1 : Int32)), (.ref o0)])) := fun t k => pre65 t (st66 _ k)
  have pre68 : Lead p e below G (T66.setTop (mkF m 116 #[.val (.ref o0), .val (.long q1), .second, .val (.long q2), .second, .val (.int (2 : Int32)), .val (.long (gT 0)), .second, .val (.int (2 : Int32)), .val (.ref nb_17), .val (.ref nb_22)] [(.int (2 : Int32)), (.ref o0)])) := fun t k => by
    refine pre66 t ?_
    show Steps p.tables e below (T66.setTop (mkF m 114 #[.val (.ref o0), .val (.long q1), .second, .val (.long q2), .second, .val (.int (2 : Int32)), .val (.long (gT 0)), .second, .val (.int (2 : Int32)), .val (.ref nb_17), .val (.ref nb_22)] [(.int (1 : Int32)), (.ref o0)])) _
    refine XS.iconst X66.here hx rfl (hb hby d4_114) ?_
    show Steps p.tables e below (T66.setTop (mkF m 115 #[.val (.ref o0), .val (.long q1), .second, .val (.long q2), .second, .val (.int (2 : Int32)), .val (.long (gT 0)), .second, .val (.int (2 : Int32)), .val (.ref nb_17), .val (.ref nb_22)] [(.int (1 : Int32)), (.int (1 : Int32)), (.ref o0)])) _
    refine XS.iadd X66.here hx rfl (hb hby d4_115) rfl ?_
    show Steps p.tables e below (T66.setTop (mkF m 116 #[.val (.ref o0), .val (.long q1), .second, .val (.long q2), .second, .val (.int (2 : Int32)), .val (.long (gT 0)), .second, .val (.int (2 : Int32)), .val (.ref nb_17), .val (.ref nb_22)] [(.int (2 : Int32)), (.ref o0)])) _
    exact k
  have f70 : Exa Z h63 o0 "com/example/lean_throttle/leanthrottle/TimeRing" := (f61.wr W63)
  obtain ⟨T69, h69, X69, e69, W69, st69⟩ := putF X66 hx hZ hown (host := "") (Or.inl (hw _ (List.mem_of_getElem? (i := 29) rfl))) Via.refl e66 f67 f70 (Or.inl (hw _ (List.mem_of_getElem? (i := 30) rfl))) (hw _ (List.mem_of_getElem? (i := 7) rfl)) (ty := .int) (by decide) rfl rfl (g := (mkF m 116 #[.val (.ref o0), .val (.long q1), .second, .val (.long q2), .second, .val (.int (2 : Int32)), .val (.long (gT 0)), .second, .val (.int (2 : Int32)), .val (.ref nb_17), .val (.ref nb_22)] [(.int (2 : Int32)), (.ref o0)])) rfl rfl (hb hby d4_116)
  have N69 := Fr.snoc X69 N63 P11_G
  have K69 : Keep h0 h69 [o0] := K63.wr W69 (Or.inl (List.mem_of_getElem? (i := 0) rfl))
  obtain ⟨M69, Y69, N69⟩ : ∃ M, Stand p l e ({ frames := 2, cells := 2, slots := 4, locals := 33 } : Room) s m #[(.ref o0), (.long q1), (.long q2), (.int (2 : Int32))] below meth c T69 M 2 4 ∧ Fr n0 M := ⟨_, X69, N69⟩
  have Fw69 : Fld Z h69 o0 "com/example/lean_throttle/leanthrottle/TimeRing" "size" "I" (.int (2 : Int32)) := f67.same W69
  have pre69 : Lead p e below G (T69.setTop (mkF m 119 #[.val (.ref o0), .val (.long q1), .second, .val (.long q2), .second, .val (.int (2 : Int32)), .val (.long (gT 0)), .second, .val (.int (2 : Int32)), .val (.ref nb_17), .val (.ref nb_22)] [])) := fun t k => pre68 t (st69 _ k)
  obtain ⟨fs, hr, hrun, hended, hW, hsame⟩ := Y69.leave (v := none) (fun _ => rfl)
  subst hG
  refine ⟨_, _, pre69 _ ?_, hrun, hended, _, _, rfl, ?_, ⟨_, rfl⟩, hW, hsame.mono (by decide) (by decide)⟩
  · show Steps p.tables e below (T69.setTop (mkF m 119 #[.val (.ref o0), .val (.long q1), .second, .val (.long q2), .second, .val (.int (2 : Int32)), .val (.long (gT 0)), .second, .val (.int (2 : Int32)), .val (.ref nb_17), .val (.ref nb_22)] [])) _
    exact Y69.returnOut hx Bd.returns (hb hby d4_119) hr
  · show Q4_0_1_1_2 Z o0 q1 q2 ta tA bf gt gT h0 n0 _ T69.heap _
    rw [e69]
    have f71 : Exa Z h69 o0 "com/example/lean_throttle/leanthrottle/TimeRing" := (f70.wr W69)
    have f72 : Fld Z h69 o0 "com/example/lean_throttle/leanthrottle/TimeRing" "times" "[J" (.ref nb_17) := ((f60.other W63 (Or.inl ne22_o0_nb_22)).other W69 (Or.inr (slot_ne (Or.inl (hw _ (List.mem_of_getElem? (i := 17) rfl))) (Or.inl (hw _ (List.mem_of_getElem? (i := 30) rfl))) (by decide) (t := (.array .long)) (t' := .int) (by decide) (by decide))))
    have f73 : Fld Z h69 o0 "com/example/lean_throttle/leanthrottle/TimeRing" "totals" "[J" (.ref nb_22) := ((f54.other W63 (Or.inl ne22_o0_nb_22)).other W69 (Or.inr (slot_ne (Or.inl (hw _ (List.mem_of_getElem? (i := 19) rfl))) (Or.inl (hw _ (List.mem_of_getElem? (i := 30) rfl))) (by decide) (t := (.array .long)) (t' := .int) (by decide) (by decide))))
    have f74 : Fld Z h69 o0 "com/example/lean_throttle/leanthrottle/TimeRing" "first" "I" (.int (0 : Int32)) := ((f59.other W63 (Or.inl ne22_o0_nb_22)).other W69 (Or.inr (slot_ne (Or.inl (hw _ (List.mem_of_getElem? (i := 38) rfl))) (Or.inl (hw _ (List.mem_of_getElem? (i := 30) rfl))) (by decide) (t := .int) (t' := .int) (by decide) (by decide))))
    have f75 : Fld Z h69 o0 "com/example/lean_throttle/leanthrottle/TimeRing" "totalBefore" "J" (.long bf) := ((((((((P5_F.keep K17c nin0).keep K22c nin0).other W30 (Or.inr (slot_ne (Or.inl (hw _ (List.mem_of_getElem? (i := 32) rfl))) (Or.inl (hw _ (List.mem_of_getElem? (i := 17) rfl))) (by decide) (t := .long) (t' := (.array .long)) (by decide) (by decide)))).other W34 (Or.inr (slot_ne (Or.inl (hw _ (List.mem_of_getElem? (i := 32) rfl))) (Or.inl (hw _ (List.mem_of_getElem? (i := 19) rfl))) (by decide) (t := .long) (t' := (.array .long)) (by decide) (by decide)))).other W38 (Or.inr (slot_ne (Or.inl (hw _ (List.mem_of_getElem? (i := 32) rfl))) (Or.inl (hw _ (List.mem_of_getElem? (i := 38) rfl))) (by decide) (t := .long) (t' := .int) (by decide) (by decide)))).other W51 (Or.inl ne17_o0_nb_17)).other W63 (Or.inl ne22_o0_nb_22)).other W69 (Or.inr (slot_ne (Or.inl (hw _ (List.mem_of_getElem? (i := 32) rfl))) (Or.inl (hw _ (List.mem_of_getElem? (i := 30) rfl))) (by decide) (t := .long) (t' := .int) (by decide) (by decide))))
    have f76 : JV Value.long Z h69 nb_17 .long (2 : Int32) (updF (updF (fun _ => (0 : Int64)) 0 (gt 0)) 1 q1) := ((V51.other W63 ne22_nb_17_nb_22).other W69 (Ne.symm ne17_o0_nb_17))
    have f77 : JV Value.long Z h69 nb_22 .long (2 : Int32) g63 := (V63.other W69 (Ne.symm ne22_o0_nb_22))
    exact ⟨nb_17, nb_22, rfl, N69, K69, f71, f72, f73, f74, Fw69, f75, sznb_17, sznb_22, ne22_nb_17_nb_22, f76, (by subst hg63; exact f77)⟩
theorem d9_0 : decode prog_21_method_7_code 0 = .ok (.iload_n 1, 1) := by decide +kernel
theorem d9_1 : decode prog_21_method_7_code 1 = .ok (.ifCond .ne 10, 3) := by decide +kernel
theorem d9_4 : decode prog_21_method_7_code 4 = .ok (.aload_n 0, 1) := by decide +kernel
theorem d9_5 : decode prog_21_method_7_code 5 = .ok (.getfield 31, 3) := by decide +kernel
theorem d9_8 : decode prog_21_method_7_code 8 = .ok (.goto 15, 3) := by decide +kernel
theorem d9_23 : decode prog_21_method_7_code 23 = .ok (.lstore_n 2, 1) := by decide +kernel
theorem d9_24 : decode prog_21_method_7_code 24 = .ok (.aload_n 0, 1) := by decide +kernel
theorem d9_25 : decode prog_21_method_7_code 25 = .ok (.getfield 13, 3) := by decide +kernel
theorem d9_28 : decode prog_21_method_7_code 28 = .ok (.aload_n 0, 1) := by decide +kernel
theorem d9_29 : decode prog_21_method_7_code 29 = .ok (.iload_n 1, 1) := by decide +kernel
theorem d9_30 : decode prog_21_method_7_code 30 = .ok (.invokevirtual 23, 3) := by decide +kernel
theorem d9_33 : decode prog_21_method_7_code 33 = .ok (.laload, 1) := by decide +kernel
theorem d9_34 : decode prog_21_method_7_code 34 = .ok (.lload_n 2, 1) := by decide +kernel
theorem d9_35 : decode prog_21_method_7_code 35 = .ok (.lsub, 1) := by decide +kernel
theorem d9_36 : decode prog_21_method_7_code 36 = .ok (.lreturn, 1) := by decide +kernel
def F9_0_2_2_0 (bf : Int64) (gT : Nat → Int64) : Int64 := ((gT 0) - bf)
theorem ef_9_0_2_2_0 (m : MethodId) (o0 : Addr) : entryFrame m #[(.ref o0), (.int (0 : Int32))] 4 = mkF m 0 #[.val (.ref o0), .val (.int (0 : Int32)), .unset, .unset] [] := by first | (simp [entryFrame, mkF, argsToLocals, Value.category]; done) | rfl
def Q9_0_2_2_0 (Z : State) (o0 : Addr) (ta : Addr) (tA : Addr) (bf : Int64) (gt : Nat → Int64) (gT : Nat → Int64) (h0 : Heap) (n0 : Nat) (v : Option Value) (h : Heap) (L : List Loc) : Prop := v = some (.long ((gT 0) - bf)) ∧ Fr n0 L ∧ h = h0
set_option maxRecDepth 65536 in
set_option maxHeartbeats 40000000 in
theorem rm9_0_2_2_0 (l : Launch) (Z : State) (a0 : Array Value) (hw : ∀ d ∈ tables_1, d.before a0 Z = true) (ws : List Jvm.Cond) (o0 : Addr) (ta : Addr) (tA : Addr) (bf : Int64) (gt : Nat → Int64) (gT : Nat → Int64) (h0 : Heap) (n0 : Nat) (Z0 : n0 ≤ h0.size) (P0_E : Exa Z h0 o0 "com/example/lean_throttle/leanthrottle/TimeRing") (P1_F : Fld Z h0 o0 "com/example/lean_throttle/leanthrottle/TimeRing" "times" "[J" (.ref ta)) (P2_F : Fld Z h0 o0 "com/example/lean_throttle/leanthrottle/TimeRing" "totals" "[J" (.ref tA)) (P3_F : Fld Z h0 o0 "com/example/lean_throttle/leanthrottle/TimeRing" "first" "I" (.int (0 : Int32))) (P4_F : Fld Z h0 o0 "com/example/lean_throttle/leanthrottle/TimeRing" "size" "I" (.int (2 : Int32))) (P5_F : Fld Z h0 o0 "com/example/lean_throttle/leanthrottle/TimeRing" "totalBefore" "J" (.long bf)) (P6_V : JV Value.long Z h0 ta .long (2 : Int32) gt) (P7_V : JV Value.long Z h0 tA .long (2 : Int32) gT) (P8_NE : o0 ≠ ta) (P9_NE : o0 ≠ tA) (P10_NE : ta ≠ tA) :
    MetFree l (⟨"com/example/lean_throttle/leanthrottle/TimeRing", "unitsOf", "(I)J"⟩ : MethodName) (head1 (Jvm.Cond.code (⟨"com/example/lean_throttle/leanthrottle/TimeRing", "unitsOf", "(I)J"⟩ : MethodName) prog_21_method_7_code 4 (some .long) :: ws) ({ frames := 1, cells := 0, slots := 0, locals := 15 } : Room)) (fun a U => a = #[(.ref o0), (.int (0 : Int32))] ∧ Z.Warmed39 U.vm ∧ U.heap = h0) (fun _ _ _ _ _ => True) (fun _ U o U' => ∃ v L, o = .returned v ∧ Q9_0_2_2_0 Z o0 ta tA bf gt gT h0 n0 v U'.heap L ∧ FrameEnd U o U' L ({ frames := 1, cells := 0, slots := 0, locals := 15 } : Room).cells ({ frames := 1, cells := 0, slots := 0, locals := 15 } : Room).slots) := by
  refine MetFree.of_bodySF (plainFor_of_name pn_com_example_lean_throttle_leanthrottle_TimeRing) hisR ?_
  intro p e s m args below meth c s₁ Bd hml0 hP hK
  obtain ⟨rfl, hZ, hh⟩ := hP
  have hx := Bd.exec
  have hby := Bd.bytes
  have hml : c.maxLocals = 4 := hml0
  have hown : s.vm.findClass "com/example/lean_throttle/leanthrottle/TimeRing" = some m.cls := findClass_of_methodNamed Bd.named
  have hnm := (name_of_methodNamed Bd.named Bd.method).1
  have X0 : Stand p l e ({ frames := 1, cells := 0, slots := 0, locals := 15 } : Room) s m #[(.ref o0), (.int (0 : Int32))] below meth c s₁ [] 0 0 := Stand.of_body Bd
  have e0 : s₁.heap = h0 := by rw [← hh, Bd.state]; rfl
  have N0 := Fr.nil n0
  have K0 : Keep h0 h0 [] := Keep.refl _ _
  obtain ⟨G, hG⟩ : ∃ z, z = s₁.setTop (entryFrame m #[(.ref o0), (.int (0 : Int32))] 4) := ⟨_, rfl⟩
  have pre0 : Lead p e below G (s₁.setTop (mkF m 0 #[.val (.ref o0), .val (.int (0 : Int32)), .unset, .unset] [])) := fun t k => by rw [hG]; exact castTop (ef_9_0_2_2_0 m o0) k
  have hf1 : (0 : Int32) = (0 : Int32) := (by decide)
  have pre2 : Lead p e below G (s₁.setTop (mkF m 5 #[.val (.ref o0), .val (.int (0 : Int32)), .unset, .unset] [(.ref o0)])) := fun t k => by
    refine pre0 t ?_
    show Steps p.tables e below (s₁.setTop (mkF m 0 #[.val (.ref o0), .val (.int (0 : Int32)), .unset, .unset] [])) _
    refine XS.iloadN X0.here hx rfl (hb hby d9_0) rfl ?_
    show Steps p.tables e below (s₁.setTop (mkF m 1 #[.val (.ref o0), .val (.int (0 : Int32)), .unset, .unset] [(.int (0 : Int32))])) _
    refine XS.ifNo X0.here hx rfl (hb hby d9_1) rfl ((if0 _ _).trans (teq hf1).2) ?_
    show Steps p.tables e below (s₁.setTop (mkF m 4 #[.val (.ref o0), .val (.int (0 : Int32)), .unset, .unset] [])) _
    refine XS.aloadN X0.here hx rfl (hb hby d9_4) rfl rfl ?_
    show Steps p.tables e below (s₁.setTop (mkF m 5 #[.val (.ref o0), .val (.int (0 : Int32)), .unset, .unset] [(.ref o0)])) _
    exact k
  obtain ⟨T3, X3, e3, st3⟩ := getF X0 hx hZ hown (host := "") (Or.inl (hw _ (List.mem_of_getElem? (i := 31) rfl))) Via.refl e0 P5_F (g := (mkF m 5 #[.val (.ref o0), .val (.int (0 : Int32)), .unset, .unset] [(.ref o0)])) rfl rfl (hb hby d9_5)
  have pre3 : Lead p e below G (T3.setTop (mkF m 8 #[.val (.ref o0), .val (.int (0 : Int32)), .unset, .unset] [(.long bf)])) := fun t k => pre2 t (st3 _ k)
  have pre4 : Lead p e below G (T3.setTop (mkF m 25 #[.val (.ref o0), .val (.int (0 : Int32)), .val (.long bf), .second] [(.ref o0)])) := fun t k => by
    refine pre3 t ?_
    show Steps p.tables e below (T3.setTop (mkF m 8 #[.val (.ref o0), .val (.int (0 : Int32)), .unset, .unset] [(.long bf)])) _
    refine XS.goto X3.here hx rfl (pc0 := 8) (pc' := 23) rfl (hb hby d9_8) (by decide) (by decide) ?_
    show Steps p.tables e below (T3.setTop (mkF m 23 #[.val (.ref o0), .val (.int (0 : Int32)), .unset, .unset] [(.long bf)])) _
    refine XS.lstoreN X3.here hx rfl (hb hby d9_23) rfl (l' := #[.val (.ref o0), .val (.int (0 : Int32)), .val (.long bf), .second]) rfl ?_
    show Steps p.tables e below (T3.setTop (mkF m 24 #[.val (.ref o0), .val (.int (0 : Int32)), .val (.long bf), .second] [])) _
    refine XS.aloadN X3.here hx rfl (hb hby d9_24) rfl rfl ?_
    show Steps p.tables e below (T3.setTop (mkF m 25 #[.val (.ref o0), .val (.int (0 : Int32)), .val (.long bf), .second] [(.ref o0)])) _
    exact k
  obtain ⟨T5, X5, e5, st5⟩ := getF X3 hx hZ hown (host := "") (Or.inl (hw _ (List.mem_of_getElem? (i := 18) rfl))) Via.refl e3 P2_F (g := (mkF m 25 #[.val (.ref o0), .val (.int (0 : Int32)), .val (.long bf), .second] [(.ref o0)])) rfl rfl (hb hby d9_25)
  have pre5 : Lead p e below G (T5.setTop (mkF m 28 #[.val (.ref o0), .val (.int (0 : Int32)), .val (.long bf), .second] [(.ref tA)])) := fun t k => pre4 t (st5 _ k)
  have pre6 : Lead p e below G (T5.setTop (mkF m 30 #[.val (.ref o0), .val (.int (0 : Int32)), .val (.long bf), .second] [(.int (0 : Int32)), (.ref o0), (.ref tA)])) := fun t k => by
    refine pre5 t ?_
    show Steps p.tables e below (T5.setTop (mkF m 28 #[.val (.ref o0), .val (.int (0 : Int32)), .val (.long bf), .second] [(.ref tA)])) _
    refine XS.aloadN X5.here hx rfl (hb hby d9_28) rfl rfl ?_
    show Steps p.tables e below (T5.setTop (mkF m 29 #[.val (.ref o0), .val (.int (0 : Int32)), .val (.long bf), .second] [(.ref o0), (.ref tA)])) _
    refine XS.iloadN X5.here hx rfl (hb hby d9_29) rfl ?_
    show Steps p.tables e below (T5.setTop (mkF m 30 #[.val (.ref o0), .val (.int (0 : Int32)), .val (.long bf), .second] [(.int (0 : Int32)), (.ref o0), (.ref tA)])) _
    exact k
  obtain ⟨cq7, zq7, zq7'⟩ := P0_E.cell
  obtain ⟨_, _, ⟨T7, L7, k7, n7⟩, -, X7, ⟨Lc7, hQ7, l7, y7, z7⟩, st7⟩ := X5.privateBack hx (y := (⟨"com/example/lean_throttle/leanthrottle/TimeRing", "at", "(I)I"⟩ : MethodName)) hown (mvT hZ (hw _ (List.mem_of_getElem? (i := 33) rfl))) (mvT hZ (hw _ (List.mem_of_getElem? (i := 34) rfl))) (own_selp hZ (hw _ (List.mem_of_getElem? (i := 7) rfl)) (hw _ (List.mem_of_getElem? (i := 35) rfl)) (hw _ (List.mem_of_getElem? (i := 34) rfl)) (by decide)) (Cond.privateMethod_at (mvP hZ (hw _ (List.mem_of_getElem? (i := 35) rfl)) (args := #[]))) (mvT hZ (hw _ (List.mem_of_getElem? (i := 36) rfl))) (by decide) (backOf (W := 1) (rm6 l Z a0 hw [] o0 (0 : Int32) (0 : Int32) ta (2 : Int32) gt h0 n0 (Nat.le_trans Z0 K0.1) P3_F P1_F P6_V) hZ (hw _ (List.mem_of_getElem? (i := 36) rfl)) (hw _ (List.mem_of_getElem? (i := 8) rfl)) (by decide) (by decide)) (g := (mkF m 30 #[.val (.ref o0), .val (.int (0 : Int32)), .val (.long bf), .second] [(.int (0 : Int32)), (.ref o0), (.ref tA)])) rfl (by rw [hml]; rfl) (Steps.refl _) (a := o0) (by rw [e5]; exact zq7) zq7' (argsL := [(.int (0 : Int32))]) (rest := [(.ref tA)]) (lenOf pd__28_I_29_I rfl) rfl (by show 2 * 0 + _ ≤ _; exact Nat.le_of_eq rfl) (hb hby d9_30) (fun _ _ => ⟨rfl, e5, (by decide : 0 + 0 ≤ _), (by decide : 0 + 0 ≤ _)⟩)
  dsimp only [Pt.U, Pt.locs, Pt.cells, Pt.slots] at X7 l7 y7 z7 st7 hQ7
  subst l7 y7 z7
  obtain ⟨rfl, N7q, e7⟩ := hQ7
  have N7 := Fr.app N0 N7q
  obtain ⟨M7, Y7, N7⟩ : ∃ M, Stand p l e ({ frames := 1, cells := 0, slots := 0, locals := 15 } : Room) s m #[(.ref o0), (.int (0 : Int32))] below meth c T7 M 0 0 ∧ Fr n0 M := ⟨_, X7, N7⟩
  have pre7 : Lead p e below G (T7.setTop (mkF m 33 #[.val (.ref o0), .val (.int (0 : Int32)), .val (.long bf), .second] [(.int (if (0 : Int32) < (2 : Int32) then (0 : Int32) else (-2 : Int32))), (.ref tA)])) := fun t k => pre6 t (st7.trans k)
  have hr7 : (if (0 : Int32) < (2 : Int32) then (0 : Int32) else (-2 : Int32)) = (0 : Int32) := by decide
  have pre7b : Lead p e below G (T7.setTop (mkF m 33 #[.val (.ref o0), .val (.int (0 : Int32)), .val (.long bf), .second] [(.int (0 : Int32)), (.ref tA)])) := by have q := pre7; rw [hr7] at q; exact q
  obtain ⟨cl8, Ar8, hin8, hat8⟩ := P7_V.in (j := (0 : Int32)) ⟨by decide, by decide⟩
  have st8 := Y7.laload hx (j := (0 : Int32)) (v := (.long (gT 0))) (by rw [e7]; exact Ar8.1) (State.isArrayOf_alike hZ.alike Ar8.2.1) Ar8.2.2 hin8 hat8 (g := (mkF m 33 #[.val (.ref o0), .val (.int (0 : Int32)), .val (.long bf), .second] [(.int (0 : Int32)), (.ref tA)])) rfl rfl (hb hby d9_33)
  have pre8 : Lead p e below G (T7.setTop (mkF m 34 #[.val (.ref o0), .val (.int (0 : Int32)), .val (.long bf), .second] [(.long (gT 0))])) := fun t k => pre7b t (st8 _ k)
  obtain ⟨fs, hr, hrun, hended, hW, hsame⟩ := Y7.leave (v := some (.long ((gT 0) - bf))) (fun h => by rw [Bd.returns] at h; cases h)
  subst hG
  refine ⟨_, _, pre8 _ ?_, hrun, hended, _, _, rfl, ?_, ⟨_, rfl⟩, hW, hsame.mono (by decide) (by decide)⟩
  · show Steps p.tables e below (T7.setTop (mkF m 34 #[.val (.ref o0), .val (.int (0 : Int32)), .val (.long bf), .second] [(.long (gT 0))])) _
    refine XS.lloadN Y7.here hx rfl (hb hby d9_34) rfl ?_
    show Steps p.tables e below (T7.setTop (mkF m 35 #[.val (.ref o0), .val (.int (0 : Int32)), .val (.long bf), .second] [(.long bf), (.long (gT 0))])) _
    refine XS.lsub Y7.here hx rfl (hb hby d9_35) rfl ?_
    show Steps p.tables e below (T7.setTop (mkF m 36 #[.val (.ref o0), .val (.int (0 : Int32)), .val (.long bf), .second] [(.long ((gT 0) - bf))])) _
    exact retJ Y7 hx Bd.returns (hb hby d9_36) hr
  · show Q9_0_2_2_0 Z o0 ta tA bf gt gT h0 n0 _ T7.heap _
    rw [e7]
    have hv_ : ((gT 0) - bf) = F9_0_2_2_0 bf gT := by
      skip
      rfl
    exact ⟨congrArg (fun z => some (Value.long z)) hv_, N7, rfl⟩
theorem pd__28_I_29_J : parseMethodDescriptor "(I)J" = some ⟨[.int], some .long⟩ := by decide +kernel
theorem d9_11 : decode prog_21_method_7_code 11 = .ok (.aload_n 0, 1) := by decide +kernel
theorem d9_12 : decode prog_21_method_7_code 12 = .ok (.getfield 13, 3) := by decide +kernel
theorem d9_15 : decode prog_21_method_7_code 15 = .ok (.aload_n 0, 1) := by decide +kernel
theorem d9_16 : decode prog_21_method_7_code 16 = .ok (.iload_n 1, 1) := by decide +kernel
theorem d9_17 : decode prog_21_method_7_code 17 = .ok (.iconst 1, 1) := by decide +kernel
theorem d9_18 : decode prog_21_method_7_code 18 = .ok (.isub, 1) := by decide +kernel
theorem d9_19 : decode prog_21_method_7_code 19 = .ok (.invokevirtual 23, 3) := by decide +kernel
theorem d9_22 : decode prog_21_method_7_code 22 = .ok (.laload, 1) := by decide +kernel
def F9_0_2_2_1 (gT : Nat → Int64) : Int64 := ((gT 1) - (gT 0))
theorem ef_9_0_2_2_1 (m : MethodId) (o0 : Addr) : entryFrame m #[(.ref o0), (.int (1 : Int32))] 4 = mkF m 0 #[.val (.ref o0), .val (.int (1 : Int32)), .unset, .unset] [] := by first | (simp [entryFrame, mkF, argsToLocals, Value.category]; done) | rfl
def Q9_0_2_2_1 (Z : State) (o0 : Addr) (ta : Addr) (tA : Addr) (bf : Int64) (gt : Nat → Int64) (gT : Nat → Int64) (h0 : Heap) (n0 : Nat) (v : Option Value) (h : Heap) (L : List Loc) : Prop := v = some (.long ((gT 1) - (gT 0))) ∧ Fr n0 L ∧ h = h0
set_option maxRecDepth 65536 in
set_option maxHeartbeats 40000000 in
theorem rm9_0_2_2_1 (l : Launch) (Z : State) (a0 : Array Value) (hw : ∀ d ∈ tables_1, d.before a0 Z = true) (ws : List Jvm.Cond) (o0 : Addr) (ta : Addr) (tA : Addr) (bf : Int64) (gt : Nat → Int64) (gT : Nat → Int64) (h0 : Heap) (n0 : Nat) (Z0 : n0 ≤ h0.size) (P0_E : Exa Z h0 o0 "com/example/lean_throttle/leanthrottle/TimeRing") (P1_F : Fld Z h0 o0 "com/example/lean_throttle/leanthrottle/TimeRing" "times" "[J" (.ref ta)) (P2_F : Fld Z h0 o0 "com/example/lean_throttle/leanthrottle/TimeRing" "totals" "[J" (.ref tA)) (P3_F : Fld Z h0 o0 "com/example/lean_throttle/leanthrottle/TimeRing" "first" "I" (.int (0 : Int32))) (P4_F : Fld Z h0 o0 "com/example/lean_throttle/leanthrottle/TimeRing" "size" "I" (.int (2 : Int32))) (P5_F : Fld Z h0 o0 "com/example/lean_throttle/leanthrottle/TimeRing" "totalBefore" "J" (.long bf)) (P6_V : JV Value.long Z h0 ta .long (2 : Int32) gt) (P7_V : JV Value.long Z h0 tA .long (2 : Int32) gT) (P8_NE : o0 ≠ ta) (P9_NE : o0 ≠ tA) (P10_NE : ta ≠ tA) :
    MetFree l (⟨"com/example/lean_throttle/leanthrottle/TimeRing", "unitsOf", "(I)J"⟩ : MethodName) (head1 (Jvm.Cond.code (⟨"com/example/lean_throttle/leanthrottle/TimeRing", "unitsOf", "(I)J"⟩ : MethodName) prog_21_method_7_code 4 (some .long) :: ws) ({ frames := 1, cells := 0, slots := 0, locals := 15 } : Room)) (fun a U => a = #[(.ref o0), (.int (1 : Int32))] ∧ Z.Warmed39 U.vm ∧ U.heap = h0) (fun _ _ _ _ _ => True) (fun _ U o U' => ∃ v L, o = .returned v ∧ Q9_0_2_2_1 Z o0 ta tA bf gt gT h0 n0 v U'.heap L ∧ FrameEnd U o U' L ({ frames := 1, cells := 0, slots := 0, locals := 15 } : Room).cells ({ frames := 1, cells := 0, slots := 0, locals := 15 } : Room).slots) := by
  refine MetFree.of_bodySF (plainFor_of_name pn_com_example_lean_throttle_leanthrottle_TimeRing) hisR ?_
  intro p e s m args below meth c s₁ Bd hml0 hP hK
  obtain ⟨rfl, hZ, hh⟩ := hP
  have hx := Bd.exec
  have hby := Bd.bytes
  have hml : c.maxLocals = 4 := hml0
  have hown : s.vm.findClass "com/example/lean_throttle/leanthrottle/TimeRing" = some m.cls := findClass_of_methodNamed Bd.named
  have hnm := (name_of_methodNamed Bd.named Bd.method).1
  have X0 : Stand p l e ({ frames := 1, cells := 0, slots := 0, locals := 15 } : Room) s m #[(.ref o0), (.int (1 : Int32))] below meth c s₁ [] 0 0 := Stand.of_body Bd
  have e0 : s₁.heap = h0 := by rw [← hh, Bd.state]; rfl
  have N0 := Fr.nil n0
  have K0 : Keep h0 h0 [] := Keep.refl _ _
  obtain ⟨G, hG⟩ : ∃ z, z = s₁.setTop (entryFrame m #[(.ref o0), (.int (1 : Int32))] 4) := ⟨_, rfl⟩
  have pre0 : Lead p e below G (s₁.setTop (mkF m 0 #[.val (.ref o0), .val (.int (1 : Int32)), .unset, .unset] [])) := fun t k => by rw [hG]; exact castTop (ef_9_0_2_2_1 m o0) k
  have hf1 : ¬ ((1 : Int32) = (0 : Int32)) := (by decide)
  have pre2 : Lead p e below G (s₁.setTop (mkF m 12 #[.val (.ref o0), .val (.int (1 : Int32)), .unset, .unset] [(.ref o0)])) := fun t k => by
    refine pre0 t ?_
    show Steps p.tables e below (s₁.setTop (mkF m 0 #[.val (.ref o0), .val (.int (1 : Int32)), .unset, .unset] [])) _
    refine XS.iloadN X0.here hx rfl (hb hby d9_0) rfl ?_
    show Steps p.tables e below (s₁.setTop (mkF m 1 #[.val (.ref o0), .val (.int (1 : Int32)), .unset, .unset] [(.int (1 : Int32))])) _
    refine XS.ifYes X0.here hx rfl (pc0 := 1) (pc' := 11) rfl (hb hby d9_1) rfl ((if0 _ _).trans (feq hf1).2) (by decide) (by decide) ?_
    show Steps p.tables e below (s₁.setTop (mkF m 11 #[.val (.ref o0), .val (.int (1 : Int32)), .unset, .unset] [])) _
    refine XS.aloadN X0.here hx rfl (hb hby d9_11) rfl rfl ?_
    show Steps p.tables e below (s₁.setTop (mkF m 12 #[.val (.ref o0), .val (.int (1 : Int32)), .unset, .unset] [(.ref o0)])) _
    exact k
  obtain ⟨T3, X3, e3, st3⟩ := getF X0 hx hZ hown (host := "") (Or.inl (hw _ (List.mem_of_getElem? (i := 18) rfl))) Via.refl e0 P2_F (g := (mkF m 12 #[.val (.ref o0), .val (.int (1 : Int32)), .unset, .unset] [(.ref o0)])) rfl rfl (hb hby d9_12)
  have pre3 : Lead p e below G (T3.setTop (mkF m 15 #[.val (.ref o0), .val (.int (1 : Int32)), .unset, .unset] [(.ref tA)])) := fun t k => pre2 t (st3 _ k)
  have pre4 : Lead p e below G (T3.setTop (mkF m 19 #[.val (.ref o0), .val (.int (1 : Int32)), .unset, .unset] [(.int (0 : Int32)), (.ref o0), (.ref tA)])) := fun t k => by
    refine pre3 t ?_
    show Steps p.tables e below (T3.setTop (mkF m 15 #[.val (.ref o0), .val (.int (1 : Int32)), .unset, .unset] [(.ref tA)])) _
    refine XS.aloadN X3.here hx rfl (hb hby d9_15) rfl rfl ?_
    show Steps p.tables e below (T3.setTop (mkF m 16 #[.val (.ref o0), .val (.int (1 : Int32)), .unset, .unset] [(.ref o0), (.ref tA)])) _
    refine XS.iloadN X3.here hx rfl (hb hby d9_16) rfl ?_
    show Steps p.tables e below (T3.setTop (mkF m 17 #[.val (.ref o0), .val (.int (1 : Int32)), .unset, .unset] [(.int (1 : Int32)), (.ref o0), (.ref tA)])) _
    refine XS.iconst X3.here hx rfl (hb hby d9_17) ?_
    show Steps p.tables e below (T3.setTop (mkF m 18 #[.val (.ref o0), .val (.int (1 : Int32)), .unset, .unset] [(.int (1 : Int32)), (.int (1 : Int32)), (.ref o0), (.ref tA)])) _
    refine XS.isub X3.here hx rfl (hb hby d9_18) rfl ?_
    show Steps p.tables e below (T3.setTop (mkF m 19 #[.val (.ref o0), .val (.int (1 : Int32)), .unset, .unset] [(.int (0 : Int32)), (.ref o0), (.ref tA)])) _
    exact k
  obtain ⟨cq5, zq5, zq5'⟩ := P0_E.cell
  obtain ⟨_, _, ⟨T5, L5, k5, n5⟩, -, X5, ⟨Lc5, hQ5, l5, y5, z5⟩, st5⟩ := X3.privateBack hx (y := (⟨"com/example/lean_throttle/leanthrottle/TimeRing", "at", "(I)I"⟩ : MethodName)) hown (mvT hZ (hw _ (List.mem_of_getElem? (i := 33) rfl))) (mvT hZ (hw _ (List.mem_of_getElem? (i := 34) rfl))) (own_selp hZ (hw _ (List.mem_of_getElem? (i := 7) rfl)) (hw _ (List.mem_of_getElem? (i := 35) rfl)) (hw _ (List.mem_of_getElem? (i := 34) rfl)) (by decide)) (Cond.privateMethod_at (mvP hZ (hw _ (List.mem_of_getElem? (i := 35) rfl)) (args := #[]))) (mvT hZ (hw _ (List.mem_of_getElem? (i := 36) rfl))) (by decide) (backOf (W := 1) (rm6 l Z a0 hw [] o0 (0 : Int32) (0 : Int32) ta (2 : Int32) gt h0 n0 (Nat.le_trans Z0 K0.1) P3_F P1_F P6_V) hZ (hw _ (List.mem_of_getElem? (i := 36) rfl)) (hw _ (List.mem_of_getElem? (i := 8) rfl)) (by decide) (by decide)) (g := (mkF m 19 #[.val (.ref o0), .val (.int (1 : Int32)), .unset, .unset] [(.int (0 : Int32)), (.ref o0), (.ref tA)])) rfl (by rw [hml]; rfl) (Steps.refl _) (a := o0) (by rw [e3]; exact zq5) zq5' (argsL := [(.int (0 : Int32))]) (rest := [(.ref tA)]) (lenOf pd__28_I_29_I rfl) rfl (by show 2 * 0 + _ ≤ _; exact Nat.le_of_eq rfl) (hb hby d9_19) (fun _ _ => ⟨rfl, e3, (by decide : 0 + 0 ≤ _), (by decide : 0 + 0 ≤ _)⟩)
  dsimp only [Pt.U, Pt.locs, Pt.cells, Pt.slots] at X5 l5 y5 z5 st5 hQ5
  subst l5 y5 z5
  obtain ⟨rfl, N5q, e5⟩ := hQ5
  have N5 := Fr.app N0 N5q
  obtain ⟨M5, Y5, N5⟩ : ∃ M, Stand p l e ({ frames := 1, cells := 0, slots := 0, locals := 15 } : Room) s m #[(.ref o0), (.int (1 : Int32))] below meth c T5 M 0 0 ∧ Fr n0 M := ⟨_, X5, N5⟩
  have pre5 : Lead p e below G (T5.setTop (mkF m 22 #[.val (.ref o0), .val (.int (1 : Int32)), .unset, .unset] [(.int (if (0 : Int32) < (2 : Int32) then (0 : Int32) else (-2 : Int32))), (.ref tA)])) := fun t k => pre4 t (st5.trans k)
  have hr5 : (if (0 : Int32) < (2 : Int32) then (0 : Int32) else (-2 : Int32)) = (0 : Int32) := by decide
  have pre5b : Lead p e below G (T5.setTop (mkF m 22 #[.val (.ref o0), .val (.int (1 : Int32)), .unset, .unset] [(.int (0 : Int32)), (.ref tA)])) := by have q := pre5; rw [hr5] at q; exact q
  obtain ⟨cl6, Ar6, hin6, hat6⟩ := P7_V.in (j := (0 : Int32)) ⟨by decide, by decide⟩
  have st6 := Y5.laload hx (j := (0 : Int32)) (v := (.long (gT 0))) (by rw [e5]; exact Ar6.1) (State.isArrayOf_alike hZ.alike Ar6.2.1) Ar6.2.2 hin6 hat6 (g := (mkF m 22 #[.val (.ref o0), .val (.int (1 : Int32)), .unset, .unset] [(.int (0 : Int32)), (.ref tA)])) rfl rfl (hb hby d9_22)
  have pre6 : Lead p e below G (T5.setTop (mkF m 23 #[.val (.ref o0), .val (.int (1 : Int32)), .unset, .unset] [(.long (gT 0))])) := fun t k => pre5b t (st6 _ k)
  have pre7 : Lead p e below G (T5.setTop (mkF m 25 #[.val (.ref o0), .val (.int (1 : Int32)), .val (.long (gT 0)), .second] [(.ref o0)])) := fun t k => by
    refine pre6 t ?_
    show Steps p.tables e below (T5.setTop (mkF m 23 #[.val (.ref o0), .val (.int (1 : Int32)), .unset, .unset] [(.long (gT 0))])) _
    refine XS.lstoreN Y5.here hx rfl (hb hby d9_23) rfl (l' := #[.val (.ref o0), .val (.int (1 : Int32)), .val (.long (gT 0)), .second]) rfl ?_
    show Steps p.tables e below (T5.setTop (mkF m 24 #[.val (.ref o0), .val (.int (1 : Int32)), .val (.long (gT 0)), .second] [])) _
    refine XS.aloadN Y5.here hx rfl (hb hby d9_24) rfl rfl ?_
    show Steps p.tables e below (T5.setTop (mkF m 25 #[.val (.ref o0), .val (.int (1 : Int32)), .val (.long (gT 0)), .second] [(.ref o0)])) _
    exact k
  obtain ⟨T8, X8, e8, st8⟩ := getF Y5 hx hZ hown (host := "") (Or.inl (hw _ (List.mem_of_getElem? (i := 18) rfl))) Via.refl e5 P2_F (g := (mkF m 25 #[.val (.ref o0), .val (.int (1 : Int32)), .val (.long (gT 0)), .second] [(.ref o0)])) rfl rfl (hb hby d9_25)
  have pre8 : Lead p e below G (T8.setTop (mkF m 28 #[.val (.ref o0), .val (.int (1 : Int32)), .val (.long (gT 0)), .second] [(.ref tA)])) := fun t k => pre7 t (st8 _ k)
  have pre9 : Lead p e below G (T8.setTop (mkF m 30 #[.val (.ref o0), .val (.int (1 : Int32)), .val (.long (gT 0)), .second] [(.int (1 : Int32)), (.ref o0), (.ref tA)])) := fun t k => by
    refine pre8 t ?_
    show Steps p.tables e below (T8.setTop (mkF m 28 #[.val (.ref o0), .val (.int (1 : Int32)), .val (.long (gT 0)), .second] [(.ref tA)])) _
    refine XS.aloadN X8.here hx rfl (hb hby d9_28) rfl rfl ?_
    show Steps p.tables e below (T8.setTop (mkF m 29 #[.val (.ref o0), .val (.int (1 : Int32)), .val (.long (gT 0)), .second] [(.ref o0), (.ref tA)])) _
    refine XS.iloadN X8.here hx rfl (hb hby d9_29) rfl ?_
    show Steps p.tables e below (T8.setTop (mkF m 30 #[.val (.ref o0), .val (.int (1 : Int32)), .val (.long (gT 0)), .second] [(.int (1 : Int32)), (.ref o0), (.ref tA)])) _
    exact k
  obtain ⟨cq10, zq10, zq10'⟩ := P0_E.cell
  obtain ⟨_, _, ⟨T10, L10, k10, n10⟩, -, X10, ⟨Lc10, hQ10, l10, y10, z10⟩, st10⟩ := X8.privateBack hx (y := (⟨"com/example/lean_throttle/leanthrottle/TimeRing", "at", "(I)I"⟩ : MethodName)) hown (mvT hZ (hw _ (List.mem_of_getElem? (i := 33) rfl))) (mvT hZ (hw _ (List.mem_of_getElem? (i := 34) rfl))) (own_selp hZ (hw _ (List.mem_of_getElem? (i := 7) rfl)) (hw _ (List.mem_of_getElem? (i := 35) rfl)) (hw _ (List.mem_of_getElem? (i := 34) rfl)) (by decide)) (Cond.privateMethod_at (mvP hZ (hw _ (List.mem_of_getElem? (i := 35) rfl)) (args := #[]))) (mvT hZ (hw _ (List.mem_of_getElem? (i := 36) rfl))) (by decide) (backOf (W := 1) (rm6 l Z a0 hw [] o0 (1 : Int32) (0 : Int32) ta (2 : Int32) gt h0 n0 (Nat.le_trans Z0 K0.1) P3_F P1_F P6_V) hZ (hw _ (List.mem_of_getElem? (i := 36) rfl)) (hw _ (List.mem_of_getElem? (i := 8) rfl)) (by decide) (by decide)) (g := (mkF m 30 #[.val (.ref o0), .val (.int (1 : Int32)), .val (.long (gT 0)), .second] [(.int (1 : Int32)), (.ref o0), (.ref tA)])) rfl (by rw [hml]; rfl) (Steps.refl _) (a := o0) (by rw [e8]; exact zq10) zq10' (argsL := [(.int (1 : Int32))]) (rest := [(.ref tA)]) (lenOf pd__28_I_29_I rfl) rfl (by show 2 * 0 + _ ≤ _; exact Nat.le_of_eq rfl) (hb hby d9_30) (fun _ _ => ⟨rfl, e8, (by decide : 0 + 0 ≤ _), (by decide : 0 + 0 ≤ _)⟩)
  dsimp only [Pt.U, Pt.locs, Pt.cells, Pt.slots] at X10 l10 y10 z10 st10 hQ10
  subst l10 y10 z10
  obtain ⟨rfl, N10q, e10⟩ := hQ10
  have N10 := Fr.app N5 N10q
  obtain ⟨M10, Y10, N10⟩ : ∃ M, Stand p l e ({ frames := 1, cells := 0, slots := 0, locals := 15 } : Room) s m #[(.ref o0), (.int (1 : Int32))] below meth c T10 M 0 0 ∧ Fr n0 M := ⟨_, X10, N10⟩
  have pre10 : Lead p e below G (T10.setTop (mkF m 33 #[.val (.ref o0), .val (.int (1 : Int32)), .val (.long (gT 0)), .second] [(.int (if (1 : Int32) < (2 : Int32) then (1 : Int32) else (-1 : Int32))), (.ref tA)])) := fun t k => pre9 t (st10.trans k)
  have hr10 : (if (1 : Int32) < (2 : Int32) then (1 : Int32) else (-1 : Int32)) = (1 : Int32) := by decide
  have pre10b : Lead p e below G (T10.setTop (mkF m 33 #[.val (.ref o0), .val (.int (1 : Int32)), .val (.long (gT 0)), .second] [(.int (1 : Int32)), (.ref tA)])) := by have q := pre10; rw [hr10] at q; exact q
  obtain ⟨cl11, Ar11, hin11, hat11⟩ := P7_V.in (j := (1 : Int32)) ⟨by decide, by decide⟩
  have st11 := Y10.laload hx (j := (1 : Int32)) (v := (.long (gT 1))) (by rw [e10]; exact Ar11.1) (State.isArrayOf_alike hZ.alike Ar11.2.1) Ar11.2.2 hin11 hat11 (g := (mkF m 33 #[.val (.ref o0), .val (.int (1 : Int32)), .val (.long (gT 0)), .second] [(.int (1 : Int32)), (.ref tA)])) rfl rfl (hb hby d9_33)
  have pre11 : Lead p e below G (T10.setTop (mkF m 34 #[.val (.ref o0), .val (.int (1 : Int32)), .val (.long (gT 0)), .second] [(.long (gT 1))])) := fun t k => pre10b t (st11 _ k)
  obtain ⟨fs, hr, hrun, hended, hW, hsame⟩ := Y10.leave (v := some (.long ((gT 1) - (gT 0)))) (fun h => by rw [Bd.returns] at h; cases h)
  subst hG
  refine ⟨_, _, pre11 _ ?_, hrun, hended, _, _, rfl, ?_, ⟨_, rfl⟩, hW, hsame.mono (by decide) (by decide)⟩
  · show Steps p.tables e below (T10.setTop (mkF m 34 #[.val (.ref o0), .val (.int (1 : Int32)), .val (.long (gT 0)), .second] [(.long (gT 1))])) _
    refine XS.lloadN Y10.here hx rfl (hb hby d9_34) rfl ?_
    show Steps p.tables e below (T10.setTop (mkF m 35 #[.val (.ref o0), .val (.int (1 : Int32)), .val (.long (gT 0)), .second] [(.long (gT 0)), (.long (gT 1))])) _
    refine XS.lsub Y10.here hx rfl (hb hby d9_35) rfl ?_
    show Steps p.tables e below (T10.setTop (mkF m 36 #[.val (.ref o0), .val (.int (1 : Int32)), .val (.long (gT 0)), .second] [(.long ((gT 1) - (gT 0)))])) _
    exact retJ Y10 hx Bd.returns (hb hby d9_36) hr
  · show Q9_0_2_2_1 Z o0 ta tA bf gt gT h0 n0 _ T10.heap _
    rw [e10]
    have hv_ : ((gT 1) - (gT 0)) = F9_0_2_2_1 gT := by
      skip
      rfl
    exact ⟨congrArg (fun z => some (Value.long z)) hv_, N10, rfl⟩
theorem d10_0 : decode prog_21_method_9_code 0 = .ok (.aload_n 0, 1) := by decide +kernel
theorem d10_1 : decode prog_21_method_9_code 1 = .ok (.aload_n 0, 1) := by decide +kernel
theorem d10_2 : decode prog_21_method_9_code 2 = .ok (.getfield 13, 3) := by decide +kernel
theorem d10_5 : decode prog_21_method_9_code 5 = .ok (.aload_n 0, 1) := by decide +kernel
theorem d10_6 : decode prog_21_method_9_code 6 = .ok (.getfield 20, 3) := by decide +kernel
theorem d10_9 : decode prog_21_method_9_code 9 = .ok (.laload, 1) := by decide +kernel
theorem d10_10 : decode prog_21_method_9_code 10 = .ok (.putfield 31, 3) := by decide +kernel
theorem d10_13 : decode prog_21_method_9_code 13 = .ok (.aload_n 0, 1) := by decide +kernel
theorem d10_14 : decode prog_21_method_9_code 14 = .ok (.aload_n 0, 1) := by decide +kernel
theorem d10_15 : decode prog_21_method_9_code 15 = .ok (.iconst 1, 1) := by decide +kernel
theorem d10_16 : decode prog_21_method_9_code 16 = .ok (.invokevirtual 23, 3) := by decide +kernel
theorem d10_19 : decode prog_21_method_9_code 19 = .ok (.putfield 20, 3) := by decide +kernel
theorem d10_22 : decode prog_21_method_9_code 22 = .ok (.aload_n 0, 1) := by decide +kernel
theorem d10_23 : decode prog_21_method_9_code 23 = .ok (.dup, 1) := by decide +kernel
theorem d10_24 : decode prog_21_method_9_code 24 = .ok (.getfield 16, 3) := by decide +kernel
theorem d10_27 : decode prog_21_method_9_code 27 = .ok (.iconst 1, 1) := by decide +kernel
theorem d10_28 : decode prog_21_method_9_code 28 = .ok (.isub, 1) := by decide +kernel
theorem d10_29 : decode prog_21_method_9_code 29 = .ok (.putfield 16, 3) := by decide +kernel
theorem d10_32 : decode prog_21_method_9_code 32 = .ok (.return_, 1) := by decide +kernel
theorem ef_10_0_2_2 (m : MethodId) (o0 : Addr) : entryFrame m #[(.ref o0)] 1 = mkF m 0 #[.val (.ref o0)] [] := by first | (simp [entryFrame, mkF, argsToLocals, Value.category]; done) | rfl
def Q10_0_2_2 (Z : State) (o0 : Addr) (ta : Addr) (tA : Addr) (bf : Int64) (gt : Nat → Int64) (gT : Nat → Int64) (h0 : Heap) (n0 : Nat) (v : Option Value) (h : Heap) (L : List Loc) : Prop := v = none ∧ Fr n0 L ∧ Keep h0 h [o0] ∧ Exa Z h o0 "com/example/lean_throttle/leanthrottle/TimeRing" ∧ Fld Z h o0 "com/example/lean_throttle/leanthrottle/TimeRing" "times" "[J" (.ref ta) ∧ Fld Z h o0 "com/example/lean_throttle/leanthrottle/TimeRing" "totals" "[J" (.ref tA) ∧ Fld Z h o0 "com/example/lean_throttle/leanthrottle/TimeRing" "first" "I" (.int (1 : Int32)) ∧ Fld Z h o0 "com/example/lean_throttle/leanthrottle/TimeRing" "size" "I" (.int (1 : Int32)) ∧ Fld Z h o0 "com/example/lean_throttle/leanthrottle/TimeRing" "totalBefore" "J" (.long (gT 0))
set_option maxRecDepth 65536 in
set_option maxHeartbeats 40000000 in
theorem rm10_0_2_2 (l : Launch) (Z : State) (a0 : Array Value) (hw : ∀ d ∈ tables_1, d.before a0 Z = true) (ws : List Jvm.Cond) (o0 : Addr) (ta : Addr) (tA : Addr) (bf : Int64) (gt : Nat → Int64) (gT : Nat → Int64) (h0 : Heap) (n0 : Nat) (Z0 : n0 ≤ h0.size) (P0_E : Exa Z h0 o0 "com/example/lean_throttle/leanthrottle/TimeRing") (P1_F : Fld Z h0 o0 "com/example/lean_throttle/leanthrottle/TimeRing" "times" "[J" (.ref ta)) (P2_F : Fld Z h0 o0 "com/example/lean_throttle/leanthrottle/TimeRing" "totals" "[J" (.ref tA)) (P3_F : Fld Z h0 o0 "com/example/lean_throttle/leanthrottle/TimeRing" "first" "I" (.int (0 : Int32))) (P4_F : Fld Z h0 o0 "com/example/lean_throttle/leanthrottle/TimeRing" "size" "I" (.int (2 : Int32))) (P5_F : Fld Z h0 o0 "com/example/lean_throttle/leanthrottle/TimeRing" "totalBefore" "J" (.long bf)) (P6_V : JV Value.long Z h0 ta .long (2 : Int32) gt) (P7_V : JV Value.long Z h0 tA .long (2 : Int32) gT) (P8_NE : o0 ≠ ta) (P9_NE : o0 ≠ tA) (P10_NE : ta ≠ tA) (P11_G : n0 ≤ o0) :
    MetFree l (⟨"com/example/lean_throttle/leanthrottle/TimeRing", "dropOldest", "()V"⟩ : MethodName) (head1 (Jvm.Cond.code (⟨"com/example/lean_throttle/leanthrottle/TimeRing", "dropOldest", "()V"⟩ : MethodName) prog_21_method_9_code 1 none :: ws) ({ frames := 1, cells := 0, slots := 0, locals := 15 } : Room)) (fun a U => a = #[(.ref o0)] ∧ Z.Warmed39 U.vm ∧ U.heap = h0) (fun _ _ _ _ _ => True) (fun _ U o U' => ∃ v L, o = .returned v ∧ Q10_0_2_2 Z o0 ta tA bf gt gT h0 n0 v U'.heap L ∧ FrameEnd U o U' L ({ frames := 1, cells := 0, slots := 0, locals := 15 } : Room).cells ({ frames := 1, cells := 0, slots := 0, locals := 15 } : Room).slots) := by
  refine MetFree.of_bodySF (plainFor_of_name pn_com_example_lean_throttle_leanthrottle_TimeRing) hisR ?_
  intro p e s m args below meth c s₁ Bd hml0 hP hK
  obtain ⟨rfl, hZ, hh⟩ := hP
  have hx := Bd.exec
  have hby := Bd.bytes
  have hml : c.maxLocals = 1 := hml0
  have hown : s.vm.findClass "com/example/lean_throttle/leanthrottle/TimeRing" = some m.cls := findClass_of_methodNamed Bd.named
  have hnm := (name_of_methodNamed Bd.named Bd.method).1
  have X0 : Stand p l e ({ frames := 1, cells := 0, slots := 0, locals := 15 } : Room) s m #[(.ref o0)] below meth c s₁ [] 0 0 := Stand.of_body Bd
  have e0 : s₁.heap = h0 := by rw [← hh, Bd.state]; rfl
  have N0 := Fr.nil n0
  have K0 : Keep h0 h0 [o0] := Keep.refl _ _
  obtain ⟨G, hG⟩ : ∃ z, z = s₁.setTop (entryFrame m #[(.ref o0)] 1) := ⟨_, rfl⟩
  have pre0 : Lead p e below G (s₁.setTop (mkF m 0 #[.val (.ref o0)] [])) := fun t k => by rw [hG]; exact castTop (ef_10_0_2_2 m o0) k
  have pre1 : Lead p e below G (s₁.setTop (mkF m 2 #[.val (.ref o0)] [(.ref o0), (.ref o0)])) := fun t k => by
    refine pre0 t ?_
    show Steps p.tables e below (s₁.setTop (mkF m 0 #[.val (.ref o0)] [])) _
    refine XS.aloadN X0.here hx rfl (hb hby d10_0) rfl rfl ?_
    show Steps p.tables e below (s₁.setTop (mkF m 1 #[.val (.ref o0)] [(.ref o0)])) _
    refine XS.aloadN X0.here hx rfl (hb hby d10_1) rfl rfl ?_
    show Steps p.tables e below (s₁.setTop (mkF m 2 #[.val (.ref o0)] [(.ref o0), (.ref o0)])) _
    exact k
  obtain ⟨T2, X2, e2, st2⟩ := getF X0 hx hZ hown (host := "") (Or.inl (hw _ (List.mem_of_getElem? (i := 18) rfl))) Via.refl e0 P2_F (g := (mkF m 2 #[.val (.ref o0)] [(.ref o0), (.ref o0)])) rfl rfl (hb hby d10_2)
  have pre2 : Lead p e below G (T2.setTop (mkF m 5 #[.val (.ref o0)] [(.ref tA), (.ref o0)])) := fun t k => pre1 t (st2 _ k)
  have pre3 : Lead p e below G (T2.setTop (mkF m 6 #[.val (.ref o0)] [(.ref o0), (.ref tA), (.ref o0)])) := fun t k => by
    refine pre2 t ?_
    show Steps p.tables e below (T2.setTop (mkF m 5 #[.val (.ref o0)] [(.ref tA), (.ref o0)])) _
    refine XS.aloadN X2.here hx rfl (hb hby d10_5) rfl rfl ?_
    show Steps p.tables e below (T2.setTop (mkF m 6 #[.val (.ref o0)] [(.ref o0), (.ref tA), (.ref o0)])) _
    exact k
  obtain ⟨T4, X4, e4, st4⟩ := getF X2 hx hZ hown (host := "") (Or.inl (hw _ (List.mem_of_getElem? (i := 37) rfl))) Via.refl e2 P3_F (g := (mkF m 6 #[.val (.ref o0)] [(.ref o0), (.ref tA), (.ref o0)])) rfl rfl (hb hby d10_6)
  have pre4 : Lead p e below G (T4.setTop (mkF m 9 #[.val (.ref o0)] [(.int (0 : Int32)), (.ref tA), (.ref o0)])) := fun t k => pre3 t (st4 _ k)
  obtain ⟨cl5, Ar5, hin5, hat5⟩ := P7_V.in (j := (0 : Int32)) ⟨by decide, by decide⟩
  have st5 := X4.laload hx (j := (0 : Int32)) (v := (.long (gT 0))) (by rw [e4]; exact Ar5.1) (State.isArrayOf_alike hZ.alike Ar5.2.1) Ar5.2.2 hin5 hat5 (g := (mkF m 9 #[.val (.ref o0)] [(.int (0 : Int32)), (.ref tA), (.ref o0)])) rfl rfl (hb hby d10_9)
  have pre5 : Lead p e below G (T4.setTop (mkF m 10 #[.val (.ref o0)] [(.long (gT 0)), (.ref o0)])) := fun t k => pre4 t (st5 _ k)
  obtain ⟨T6, h6, X6, e6, W6, st6⟩ := putF X4 hx hZ hown (host := "") (Or.inl (hw _ (List.mem_of_getElem? (i := 31) rfl))) Via.refl e4 P5_F P0_E (Or.inl (hw _ (List.mem_of_getElem? (i := 32) rfl))) (hw _ (List.mem_of_getElem? (i := 7) rfl)) (ty := .long) (by decide) rfl rfl (g := (mkF m 10 #[.val (.ref o0)] [(.long (gT 0)), (.ref o0)])) rfl rfl (hb hby d10_10)
  have N6 := Fr.snoc X6 N0 P11_G
  have K6 : Keep h0 h6 [o0] := K0.wr W6 (Or.inl (List.mem_of_getElem? (i := 0) rfl))
  obtain ⟨M6, Y6, N6⟩ : ∃ M, Stand p l e ({ frames := 1, cells := 0, slots := 0, locals := 15 } : Room) s m #[(.ref o0)] below meth c T6 M 0 0 ∧ Fr n0 M := ⟨_, X6, N6⟩
  have Fw6 : Fld Z h6 o0 "com/example/lean_throttle/leanthrottle/TimeRing" "totalBefore" "J" (.long (gT 0)) := P5_F.same W6
  have pre6 : Lead p e below G (T6.setTop (mkF m 13 #[.val (.ref o0)] [])) := fun t k => pre5 t (st6 _ k)
  have pre7 : Lead p e below G (T6.setTop (mkF m 16 #[.val (.ref o0)] [(.int (1 : Int32)), (.ref o0), (.ref o0)])) := fun t k => by
    refine pre6 t ?_
    show Steps p.tables e below (T6.setTop (mkF m 13 #[.val (.ref o0)] [])) _
    refine XS.aloadN Y6.here hx rfl (hb hby d10_13) rfl rfl ?_
    show Steps p.tables e below (T6.setTop (mkF m 14 #[.val (.ref o0)] [(.ref o0)])) _
    refine XS.aloadN Y6.here hx rfl (hb hby d10_14) rfl rfl ?_
    show Steps p.tables e below (T6.setTop (mkF m 15 #[.val (.ref o0)] [(.ref o0), (.ref o0)])) _
    refine XS.iconst Y6.here hx rfl (hb hby d10_15) ?_
    show Steps p.tables e below (T6.setTop (mkF m 16 #[.val (.ref o0)] [(.int (1 : Int32)), (.ref o0), (.ref o0)])) _
    exact k
  have f9 : Fld Z h6 o0 "com/example/lean_throttle/leanthrottle/TimeRing" "first" "I" (.int (0 : Int32)) := (P3_F.other W6 (Or.inr (slot_ne (Or.inl (hw _ (List.mem_of_getElem? (i := 38) rfl))) (Or.inl (hw _ (List.mem_of_getElem? (i := 32) rfl))) (by decide) (t := .int) (t' := .long) (by decide) (by decide))))
  have f10 : Fld Z h6 o0 "com/example/lean_throttle/leanthrottle/TimeRing" "times" "[J" (.ref ta) := (P1_F.other W6 (Or.inr (slot_ne (Or.inl (hw _ (List.mem_of_getElem? (i := 17) rfl))) (Or.inl (hw _ (List.mem_of_getElem? (i := 32) rfl))) (by decide) (t := (.array .long)) (t' := .long) (by decide) (by decide))))
  have f11 : JV Value.long Z h6 ta .long (2 : Int32) gt := (P6_V.other W6 (Ne.symm P8_NE))
  have f12 : Exa Z h6 o0 "com/example/lean_throttle/leanthrottle/TimeRing" := (P0_E.wr W6)
  obtain ⟨cq8, zq8, zq8'⟩ := f12.cell
  obtain ⟨_, _, ⟨T8, L8, k8, n8⟩, -, X8, ⟨Lc8, hQ8, l8, y8, z8⟩, st8⟩ := Y6.privateBack hx (y := (⟨"com/example/lean_throttle/leanthrottle/TimeRing", "at", "(I)I"⟩ : MethodName)) hown (mvT hZ (hw _ (List.mem_of_getElem? (i := 33) rfl))) (mvT hZ (hw _ (List.mem_of_getElem? (i := 34) rfl))) (own_selp hZ (hw _ (List.mem_of_getElem? (i := 7) rfl)) (hw _ (List.mem_of_getElem? (i := 35) rfl)) (hw _ (List.mem_of_getElem? (i := 34) rfl)) (by decide)) (Cond.privateMethod_at (mvP hZ (hw _ (List.mem_of_getElem? (i := 35) rfl)) (args := #[]))) (mvT hZ (hw _ (List.mem_of_getElem? (i := 36) rfl))) (by decide) (backOf (W := 1) (rm6 l Z a0 hw [] o0 (1 : Int32) (0 : Int32) ta (2 : Int32) gt h6 n0 (Nat.le_trans Z0 K6.1) f9 f10 f11) hZ (hw _ (List.mem_of_getElem? (i := 36) rfl)) (hw _ (List.mem_of_getElem? (i := 8) rfl)) (by decide) (by decide)) (g := (mkF m 16 #[.val (.ref o0)] [(.int (1 : Int32)), (.ref o0), (.ref o0)])) rfl (by rw [hml]; rfl) (Steps.refl _) (a := o0) (by rw [e6]; exact zq8) zq8' (argsL := [(.int (1 : Int32))]) (rest := [(.ref o0)]) (lenOf pd__28_I_29_I rfl) rfl (by show 2 * 0 + _ ≤ _; exact Nat.le_of_eq rfl) (hb hby d10_16) (fun _ _ => ⟨rfl, e6, (by decide : 0 + 0 ≤ _), (by decide : 0 + 0 ≤ _)⟩)
  dsimp only [Pt.U, Pt.locs, Pt.cells, Pt.slots] at X8 l8 y8 z8 st8 hQ8
  subst l8 y8 z8
  obtain ⟨rfl, N8q, e8⟩ := hQ8
  have N8 := Fr.app N6 N8q
  obtain ⟨M8, Y8, N8⟩ : ∃ M, Stand p l e ({ frames := 1, cells := 0, slots := 0, locals := 15 } : Room) s m #[(.ref o0)] below meth c T8 M 0 0 ∧ Fr n0 M := ⟨_, X8, N8⟩
  have pre8 : Lead p e below G (T8.setTop (mkF m 19 #[.val (.ref o0)] [(.int (if (1 : Int32) < (2 : Int32) then (1 : Int32) else (-1 : Int32))), (.ref o0)])) := fun t k => pre7 t (st8.trans k)
  have hr8 : (if (1 : Int32) < (2 : Int32) then (1 : Int32) else (-1 : Int32)) = (1 : Int32) := by decide
  have pre8b : Lead p e below G (T8.setTop (mkF m 19 #[.val (.ref o0)] [(.int (1 : Int32)), (.ref o0)])) := by have q := pre8; rw [hr8] at q; exact q
  obtain ⟨T13, h13, X13, e13, W13, st13⟩ := putF Y8 hx hZ hown (host := "") (Or.inl (hw _ (List.mem_of_getElem? (i := 37) rfl))) Via.refl e8 f9 f12 (Or.inl (hw _ (List.mem_of_getElem? (i := 38) rfl))) (hw _ (List.mem_of_getElem? (i := 7) rfl)) (ty := .int) (by decide) rfl rfl (g := (mkF m 19 #[.val (.ref o0)] [(.int (1 : Int32)), (.ref o0)])) rfl rfl (hb hby d10_19)
  have N13 := Fr.snoc X13 N8 P11_G
  have K13 : Keep h0 h13 [o0] := K6.wr W13 (Or.inl (List.mem_of_getElem? (i := 0) rfl))
  obtain ⟨M13, Y13, N13⟩ : ∃ M, Stand p l e ({ frames := 1, cells := 0, slots := 0, locals := 15 } : Room) s m #[(.ref o0)] below meth c T13 M 0 0 ∧ Fr n0 M := ⟨_, X13, N13⟩
  have Fw13 : Fld Z h13 o0 "com/example/lean_throttle/leanthrottle/TimeRing" "first" "I" (.int (1 : Int32)) := f9.same W13
  have pre13 : Lead p e below G (T13.setTop (mkF m 22 #[.val (.ref o0)] [])) := fun t k => pre8b t (st13 _ k)
  have pre14 : Lead p e below G (T13.setTop (mkF m 24 #[.val (.ref o0)] [(.ref o0), (.ref o0)])) := fun t k => by
    refine pre13 t ?_
    show Steps p.tables e below (T13.setTop (mkF m 22 #[.val (.ref o0)] [])) _
    refine XS.aloadN Y13.here hx rfl (hb hby d10_22) rfl rfl ?_
    show Steps p.tables e below (T13.setTop (mkF m 23 #[.val (.ref o0)] [(.ref o0)])) _
    refine XS.dup Y13.here hx rfl (hb hby d10_23) rfl rfl ?_
    show Steps p.tables e below (T13.setTop (mkF m 24 #[.val (.ref o0)] [(.ref o0), (.ref o0)])) _
    exact k
  have f16 : Fld Z h13 o0 "com/example/lean_throttle/leanthrottle/TimeRing" "size" "I" (.int (2 : Int32)) := ((P4_F.other W6 (Or.inr (slot_ne (Or.inl (hw _ (List.mem_of_getElem? (i := 30) rfl))) (Or.inl (hw _ (List.mem_of_getElem? (i := 32) rfl))) (by decide) (t := .int) (t' := .long) (by decide) (by decide)))).other W13 (Or.inr (slot_ne (Or.inl (hw _ (List.mem_of_getElem? (i := 30) rfl))) (Or.inl (hw _ (List.mem_of_getElem? (i := 38) rfl))) (by decide) (t := .int) (t' := .int) (by decide) (by decide))))
  obtain ⟨T15, X15, e15, st15⟩ := getF Y13 hx hZ hown (host := "") (Or.inl (hw _ (List.mem_of_getElem? (i := 29) rfl))) Via.refl e13 f16 (g := (mkF m 24 #[.val (.ref o0)] [(.ref o0), (.ref o0)])) rfl rfl (hb hby d10_24)
  have pre15 : Lead p e below G (T15.setTop (mkF m 27 #[.val (.ref o0)] [(.int (2 : Int32)), (.ref o0)])) := fun t k => pre14 t (st15 _ k)
  have pre17 : Lead p e below G (T15.setTop (mkF m 29 #[.val (.ref o0)] [(.int (1 : Int32)), (.ref o0)])) := fun t k => by
    refine pre15 t ?_
    show Steps p.tables e below (T15.setTop (mkF m 27 #[.val (.ref o0)] [(.int (2 : Int32)), (.ref o0)])) _
    refine XS.iconst X15.here hx rfl (hb hby d10_27) ?_
    show Steps p.tables e below (T15.setTop (mkF m 28 #[.val (.ref o0)] [(.int (1 : Int32)), (.int (2 : Int32)), (.ref o0)])) _
    refine XS.isub X15.here hx rfl (hb hby d10_28) rfl ?_
    show Steps p.tables e below (T15.setTop (mkF m 29 #[.val (.ref o0)] [(.int (1 : Int32)), (.ref o0)])) _
    exact k
  have f19 : Exa Z h13 o0 "com/example/lean_throttle/leanthrottle/TimeRing" := (f12.wr W13)
  obtain ⟨T18, h18, X18, e18, W18, st18⟩ := putF X15 hx hZ hown (host := "") (Or.inl (hw _ (List.mem_of_getElem? (i := 29) rfl))) Via.refl e15 f16 f19 (Or.inl (hw _ (List.mem_of_getElem? (i := 30) rfl))) (hw _ (List.mem_of_getElem? (i := 7) rfl)) (ty := .int) (by decide) rfl rfl (g := (mkF m 29 #[.val (.ref o0)] [(.int (1 : Int32)), (.ref o0)])) rfl rfl (hb hby d10_29)
  have N18 := Fr.snoc X18 N13 P11_G
  have K18 : Keep h0 h18 [o0] := K13.wr W18 (Or.inl (List.mem_of_getElem? (i := 0) rfl))
  obtain ⟨M18, Y18, N18⟩ : ∃ M, Stand p l e ({ frames := 1, cells := 0, slots := 0, locals := 15 } : Room) s m #[(.ref o0)] below meth c T18 M 0 0 ∧ Fr n0 M := ⟨_, X18, N18⟩
  have Fw18 : Fld Z h18 o0 "com/example/lean_throttle/leanthrottle/TimeRing" "size" "I" (.int (1 : Int32)) := f16.same W18
  have pre18 : Lead p e below G (T18.setTop (mkF m 32 #[.val (.ref o0)] [])) := fun t k => pre17 t (st18 _ k)
  obtain ⟨fs, hr, hrun, hended, hW, hsame⟩ := Y18.leave (v := none) (fun _ => rfl)
  subst hG
  refine ⟨_, _, pre18 _ ?_, hrun, hended, _, _, rfl, ?_, ⟨_, rfl⟩, hW, hsame.mono (by decide) (by decide)⟩
  · show Steps p.tables e below (T18.setTop (mkF m 32 #[.val (.ref o0)] [])) _
    exact Y18.returnOut hx Bd.returns (hb hby d10_32) hr
  · show Q10_0_2_2 Z o0 ta tA bf gt gT h0 n0 _ T18.heap _
    rw [e18]
    have f20 : Exa Z h18 o0 "com/example/lean_throttle/leanthrottle/TimeRing" := (f19.wr W18)
    have f21 : Fld Z h18 o0 "com/example/lean_throttle/leanthrottle/TimeRing" "times" "[J" (.ref ta) := ((f10.other W13 (Or.inr (slot_ne (Or.inl (hw _ (List.mem_of_getElem? (i := 17) rfl))) (Or.inl (hw _ (List.mem_of_getElem? (i := 38) rfl))) (by decide) (t := (.array .long)) (t' := .int) (by decide) (by decide)))).other W18 (Or.inr (slot_ne (Or.inl (hw _ (List.mem_of_getElem? (i := 17) rfl))) (Or.inl (hw _ (List.mem_of_getElem? (i := 30) rfl))) (by decide) (t := (.array .long)) (t' := .int) (by decide) (by decide))))
    have f22 : Fld Z h18 o0 "com/example/lean_throttle/leanthrottle/TimeRing" "totals" "[J" (.ref tA) := (((P2_F.other W6 (Or.inr (slot_ne (Or.inl (hw _ (List.mem_of_getElem? (i := 19) rfl))) (Or.inl (hw _ (List.mem_of_getElem? (i := 32) rfl))) (by decide) (t := (.array .long)) (t' := .long) (by decide) (by decide)))).other W13 (Or.inr (slot_ne (Or.inl (hw _ (List.mem_of_getElem? (i := 19) rfl))) (Or.inl (hw _ (List.mem_of_getElem? (i := 38) rfl))) (by decide) (t := (.array .long)) (t' := .int) (by decide) (by decide)))).other W18 (Or.inr (slot_ne (Or.inl (hw _ (List.mem_of_getElem? (i := 19) rfl))) (Or.inl (hw _ (List.mem_of_getElem? (i := 30) rfl))) (by decide) (t := (.array .long)) (t' := .int) (by decide) (by decide))))
    have f23 : Fld Z h18 o0 "com/example/lean_throttle/leanthrottle/TimeRing" "first" "I" (.int (1 : Int32)) := (Fw13.other W18 (Or.inr (slot_ne (Or.inl (hw _ (List.mem_of_getElem? (i := 38) rfl))) (Or.inl (hw _ (List.mem_of_getElem? (i := 30) rfl))) (by decide) (t := .int) (t' := .int) (by decide) (by decide))))
    have f24 : Fld Z h18 o0 "com/example/lean_throttle/leanthrottle/TimeRing" "totalBefore" "J" (.long (gT 0)) := ((Fw6.other W13 (Or.inr (slot_ne (Or.inl (hw _ (List.mem_of_getElem? (i := 32) rfl))) (Or.inl (hw _ (List.mem_of_getElem? (i := 38) rfl))) (by decide) (t := .long) (t' := .int) (by decide) (by decide)))).other W18 (Or.inr (slot_ne (Or.inl (hw _ (List.mem_of_getElem? (i := 32) rfl))) (Or.inl (hw _ (List.mem_of_getElem? (i := 30) rfl))) (by decide) (t := .long) (t' := .int) (by decide) (by decide))))
    exact ⟨rfl, N18, K18, f20, f21, f22, f23, Fw18, f24⟩
def F5_1_1_2 (gT : Nat → Int64) : Int64 := (gT 1)
theorem ef_5_1_1_2 (m : MethodId) (o0 : Addr) : entryFrame m #[(.ref o0)] 1 = mkF m 0 #[.val (.ref o0)] [] := by first | (simp [entryFrame, mkF, argsToLocals, Value.category]; done) | rfl
def Q5_1_1_2 (Z : State) (o0 : Addr) (ta : Addr) (tA : Addr) (bf : Int64) (gt : Nat → Int64) (gT : Nat → Int64) (h0 : Heap) (n0 : Nat) (v : Option Value) (h : Heap) (L : List Loc) : Prop := v = some (.long (gT 1)) ∧ Fr n0 L ∧ h = h0
set_option maxRecDepth 65536 in
set_option maxHeartbeats 40000000 in
theorem rm5_1_1_2 (l : Launch) (Z : State) (a0 : Array Value) (hw : ∀ d ∈ tables_1, d.before a0 Z = true) (ws : List Jvm.Cond) (o0 : Addr) (ta : Addr) (tA : Addr) (bf : Int64) (gt : Nat → Int64) (gT : Nat → Int64) (h0 : Heap) (n0 : Nat) (Z0 : n0 ≤ h0.size) (P0_E : Exa Z h0 o0 "com/example/lean_throttle/leanthrottle/TimeRing") (P1_F : Fld Z h0 o0 "com/example/lean_throttle/leanthrottle/TimeRing" "times" "[J" (.ref ta)) (P2_F : Fld Z h0 o0 "com/example/lean_throttle/leanthrottle/TimeRing" "totals" "[J" (.ref tA)) (P3_F : Fld Z h0 o0 "com/example/lean_throttle/leanthrottle/TimeRing" "first" "I" (.int (1 : Int32))) (P4_F : Fld Z h0 o0 "com/example/lean_throttle/leanthrottle/TimeRing" "size" "I" (.int (1 : Int32))) (P5_F : Fld Z h0 o0 "com/example/lean_throttle/leanthrottle/TimeRing" "totalBefore" "J" (.long bf)) (P6_V : JV Value.long Z h0 ta .long (2 : Int32) gt) (P7_V : JV Value.long Z h0 tA .long (2 : Int32) gT) (P8_NE : o0 ≠ ta) (P9_NE : o0 ≠ tA) (P10_NE : ta ≠ tA) :
    MetFree l (⟨"com/example/lean_throttle/leanthrottle/TimeRing", "newestTotal", "()J"⟩ : MethodName) (head1 (Jvm.Cond.code (⟨"com/example/lean_throttle/leanthrottle/TimeRing", "newestTotal", "()J"⟩ : MethodName) prog_21_method_11_code 1 (some .long) :: ws) ({ frames := 1, cells := 0, slots := 0, locals := 15 } : Room)) (fun a U => a = #[(.ref o0)] ∧ Z.Warmed39 U.vm ∧ U.heap = h0) (fun _ _ _ _ _ => True) (fun _ U o U' => ∃ v L, o = .returned v ∧ Q5_1_1_2 Z o0 ta tA bf gt gT h0 n0 v U'.heap L ∧ FrameEnd U o U' L ({ frames := 1, cells := 0, slots := 0, locals := 15 } : Room).cells ({ frames := 1, cells := 0, slots := 0, locals := 15 } : Room).slots) := by
  refine MetFree.of_bodySF (plainFor_of_name pn_com_example_lean_throttle_leanthrottle_TimeRing) hisR ?_
  intro p e s m args below meth c s₁ Bd hml0 hP hK
  obtain ⟨rfl, hZ, hh⟩ := hP
  have hx := Bd.exec
  have hby := Bd.bytes
  have hml : c.maxLocals = 1 := hml0
  have hown : s.vm.findClass "com/example/lean_throttle/leanthrottle/TimeRing" = some m.cls := findClass_of_methodNamed Bd.named
  have hnm := (name_of_methodNamed Bd.named Bd.method).1
  have X0 : Stand p l e ({ frames := 1, cells := 0, slots := 0, locals := 15 } : Room) s m #[(.ref o0)] below meth c s₁ [] 0 0 := Stand.of_body Bd
  have e0 : s₁.heap = h0 := by rw [← hh, Bd.state]; rfl
  have N0 := Fr.nil n0
  have K0 : Keep h0 h0 [] := Keep.refl _ _
  obtain ⟨G, hG⟩ : ∃ z, z = s₁.setTop (entryFrame m #[(.ref o0)] 1) := ⟨_, rfl⟩
  have pre0 : Lead p e below G (s₁.setTop (mkF m 0 #[.val (.ref o0)] [])) := fun t k => by rw [hG]; exact castTop (ef_5_1_1_2 m o0) k
  have pre1 : Lead p e below G (s₁.setTop (mkF m 1 #[.val (.ref o0)] [(.ref o0)])) := fun t k => by
    refine pre0 t ?_
    show Steps p.tables e below (s₁.setTop (mkF m 0 #[.val (.ref o0)] [])) _
    refine XS.aloadN X0.here hx rfl (hb hby d5_0) rfl rfl ?_
    show Steps p.tables e below (s₁.setTop (mkF m 1 #[.val (.ref o0)] [(.ref o0)])) _
    exact k
  obtain ⟨T2, X2, e2, st2⟩ := getF X0 hx hZ hown (host := "") (Or.inl (hw _ (List.mem_of_getElem? (i := 29) rfl))) Via.refl e0 P4_F (g := (mkF m 1 #[.val (.ref o0)] [(.ref o0)])) rfl rfl (hb hby d5_1)
  have pre2 : Lead p e below G (T2.setTop (mkF m 4 #[.val (.ref o0)] [(.int (1 : Int32))])) := fun t k => pre1 t (st2 _ k)
  have hf3 : (0 : Int32) < (1 : Int32) := (by decide)
  have pre4 : Lead p e below G (T2.setTop (mkF m 8 #[.val (.ref o0)] [(.ref o0)])) := fun t k => by
    refine pre2 t ?_
    show Steps p.tables e below (T2.setTop (mkF m 4 #[.val (.ref o0)] [(.int (1 : Int32))])) _
    refine XS.ifNo X2.here hx rfl (hb hby d5_4) rfl ((if0 _ _).trans (tlt hf3).2.2.2) ?_
    show Steps p.tables e below (T2.setTop (mkF m 7 #[.val (.ref o0)] [])) _
    refine XS.aloadN X2.here hx rfl (hb hby d5_7) rfl rfl ?_
    show Steps p.tables e below (T2.setTop (mkF m 8 #[.val (.ref o0)] [(.ref o0)])) _
    exact k
  obtain ⟨T5, X5, e5, st5⟩ := getF X2 hx hZ hown (host := "") (Or.inl (hw _ (List.mem_of_getElem? (i := 18) rfl))) Via.refl e2 P2_F (g := (mkF m 8 #[.val (.ref o0)] [(.ref o0)])) rfl rfl (hb hby d5_8)
  have pre5 : Lead p e below G (T5.setTop (mkF m 11 #[.val (.ref o0)] [(.ref tA)])) := fun t k => pre4 t (st5 _ k)
  have pre6 : Lead p e below G (T5.setTop (mkF m 13 #[.val (.ref o0)] [(.ref o0), (.ref o0), (.ref tA)])) := fun t k => by
    refine pre5 t ?_
    show Steps p.tables e below (T5.setTop (mkF m 11 #[.val (.ref o0)] [(.ref tA)])) _
    refine XS.aloadN X5.here hx rfl (hb hby d5_11) rfl rfl ?_
    show Steps p.tables e below (T5.setTop (mkF m 12 #[.val (.ref o0)] [(.ref o0), (.ref tA)])) _
    refine XS.aloadN X5.here hx rfl (hb hby d5_12) rfl rfl ?_
    show Steps p.tables e below (T5.setTop (mkF m 13 #[.val (.ref o0)] [(.ref o0), (.ref o0), (.ref tA)])) _
    exact k
  obtain ⟨T7, X7, e7, st7⟩ := getF X5 hx hZ hown (host := "") (Or.inl (hw _ (List.mem_of_getElem? (i := 29) rfl))) Via.refl e5 P4_F (g := (mkF m 13 #[.val (.ref o0)] [(.ref o0), (.ref o0), (.ref tA)])) rfl rfl (hb hby d5_13)
  have pre7 : Lead p e below G (T7.setTop (mkF m 16 #[.val (.ref o0)] [(.int (1 : Int32)), (.ref o0), (.ref tA)])) := fun t k => pre6 t (st7 _ k)
  have pre8 : Lead p e below G (T7.setTop (mkF m 18 #[.val (.ref o0)] [(.int (0 : Int32)), (.ref o0), (.ref tA)])) := fun t k => by
    refine pre7 t ?_
    show Steps p.tables e below (T7.setTop (mkF m 16 #[.val (.ref o0)] [(.int (1 : Int32)), (.ref o0), (.ref tA)])) _
    refine XS.iconst X7.here hx rfl (hb hby d5_16) ?_
    show Steps p.tables e below (T7.setTop (mkF m 17 #[.val (.ref o0)] [(.int (1 : Int32)), (.int (1 : Int32)), (.ref o0), (.ref tA)])) _
    refine XS.isub X7.here hx rfl (hb hby d5_17) rfl ?_
    show Steps p.tables e below (T7.setTop (mkF m 18 #[.val (.ref o0)] [(.int (0 : Int32)), (.ref o0), (.ref tA)])) _
    exact k
  obtain ⟨cq9, zq9, zq9'⟩ := P0_E.cell
  obtain ⟨_, _, ⟨T9, L9, k9, n9⟩, -, X9, ⟨Lc9, hQ9, l9, y9, z9⟩, st9⟩ := X7.privateBack hx (y := (⟨"com/example/lean_throttle/leanthrottle/TimeRing", "at", "(I)I"⟩ : MethodName)) hown (mvT hZ (hw _ (List.mem_of_getElem? (i := 33) rfl))) (mvT hZ (hw _ (List.mem_of_getElem? (i := 34) rfl))) (own_selp hZ (hw _ (List.mem_of_getElem? (i := 7) rfl)) (hw _ (List.mem_of_getElem? (i := 35) rfl)) (hw _ (List.mem_of_getElem? (i := 34) rfl)) (by decide)) (Cond.privateMethod_at (mvP hZ (hw _ (List.mem_of_getElem? (i := 35) rfl)) (args := #[]))) (mvT hZ (hw _ (List.mem_of_getElem? (i := 36) rfl))) (by decide) (backOf (W := 1) (rm6 l Z a0 hw [] o0 (0 : Int32) (1 : Int32) ta (2 : Int32) gt h0 n0 (Nat.le_trans Z0 K0.1) P3_F P1_F P6_V) hZ (hw _ (List.mem_of_getElem? (i := 36) rfl)) (hw _ (List.mem_of_getElem? (i := 8) rfl)) (by decide) (by decide)) (g := (mkF m 18 #[.val (.ref o0)] [(.int (0 : Int32)), (.ref o0), (.ref tA)])) rfl (by rw [hml]; rfl) (Steps.refl _) (a := o0) (by rw [e7]; exact zq9) zq9' (argsL := [(.int (0 : Int32))]) (rest := [(.ref tA)]) (lenOf pd__28_I_29_I rfl) rfl (by show 2 * 0 + _ ≤ _; exact Nat.le_of_eq rfl) (hb hby d5_18) (fun _ _ => ⟨rfl, e7, (by decide : 0 + 0 ≤ _), (by decide : 0 + 0 ≤ _)⟩)
  dsimp only [Pt.U, Pt.locs, Pt.cells, Pt.slots] at X9 l9 y9 z9 st9 hQ9
  subst l9 y9 z9
  obtain ⟨rfl, N9q, e9⟩ := hQ9
  have N9 := Fr.app N0 N9q
  obtain ⟨M9, Y9, N9⟩ : ∃ M, Stand p l e ({ frames := 1, cells := 0, slots := 0, locals := 15 } : Room) s m #[(.ref o0)] below meth c T9 M 0 0 ∧ Fr n0 M := ⟨_, X9, N9⟩
  have pre9 : Lead p e below G (T9.setTop (mkF m 21 #[.val (.ref o0)] [(.int (if (1 : Int32) < (2 : Int32) then (1 : Int32) else (-1 : Int32))), (.ref tA)])) := fun t k => pre8 t (st9.trans k)
  have hr9 : (if (1 : Int32) < (2 : Int32) then (1 : Int32) else (-1 : Int32)) = (1 : Int32) := by decide
  have pre9b : Lead p e below G (T9.setTop (mkF m 21 #[.val (.ref o0)] [(.int (1 : Int32)), (.ref tA)])) := by have q := pre9; rw [hr9] at q; exact q
  obtain ⟨cl10, Ar10, hin10, hat10⟩ := P7_V.in (j := (1 : Int32)) ⟨by decide, by decide⟩
  have st10 := Y9.laload hx (j := (1 : Int32)) (v := (.long (gT 1))) (by rw [e9]; exact Ar10.1) (State.isArrayOf_alike hZ.alike Ar10.2.1) Ar10.2.2 hin10 hat10 (g := (mkF m 21 #[.val (.ref o0)] [(.int (1 : Int32)), (.ref tA)])) rfl rfl (hb hby d5_21)
  have pre10 : Lead p e below G (T9.setTop (mkF m 22 #[.val (.ref o0)] [(.long (gT 1))])) := fun t k => pre9b t (st10 _ k)
  obtain ⟨fs, hr, hrun, hended, hW, hsame⟩ := Y9.leave (v := some (.long (gT 1))) (fun h => by rw [Bd.returns] at h; cases h)
  subst hG
  refine ⟨_, _, pre10 _ ?_, hrun, hended, _, _, rfl, ?_, ⟨_, rfl⟩, hW, hsame.mono (by decide) (by decide)⟩
  · show Steps p.tables e below (T9.setTop (mkF m 22 #[.val (.ref o0)] [(.long (gT 1))])) _
    refine XS.goto Y9.here hx rfl (pc0 := 22) (pc' := 29) rfl (hb hby d5_22) (by decide) (by decide) ?_
    show Steps p.tables e below (T9.setTop (mkF m 29 #[.val (.ref o0)] [(.long (gT 1))])) _
    exact retJ Y9 hx Bd.returns (hb hby d5_29) hr
  · show Q5_1_1_2 Z o0 ta tA bf gt gT h0 n0 _ T9.heap _
    rw [e9]
    have hv_ : (gT 1) = F5_1_1_2 gT := by
      skip
      rfl
    exact ⟨congrArg (fun z => some (Value.long z)) hv_, N9, rfl⟩
theorem ef_4_1_1_2_2 (m : MethodId) (o0 : Addr) (q1 : Int64) (q2 : Int64) : entryFrame m #[(.ref o0), (.long q1), (.long q2), (.int (2 : Int32))] 11 = mkF m 0 #[.val (.ref o0), .val (.long q1), .second, .val (.long q2), .second, .val (.int (2 : Int32)), .unset, .unset, .unset, .unset, .unset] [] := by first | (simp [entryFrame, mkF, argsToLocals, Value.category]; done) | rfl
def Q4_1_1_2_2 (Z : State) (o0 : Addr) (q1 : Int64) (q2 : Int64) (ta : Addr) (tA : Addr) (bf : Int64) (gt : Nat → Int64) (gT : Nat → Int64) (h0 : Heap) (n0 : Nat) (v : Option Value) (h : Heap) (L : List Loc) : Prop := v = none ∧ Fr n0 L ∧ Keep h0 h [o0, ta, tA] ∧ Exa Z h o0 "com/example/lean_throttle/leanthrottle/TimeRing" ∧ Fld Z h o0 "com/example/lean_throttle/leanthrottle/TimeRing" "times" "[J" (.ref ta) ∧ Fld Z h o0 "com/example/lean_throttle/leanthrottle/TimeRing" "totals" "[J" (.ref tA) ∧ Fld Z h o0 "com/example/lean_throttle/leanthrottle/TimeRing" "first" "I" (.int (1 : Int32)) ∧ Fld Z h o0 "com/example/lean_throttle/leanthrottle/TimeRing" "size" "I" (.int (2 : Int32)) ∧ Fld Z h o0 "com/example/lean_throttle/leanthrottle/TimeRing" "totalBefore" "J" (.long bf) ∧ JV Value.long Z h ta .long (2 : Int32) (updF gt 0 q1) ∧ JV Value.long Z h tA .long (2 : Int32) (updF gT 0 ((gT 1) + q2))
set_option maxRecDepth 65536 in
set_option maxHeartbeats 40000000 in
theorem rm4_1_1_2_2 (l : Launch) (Z : State) (a0 : Array Value) (hw : ∀ d ∈ tables_1, d.before a0 Z = true) (ws : List Jvm.Cond) (o0 : Addr) (q1 : Int64) (q2 : Int64) (ta : Addr) (tA : Addr) (bf : Int64) (gt : Nat → Int64) (gT : Nat → Int64) (h0 : Heap) (n0 : Nat) (Z0 : n0 ≤ h0.size) (P0_E : Exa Z h0 o0 "com/example/lean_throttle/leanthrottle/TimeRing") (P1_F : Fld Z h0 o0 "com/example/lean_throttle/leanthrottle/TimeRing" "times" "[J" (.ref ta)) (P2_F : Fld Z h0 o0 "com/example/lean_throttle/leanthrottle/TimeRing" "totals" "[J" (.ref tA)) (P3_F : Fld Z h0 o0 "com/example/lean_throttle/leanthrottle/TimeRing" "first" "I" (.int (1 : Int32))) (P4_F : Fld Z h0 o0 "com/example/lean_throttle/leanthrottle/TimeRing" "size" "I" (.int (1 : Int32))) (P5_F : Fld Z h0 o0 "com/example/lean_throttle/leanthrottle/TimeRing" "totalBefore" "J" (.long bf)) (P6_V : JV Value.long Z h0 ta .long (2 : Int32) gt) (P7_V : JV Value.long Z h0 tA .long (2 : Int32) gT) (P8_NE : o0 ≠ ta) (P9_NE : o0 ≠ tA) (P10_NE : ta ≠ tA) (P11_G : n0 ≤ o0) (P12_G : n0 ≤ ta) (P13_G : n0 ≤ tA) :
    MetFree l (⟨"com/example/lean_throttle/leanthrottle/TimeRing", "add", "(JJI)V"⟩ : MethodName) (head1 (Jvm.Cond.code (⟨"com/example/lean_throttle/leanthrottle/TimeRing", "add", "(JJI)V"⟩ : MethodName) prog_21_method_10_code 11 none :: ws) ({ frames := 2, cells := 0, slots := 0, locals := 27 } : Room)) (fun a U => a = #[(.ref o0), (.long q1), (.long q2), (.int (2 : Int32))] ∧ Z.Warmed39 U.vm ∧ U.heap = h0) (fun _ _ _ _ _ => True) (fun _ U o U' => ∃ v L, o = .returned v ∧ Q4_1_1_2_2 Z o0 q1 q2 ta tA bf gt gT h0 n0 v U'.heap L ∧ FrameEnd U o U' L ({ frames := 2, cells := 0, slots := 0, locals := 27 } : Room).cells ({ frames := 2, cells := 0, slots := 0, locals := 27 } : Room).slots) := by
  refine MetFree.of_bodySF (plainFor_of_name pn_com_example_lean_throttle_leanthrottle_TimeRing) hisR ?_
  intro p e s m args below meth c s₁ Bd hml0 hP hK
  obtain ⟨rfl, hZ, hh⟩ := hP
  have hx := Bd.exec
  have hby := Bd.bytes
  have hml : c.maxLocals = 11 := hml0
  have hown : s.vm.findClass "com/example/lean_throttle/leanthrottle/TimeRing" = some m.cls := findClass_of_methodNamed Bd.named
  have hnm := (name_of_methodNamed Bd.named Bd.method).1
  have X0 : Stand p l e ({ frames := 2, cells := 0, slots := 0, locals := 27 } : Room) s m #[(.ref o0), (.long q1), (.long q2), (.int (2 : Int32))] below meth c s₁ [] 0 0 := Stand.of_body Bd
  have e0 : s₁.heap = h0 := by rw [← hh, Bd.state]; rfl
  have N0 := Fr.nil n0
  have K0 : Keep h0 h0 [o0, ta, tA] := Keep.refl _ _
  obtain ⟨G, hG⟩ : ∃ z, z = s₁.setTop (entryFrame m #[(.ref o0), (.long q1), (.long q2), (.int (2 : Int32))] 11) := ⟨_, rfl⟩
  have pre0 : Lead p e below G (s₁.setTop (mkF m 0 #[.val (.ref o0), .val (.long q1), .second, .val (.long q2), .second, .val (.int (2 : Int32)), .unset, .unset, .unset, .unset, .unset] [])) := fun t k => by rw [hG]; exact castTop (ef_4_1_1_2_2 m o0 q1 q2) k
  have pre1 : Lead p e below G (s₁.setTop (mkF m 1 #[.val (.ref o0), .val (.long q1), .second, .val (.long q2), .second, .val (.int (2 : Int32)), .unset, .unset, .unset, .unset, .unset] [(.ref o0)])) := fun t k => by
    refine pre0 t ?_
    show Steps p.tables e below (s₁.setTop (mkF m 0 #[.val (.ref o0), .val (.long q1), .second, .val (.long q2), .second, .val (.int (2 : Int32)), .unset, .unset, .unset, .unset, .unset] [])) _
    refine XS.aloadN X0.here hx rfl (hb hby d4_0) rfl rfl ?_
    show Steps p.tables e below (s₁.setTop (mkF m 1 #[.val (.ref o0), .val (.long q1), .second, .val (.long q2), .second, .val (.int (2 : Int32)), .unset, .unset, .unset, .unset, .unset] [(.ref o0)])) _
    exact k
  obtain ⟨cq2, zq2, zq2'⟩ := P0_E.cell
  obtain ⟨_, _, ⟨T2, L2, k2, n2⟩, -, X2, ⟨Lc2, hQ2, l2, y2, z2⟩, st2⟩ := X0.privateBack hx (y := (⟨"com/example/lean_throttle/leanthrottle/TimeRing", "newestTotal", "()J"⟩ : MethodName)) hown (mvT hZ (hw _ (List.mem_of_getElem? (i := 25) rfl))) (mvT hZ (hw _ (List.mem_of_getElem? (i := 26) rfl))) (own_selp hZ (hw _ (List.mem_of_getElem? (i := 7) rfl)) (hw _ (List.mem_of_getElem? (i := 27) rfl)) (hw _ (List.mem_of_getElem? (i := 26) rfl)) (by decide)) (Cond.privateMethod_at (mvP hZ (hw _ (List.mem_of_getElem? (i := 27) rfl)) (args := #[]))) (mvT hZ (hw _ (List.mem_of_getElem? (i := 28) rfl))) (by decide) (backOf (W := 0) (rm5_1_1_2 l Z a0 hw [] o0 ta tA bf gt gT h0 n0 (Nat.le_trans Z0 K0.1) P0_E P1_F P2_F P3_F P4_F P5_F P6_V P7_V P8_NE P9_NE P10_NE) hZ (hw _ (List.mem_of_getElem? (i := 28) rfl)) (hw _ (List.mem_of_getElem? (i := 8) rfl)) (by decide) (by decide)) (g := (mkF m 1 #[.val (.ref o0), .val (.long q1), .second, .val (.long q2), .second, .val (.int (2 : Int32)), .unset, .unset, .unset, .unset, .unset] [(.ref o0)])) rfl (by rw [hml]; rfl) (Steps.refl _) (a := o0) (by rw [e0]; exact zq2) zq2' (argsL := []) (rest := []) (lenOf pd__28__29_J rfl) rfl (by show 2 * 0 + _ ≤ _; exact Nat.le_of_eq rfl) (hb hby d4_1) (fun _ _ => ⟨rfl, e0, (by decide : 0 + 0 ≤ _), (by decide : 0 + 0 ≤ _)⟩)
  dsimp only [Pt.U, Pt.locs, Pt.cells, Pt.slots] at X2 l2 y2 z2 st2 hQ2
  subst l2 y2 z2
  obtain ⟨rfl, N2q, e2⟩ := hQ2
  have N2 := Fr.app N0 N2q
  obtain ⟨M2, Y2, N2⟩ : ∃ M, Stand p l e ({ frames := 2, cells := 0, slots := 0, locals := 27 } : Room) s m #[(.ref o0), (.long q1), (.long q2), (.int (2 : Int32))] below meth c T2 M 0 0 ∧ Fr n0 M := ⟨_, X2, N2⟩
  have pre2 : Lead p e below G (T2.setTop (mkF m 4 #[.val (.ref o0), .val (.long q1), .second, .val (.long q2), .second, .val (.int (2 : Int32)), .unset, .unset, .unset, .unset, .unset] [(.long (gT 1))])) := fun t k => pre1 t (st2.trans k)
  have pre3 : Lead p e below G (T2.setTop (mkF m 7 #[.val (.ref o0), .val (.long q1), .second, .val (.long q2), .second, .val (.int (2 : Int32)), .val (.long (gT 1)), .second, .unset, .unset, .unset] [(.ref o0)])) := fun t k => by
    refine pre2 t ?_
    show Steps p.tables e below (T2.setTop (mkF m 4 #[.val (.ref o0), .val (.long q1), .second, .val (.long q2), .second, .val (.int (2 : Int32)), .unset, .unset, .unset, .unset, .unset] [(.long (gT 1))])) _
    refine XS.lstore Y2.here hx rfl (hb hby d4_4) rfl (l' := #[.val (.ref o0), .val (.long q1), .second, .val (.long q2), .second, .val (.int (2 : Int32)), .val (.long (gT 1)), .second, .unset, .unset, .unset]) rfl ?_
    show Steps p.tables e below (T2.setTop (mkF m 6 #[.val (.ref o0), .val (.long q1), .second, .val (.long q2), .second, .val (.int (2 : Int32)), .val (.long (gT 1)), .second, .unset, .unset, .unset] [])) _
    refine XS.aloadN Y2.here hx rfl (hb hby d4_6) rfl rfl ?_
    show Steps p.tables e below (T2.setTop (mkF m 7 #[.val (.ref o0), .val (.long q1), .second, .val (.long q2), .second, .val (.int (2 : Int32)), .val (.long (gT 1)), .second, .unset, .unset, .unset] [(.ref o0)])) _
    exact k
  obtain ⟨T4, X4, e4, st4⟩ := getF Y2 hx hZ hown (host := "") (Or.inl (hw _ (List.mem_of_getElem? (i := 29) rfl))) Via.refl e2 P4_F (g := (mkF m 7 #[.val (.ref o0), .val (.long q1), .second, .val (.long q2), .second, .val (.int (2 : Int32)), .val (.long (gT 1)), .second, .unset, .unset, .unset] [(.ref o0)])) rfl rfl (hb hby d4_7)
  have pre4 : Lead p e below G (T4.setTop (mkF m 10 #[.val (.ref o0), .val (.long q1), .second, .val (.long q2), .second, .val (.int (2 : Int32)), .val (.long (gT 1)), .second, .unset, .unset, .unset] [(.int (1 : Int32))])) := fun t k => pre3 t (st4 _ k)
  have pre5 : Lead p e below G (T4.setTop (mkF m 11 #[.val (.ref o0), .val (.long q1), .second, .val (.long q2), .second, .val (.int (2 : Int32)), .val (.long (gT 1)), .second, .unset, .unset, .unset] [(.ref o0), (.int (1 : Int32))])) := fun t k => by
    refine pre4 t ?_
    show Steps p.tables e below (T4.setTop (mkF m 10 #[.val (.ref o0), .val (.long q1), .second, .val (.long q2), .second, .val (.int (2 : Int32)), .val (.long (gT 1)), .second, .unset, .unset, .unset] [(.int (1 : Int32))])) _
    refine XS.aloadN X4.here hx rfl (hb hby d4_10) rfl rfl ?_
    show Steps p.tables e below (T4.setTop (mkF m 11 #[.val (.ref o0), .val (.long q1), .second, .val (.long q2), .second, .val (.int (2 : Int32)), .val (.long (gT 1)), .second, .unset, .unset, .unset] [(.ref o0), (.int (1 : Int32))])) _
    exact k
  obtain ⟨T6, X6, e6, st6⟩ := getF X4 hx hZ hown (host := "") (Or.inl (hw _ (List.mem_of_getElem? (i := 16) rfl))) Via.refl e4 P1_F (g := (mkF m 11 #[.val (.ref o0), .val (.long q1), .second, .val (.long q2), .second, .val (.int (2 : Int32)), .val (.long (gT 1)), .second, .unset, .unset, .unset] [(.ref o0), (.int (1 : Int32))])) rfl rfl (hb hby d4_11)
  have pre6 : Lead p e below G (T6.setTop (mkF m 14 #[.val (.ref o0), .val (.long q1), .second, .val (.long q2), .second, .val (.int (2 : Int32)), .val (.long (gT 1)), .second, .unset, .unset, .unset] [(.ref ta), (.int (1 : Int32))])) := fun t k => pre5 t (st6 _ k)
  obtain ⟨cl7, Ar7, len7⟩ := P6_V.len
  have st7 := X6.arraylength hx (by rw [e6]; exact Ar7.1) (State.isArrayOf_alike hZ.alike Ar7.2.1) (g := (mkF m 14 #[.val (.ref o0), .val (.long q1), .second, .val (.long q2), .second, .val (.int (2 : Int32)), .val (.long (gT 1)), .second, .unset, .unset, .unset] [(.ref ta), (.int (1 : Int32))])) rfl rfl (hb hby d4_14)
  rw [len7] at st7
  have pre7 : Lead p e below G (T6.setTop (mkF m 15 #[.val (.ref o0), .val (.long q1), .second, .val (.long q2), .second, .val (.int (2 : Int32)), .val (.long (gT 1)), .second, .unset, .unset, .unset] [(.int (2 : Int32)), (.int (1 : Int32))])) := fun t k => pre6 t (st7 _ k)
  have hf8 : ¬ ((1 : Int32) = (2 : Int32)) := (by decide)
  have pre9 : Lead p e below G (T6.setTop (mkF m 79 #[.val (.ref o0), .val (.long q1), .second, .val (.long q2), .second, .val (.int (2 : Int32)), .val (.long (gT 1)), .second, .unset, .unset, .unset] [(.ref o0)])) := fun t k => by
    refine pre7 t ?_
    show Steps p.tables e below (T6.setTop (mkF m 15 #[.val (.ref o0), .val (.long q1), .second, .val (.long q2), .second, .val (.int (2 : Int32)), .val (.long (gT 1)), .second, .unset, .unset, .unset] [(.int (2 : Int32)), (.int (1 : Int32))])) _
    refine XS.icmpYes X6.here hx rfl (pc0 := 15) (pc' := 78) rfl (hb hby d4_15) rfl (feq hf8).2 (by decide) (by decide) ?_
    show Steps p.tables e below (T6.setTop (mkF m 78 #[.val (.ref o0), .val (.long q1), .second, .val (.long q2), .second, .val (.int (2 : Int32)), .val (.long (gT 1)), .second, .unset, .unset, .unset] [])) _
    refine XS.aloadN X6.here hx rfl (hb hby d4_78) rfl rfl ?_
    show Steps p.tables e below (T6.setTop (mkF m 79 #[.val (.ref o0), .val (.long q1), .second, .val (.long q2), .second, .val (.int (2 : Int32)), .val (.long (gT 1)), .second, .unset, .unset, .unset] [(.ref o0)])) _
    exact k
  obtain ⟨T10, X10, e10, st10⟩ := getF X6 hx hZ hown (host := "") (Or.inl (hw _ (List.mem_of_getElem? (i := 16) rfl))) Via.refl e6 P1_F (g := (mkF m 79 #[.val (.ref o0), .val (.long q1), .second, .val (.long q2), .second, .val (.int (2 : Int32)), .val (.long (gT 1)), .second, .unset, .unset, .unset] [(.ref o0)])) rfl rfl (hb hby d4_79)
  have pre10 : Lead p e below G (T10.setTop (mkF m 82 #[.val (.ref o0), .val (.long q1), .second, .val (.long q2), .second, .val (.int (2 : Int32)), .val (.long (gT 1)), .second, .unset, .unset, .unset] [(.ref ta)])) := fun t k => pre9 t (st10 _ k)
  have pre11 : Lead p e below G (T10.setTop (mkF m 84 #[.val (.ref o0), .val (.long q1), .second, .val (.long q2), .second, .val (.int (2 : Int32)), .val (.long (gT 1)), .second, .unset, .unset, .unset] [(.ref o0), (.ref o0), (.ref ta)])) := fun t k => by
    refine pre10 t ?_
    show Steps p.tables e below (T10.setTop (mkF m 82 #[.val (.ref o0), .val (.long q1), .second, .val (.long q2), .second, .val (.int (2 : Int32)), .val (.long (gT 1)), .second, .unset, .unset, .unset] [(.ref ta)])) _
    refine XS.aloadN X10.here hx rfl (hb hby d4_82) rfl rfl ?_
    show Steps p.tables e below (T10.setTop (mkF m 83 #[.val (.ref o0), .val (.long q1), .second, .val (.long q2), .second, .val (.int (2 : Int32)), .val (.long (gT 1)), .second, .unset, .unset, .unset] [(.ref o0), (.ref ta)])) _
    refine XS.aloadN X10.here hx rfl (hb hby d4_83) rfl rfl ?_
    show Steps p.tables e below (T10.setTop (mkF m 84 #[.val (.ref o0), .val (.long q1), .second, .val (.long q2), .second, .val (.int (2 : Int32)), .val (.long (gT 1)), .second, .unset, .unset, .unset] [(.ref o0), (.ref o0), (.ref ta)])) _
    exact k
  obtain ⟨T12, X12, e12, st12⟩ := getF X10 hx hZ hown (host := "") (Or.inl (hw _ (List.mem_of_getElem? (i := 29) rfl))) Via.refl e10 P4_F (g := (mkF m 84 #[.val (.ref o0), .val (.long q1), .second, .val (.long q2), .second, .val (.int (2 : Int32)), .val (.long (gT 1)), .second, .unset, .unset, .unset] [(.ref o0), (.ref o0), (.ref ta)])) rfl rfl (hb hby d4_84)
  have pre12 : Lead p e below G (T12.setTop (mkF m 87 #[.val (.ref o0), .val (.long q1), .second, .val (.long q2), .second, .val (.int (2 : Int32)), .val (.long (gT 1)), .second, .unset, .unset, .unset] [(.int (1 : Int32)), (.ref o0), (.ref ta)])) := fun t k => pre11 t (st12 _ k)
  obtain ⟨cq13, zq13, zq13'⟩ := P0_E.cell
  obtain ⟨_, _, ⟨T13, L13, k13, n13⟩, -, X13, ⟨Lc13, hQ13, l13, y13, z13⟩, st13⟩ := X12.privateBack hx (y := (⟨"com/example/lean_throttle/leanthrottle/TimeRing", "at", "(I)I"⟩ : MethodName)) hown (mvT hZ (hw _ (List.mem_of_getElem? (i := 33) rfl))) (mvT hZ (hw _ (List.mem_of_getElem? (i := 34) rfl))) (own_selp hZ (hw _ (List.mem_of_getElem? (i := 7) rfl)) (hw _ (List.mem_of_getElem? (i := 35) rfl)) (hw _ (List.mem_of_getElem? (i := 34) rfl)) (by decide)) (Cond.privateMethod_at (mvP hZ (hw _ (List.mem_of_getElem? (i := 35) rfl)) (args := #[]))) (mvT hZ (hw _ (List.mem_of_getElem? (i := 36) rfl))) (by decide) (backOf (W := 1) (rm6 l Z a0 hw [] o0 (1 : Int32) (1 : Int32) ta (2 : Int32) gt h0 n0 (Nat.le_trans Z0 K0.1) P3_F P1_F P6_V) hZ (hw _ (List.mem_of_getElem? (i := 36) rfl)) (hw _ (List.mem_of_getElem? (i := 8) rfl)) (by decide) (by decide)) (g := (mkF m 87 #[.val (.ref o0), .val (.long q1), .second, .val (.long q2), .second, .val (.int (2 : Int32)), .val (.long (gT 1)), .second, .unset, .unset, .unset] [(.int (1 : Int32)), (.ref o0), (.ref ta)])) rfl (by rw [hml]; rfl) (Steps.refl _) (a := o0) (by rw [e12]; exact zq13) zq13' (argsL := [(.int (1 : Int32))]) (rest := [(.ref ta)]) (lenOf pd__28_I_29_I rfl) rfl (by show 2 * 0 + _ ≤ _; exact Nat.le_of_eq rfl) (hb hby d4_87) (fun _ _ => ⟨rfl, e12, (by decide : 0 + 0 ≤ _), (by decide : 0 + 0 ≤ _)⟩)
  dsimp only [Pt.U, Pt.locs, Pt.cells, Pt.slots] at X13 l13 y13 z13 st13 hQ13
  subst l13 y13 z13
  obtain ⟨rfl, N13q, e13⟩ := hQ13
  have N13 := Fr.app N2 N13q
  obtain ⟨M13, Y13, N13⟩ : ∃ M, Stand p l e ({ frames := 2, cells := 0, slots := 0, locals := 27 } : Room) s m #[(.ref o0), (.long q1), (.long q2), (.int (2 : Int32))] below meth c T13 M 0 0 ∧ Fr n0 M := ⟨_, X13, N13⟩
  have pre13 : Lead p e below G (T13.setTop (mkF m 90 #[.val (.ref o0), .val (.long q1), .second, .val (.long q2), .second, .val (.int (2 : Int32)), .val (.long (gT 1)), .second, .unset, .unset, .unset] [(.int (if (2 : Int32) < (2 : Int32) then (2 : Int32) else (0 : Int32))), (.ref ta)])) := fun t k => pre12 t (st13.trans k)
  have hr13 : (if (2 : Int32) < (2 : Int32) then (2 : Int32) else (0 : Int32)) = (0 : Int32) := by decide
  have pre13b : Lead p e below G (T13.setTop (mkF m 90 #[.val (.ref o0), .val (.long q1), .second, .val (.long q2), .second, .val (.int (2 : Int32)), .val (.long (gT 1)), .second, .unset, .unset, .unset] [(.int (0 : Int32)), (.ref ta)])) := by have q := pre13; rw [hr13] at q; exact q
  have pre14 : Lead p e below G (T13.setTop (mkF m 91 #[.val (.ref o0), .val (.long q1), .second, .val (.long q2), .second, .val (.int (2 : Int32)), .val (.long (gT 1)), .second, .unset, .unset, .unset] [(.long q1), (.int (0 : Int32)), (.ref ta)])) := fun t k => by
    refine pre13b t ?_
    show Steps p.tables e below (T13.setTop (mkF m 90 #[.val (.ref o0), .val (.long q1), .second, .val (.long q2), .second, .val (.int (2 : Int32)), .val (.long (gT 1)), .second, .unset, .unset, .unset] [(.int (0 : Int32)), (.ref ta)])) _
    refine XS.lloadN Y13.here hx rfl (hb hby d4_90) rfl ?_
    show Steps p.tables e below (T13.setTop (mkF m 91 #[.val (.ref o0), .val (.long q1), .second, .val (.long q2), .second, .val (.int (2 : Int32)), .val (.long (gT 1)), .second, .unset, .unset, .unset] [(.long q1), (.int (0 : Int32)), (.ref ta)])) _
    exact k
  obtain ⟨cl15, Ar15, hin15, -⟩ := P6_V.in (j := (0 : Int32)) ⟨by decide, by decide⟩
  obtain ⟨T15, h15, X15, e15, W15, st15⟩ := stJ Y13 hx hZ e13 Ar15 (j := (0 : Int32)) hin15 (g := (mkF m 91 #[.val (.ref o0), .val (.long q1), .second, .val (.long q2), .second, .val (.int (2 : Int32)), .val (.long (gT 1)), .second, .unset, .unset, .unset] [(.long q1), (.int (0 : Int32)), (.ref ta)])) rfl rfl (hb hby d4_91)
  have N15 := Fr.snoc X15 N13 P12_G
  have K15 : Keep h0 h15 [o0, ta, tA] := K0.wr W15 (Or.inl (List.mem_of_getElem? (i := 1) rfl))
  obtain ⟨M15, Y15, N15⟩ : ∃ M, Stand p l e ({ frames := 2, cells := 0, slots := 0, locals := 27 } : Room) s m #[(.ref o0), (.long q1), (.long q2), (.int (2 : Int32))] below meth c T15 M 0 0 ∧ Fr n0 M := ⟨_, X15, N15⟩
  have V15 : JV Value.long Z h15 ta .long (2 : Int32) (updF gt 0 q1) := P6_V.set W15
  have pre15 : Lead p e below G (T15.setTop (mkF m 92 #[.val (.ref o0), .val (.long q1), .second, .val (.long q2), .second, .val (.int (2 : Int32)), .val (.long (gT 1)), .second, .unset, .unset, .unset] [])) := fun t k => pre14 t (st15 _ k)
  have pre16 : Lead p e below G (T15.setTop (mkF m 93 #[.val (.ref o0), .val (.long q1), .second, .val (.long q2), .second, .val (.int (2 : Int32)), .val (.long (gT 1)), .second, .unset, .unset, .unset] [(.ref o0)])) := fun t k => by
    refine pre15 t ?_
    show Steps p.tables e below (T15.setTop (mkF m 92 #[.val (.ref o0), .val (.long q1), .second, .val (.long q2), .second, .val (.int (2 : Int32)), .val (.long (gT 1)), .second, .unset, .unset, .unset] [])) _
    refine XS.aloadN Y15.here hx rfl (hb hby d4_92) rfl rfl ?_
    show Steps p.tables e below (T15.setTop (mkF m 93 #[.val (.ref o0), .val (.long q1), .second, .val (.long q2), .second, .val (.int (2 : Int32)), .val (.long (gT 1)), .second, .unset, .unset, .unset] [(.ref o0)])) _
    exact k
  have f18 : Fld Z h15 o0 "com/example/lean_throttle/leanthrottle/TimeRing" "totals" "[J" (.ref tA) := (P2_F.other W15 (Or.inl P8_NE))
  obtain ⟨T17, X17, e17, st17⟩ := getF Y15 hx hZ hown (host := "") (Or.inl (hw _ (List.mem_of_getElem? (i := 18) rfl))) Via.refl e15 f18 (g := (mkF m 93 #[.val (.ref o0), .val (.long q1), .second, .val (.long q2), .second, .val (.int (2 : Int32)), .val (.long (gT 1)), .second, .unset, .unset, .unset] [(.ref o0)])) rfl rfl (hb hby d4_93)
  have pre17 : Lead p e below G (T17.setTop (mkF m 96 #[.val (.ref o0), .val (.long q1), .second, .val (.long q2), .second, .val (.int (2 : Int32)), .val (.long (gT 1)), .second, .unset, .unset, .unset] [(.ref tA)])) := fun t k => pre16 t (st17 _ k)
  have pre19 : Lead p e below G (T17.setTop (mkF m 98 #[.val (.ref o0), .val (.long q1), .second, .val (.long q2), .second, .val (.int (2 : Int32)), .val (.long (gT 1)), .second, .unset, .unset, .unset] [(.ref o0), (.ref o0), (.ref tA)])) := fun t k => by
    refine pre17 t ?_
    show Steps p.tables e below (T17.setTop (mkF m 96 #[.val (.ref o0), .val (.long q1), .second, .val (.long q2), .second, .val (.int (2 : Int32)), .val (.long (gT 1)), .second, .unset, .unset, .unset] [(.ref tA)])) _
    refine XS.aloadN X17.here hx rfl (hb hby d4_96) rfl rfl ?_
    show Steps p.tables e below (T17.setTop (mkF m 97 #[.val (.ref o0), .val (.long q1), .second, .val (.long q2), .second, .val (.int (2 : Int32)), .val (.long (gT 1)), .second, .unset, .unset, .unset] [(.ref o0), (.ref tA)])) _
    refine XS.aloadN X17.here hx rfl (hb hby d4_97) rfl rfl ?_
    show Steps p.tables e below (T17.setTop (mkF m 98 #[.val (.ref o0), .val (.long q1), .second, .val (.long q2), .second, .val (.int (2 : Int32)), .val (.long (gT 1)), .second, .unset, .unset, .unset] [(.ref o0), (.ref o0), (.ref tA)])) _
    exact k
  have f21 : Fld Z h15 o0 "com/example/lean_throttle/leanthrottle/TimeRing" "size" "I" (.int (1 : Int32)) := (P4_F.other W15 (Or.inl P8_NE))
  obtain ⟨T20, X20, e20, st20⟩ := getF X17 hx hZ hown (host := "") (Or.inl (hw _ (List.mem_of_getElem? (i := 29) rfl))) Via.refl e17 f21 (g := (mkF m 98 #[.val (.ref o0), .val (.long q1), .second, .val (.long q2), .second, .val (.int (2 : Int32)), .val (.long (gT 1)), .second, .unset, .unset, .unset] [(.ref o0), (.ref o0), (.ref tA)])) rfl rfl (hb hby d4_98)
  have pre20 : Lead p e below G (T20.setTop (mkF m 101 #[.val (.ref o0), .val (.long q1), .second, .val (.long q2), .second, .val (.int (2 : Int32)), .val (.long (gT 1)), .second, .unset, .unset, .unset] [(.int (1 : Int32)), (.ref o0), (.ref tA)])) := fun t k => pre19 t (st20 _ k)
  have f23 : Fld Z h15 o0 "com/example/lean_throttle/leanthrottle/TimeRing" "first" "I" (.int (1 : Int32)) := (P3_F.other W15 (Or.inl P8_NE))
  have f24 : Fld Z h15 o0 "com/example/lean_throttle/leanthrottle/TimeRing" "times" "[J" (.ref ta) := (P1_F.other W15 (Or.inl P8_NE))
  have f25 : Exa Z h15 o0 "com/example/lean_throttle/leanthrottle/TimeRing" := (P0_E.wr W15)
  obtain ⟨cq22, zq22, zq22'⟩ := f25.cell
  obtain ⟨_, _, ⟨T22, L22, k22, n22⟩, -, X22, ⟨Lc22, hQ22, l22, y22, z22⟩, st22⟩ := X20.privateBack hx (y := (⟨"com/example/lean_throttle/leanthrottle/TimeRing", "at", "(I)I"⟩ : MethodName)) hown (mvT hZ (hw _ (List.mem_of_getElem? (i := 33) rfl))) (mvT hZ (hw _ (List.mem_of_getElem? (i := 34) rfl))) (own_selp hZ (hw _ (List.mem_of_getElem? (i := 7) rfl)) (hw _ (List.mem_of_getElem? (i := 35) rfl)) (hw _ (List.mem_of_getElem? (i := 34) rfl)) (by decide)) (Cond.privateMethod_at (mvP hZ (hw _ (List.mem_of_getElem? (i := 35) rfl)) (args := #[]))) (mvT hZ (hw _ (List.mem_of_getElem? (i := 36) rfl))) (by decide) (backOf (W := 1) (rm6 l Z a0 hw [] o0 (1 : Int32) (1 : Int32) ta (2 : Int32) (updF gt 0 q1) h15 n0 (Nat.le_trans Z0 K15.1) f23 f24 V15) hZ (hw _ (List.mem_of_getElem? (i := 36) rfl)) (hw _ (List.mem_of_getElem? (i := 8) rfl)) (by decide) (by decide)) (g := (mkF m 101 #[.val (.ref o0), .val (.long q1), .second, .val (.long q2), .second, .val (.int (2 : Int32)), .val (.long (gT 1)), .second, .unset, .unset, .unset] [(.int (1 : Int32)), (.ref o0), (.ref tA)])) rfl (by rw [hml]; rfl) (Steps.refl _) (a := o0) (by rw [e20]; exact zq22) zq22' (argsL := [(.int (1 : Int32))]) (rest := [(.ref tA)]) (lenOf pd__28_I_29_I rfl) rfl (by show 2 * 0 + _ ≤ _; exact Nat.le_of_eq rfl) (hb hby d4_101) (fun _ _ => ⟨rfl, e20, (by decide : 0 + 0 ≤ _), (by decide : 0 + 0 ≤ _)⟩)
  dsimp only [Pt.U, Pt.locs, Pt.cells, Pt.slots] at X22 l22 y22 z22 st22 hQ22
  subst l22 y22 z22
  obtain ⟨rfl, N22q, e22⟩ := hQ22
  have N22 := Fr.app N15 N22q
  obtain ⟨M22, Y22, N22⟩ : ∃ M, Stand p l e ({ frames := 2, cells := 0, slots := 0, locals := 27 } : Room) s m #[(.ref o0), (.long q1), (.long q2), (.int (2 : Int32))] below meth c T22 M 0 0 ∧ Fr n0 M := ⟨_, X22, N22⟩
  have pre22 : Lead p e below G (T22.setTop (mkF m 104 #[.val (.ref o0), .val (.long q1), .second, .val (.long q2), .second, .val (.int (2 : Int32)), .val (.long (gT 1)), .second, .unset, .unset, .unset] [(.int (if (2 : Int32) < (2 : Int32) then (2 : Int32) else (0 : Int32))), (.ref tA)])) := fun t k => pre20 t (st22.trans k)
  have hr22 : (if (2 : Int32) < (2 : Int32) then (2 : Int32) else (0 : Int32)) = (0 : Int32) := by decide
  have pre22b : Lead p e below G (T22.setTop (mkF m 104 #[.val (.ref o0), .val (.long q1), .second, .val (.long q2), .second, .val (.int (2 : Int32)), .val (.long (gT 1)), .second, .unset, .unset, .unset] [(.int (0 : Int32)), (.ref tA)])) := by have q := pre22; rw [hr22] at q; exact q
  have pre26 : Lead p e below G (T22.setTop (mkF m 108 #[.val (.ref o0), .val (.long q1), .second, .val (.long q2), .second, .val (.int (2 : Int32)), .val (.long (gT 1)), .second, .unset, .unset, .unset] [(.long ((gT 1) + q2)), (.int (0 : Int32)), (.ref tA)])) := fun t k => by
    refine pre22b t ?_
    show Steps p.tables e below (T22.setTop (mkF m 104 #[.val (.ref o0), .val (.long q1), .second, .val (.long q2), .second, .val (.int (2 : Int32)), .val (.long (gT 1)), .second, .unset, .unset, .unset] [(.int (0 : Int32)), (.ref tA)])) _
    refine XS.lload Y22.here hx rfl (hb hby d4_104) rfl ?_
    show Steps p.tables e below (T22.setTop (mkF m 106 #[.val (.ref o0), .val (.long q1), .second, .val (.long q2), .second, .val (.int (2 : Int32)), .val (.long (gT 1)), .second, .unset, .unset, .unset] [(.long (gT 1)), (.int (0 : Int32)), (.ref tA)])) _
    refine XS.lloadN Y22.here hx rfl (hb hby d4_106) rfl ?_
    show Steps p.tables e below (T22.setTop (mkF m 107 #[.val (.ref o0), .val (.long q1), .second, .val (.long q2), .second, .val (.int (2 : Int32)), .val (.long (gT 1)), .second, .unset, .unset, .unset] [(.long q2), (.long (gT 1)), (.int (0 : Int32)), (.ref tA)])) _
    refine XS.ladd Y22.here hx rfl (hb hby d4_107) rfl ?_
    show Steps p.tables e below (T22.setTop (mkF m 108 #[.val (.ref o0), .val (.long q1), .second, .val (.long q2), .second, .val (.int (2 : Int32)), .val (.long (gT 1)), .second, .unset, .unset, .unset] [(.long ((gT 1) + q2)), (.int (0 : Int32)), (.ref tA)])) _
    exact k
  have f28 : JV Value.long Z h15 tA .long (2 : Int32) gT := (P7_V.other W15 (Ne.symm P10_NE))
  obtain ⟨cl27, Ar27, hin27, -⟩ := f28.in (j := (0 : Int32)) ⟨by decide, by decide⟩
  obtain ⟨T27, h27, X27, e27, W27, st27⟩ := stJ Y22 hx hZ e22 Ar27 (j := (0 : Int32)) hin27 (g := (mkF m 108 #[.val (.ref o0), .val (.long q1), .second, .val (.long q2), .second, .val (.int (2 : Int32)), .val (.long (gT 1)), .second, .unset, .unset, .unset] [(.long ((gT 1) + q2)), (.int (0 : Int32)), (.ref tA)])) rfl rfl (hb hby d4_108)
  have N27 := Fr.snoc X27 N22 P13_G
  have K27 : Keep h0 h27 [o0, ta, tA] := K15.wr W27 (Or.inl (List.mem_of_getElem? (i := 2) rfl))
  obtain ⟨M27, Y27, N27⟩ : ∃ M, Stand p l e ({ frames := 2, cells := 0, slots := 0, locals := 27 } : Room) s m #[(.ref o0), (.long q1), (.long q2), (.int (2 : Int32))] below meth c T27 M 0 0 ∧ Fr n0 M := ⟨_, X27, N27⟩
  have V27 : JV Value.long Z h27 tA .long (2 : Int32) (updF gT 0 ((gT 1) + q2)) := f28.set W27
  have pre27 : Lead p e below G (T27.setTop (mkF m 109 #[.val (.ref o0), .val (.long q1), .second, .val (.long q2), .second, .val (.int (2 : Int32)), .val (.long (gT 1)), .second, .unset, .unset, .unset] [])) := fun t k => pre26 t (st27 _ k)
  have pre29 : Lead p e below G (T27.setTop (mkF m 111 #[.val (.ref o0), .val (.long q1), .second, .val (.long q2), .second, .val (.int (2 : Int32)), .val (.long (gT 1)), .second, .unset, .unset, .unset] [(.ref o0), (.ref o0)])) := fun t k => by
    refine pre27 t ?_
    show Steps p.tables e below (T27.setTop (mkF m 109 #[.val (.ref o0), .val (.long q1), .second, .val (.long q2), .second, .val (.int (2 : Int32)), .val (.long (gT 1)), .second, .unset, .unset, .unset] [])) _
    refine XS.aloadN Y27.here hx rfl (hb hby d4_109) rfl rfl ?_
    show Steps p.tables e below (T27.setTop (mkF m 110 #[.val (.ref o0), .val (.long q1), .second, .val (.long q2), .second, .val (.int (2 : Int32)), .val (.long (gT 1)), .second, .unset, .unset, .unset] [(.ref o0)])) _
    refine XS.dup Y27.here hx rfl (hb hby d4_110) rfl rfl ?_
    show Steps p.tables e below (T27.setTop (mkF m 111 #[.val (.ref o0), .val (.long q1), .second, .val (.long q2), .second, .val (.int (2 : Int32)), .val (.long (gT 1)), .second, .unset, .unset, .unset] [(.ref o0), (.ref o0)])) _
    exact k
  have f31 : Fld Z h27 o0 "com/example/lean_throttle/leanthrottle/TimeRing" "size" "I" (.int (1 : Int32)) := (f21.other W27 (Or.inl P9_NE))
  obtain ⟨T30, X30, e30, st30⟩ := getF Y27 hx hZ hown (host := "") (Or.inl (hw _ (List.mem_of_getElem? (i := 29) rfl))) Via.refl e27 f31 (g := (mkF m 111 #[.val (.ref o0), .val (.long q1), .second, .val (.long q2), .second, .val (.int (2 : Int32)), .val (.long (gT 1)), .second, .unset, .unset, .unset] [(.ref o0), (.ref o0)])) rfl rfl (hb hby d4_111)
  have pre30 : Lead p e below G (T30.setTop (mkF m 114 #[.val (.ref o0), .val (.long q1), .second, .val (.long q2), .second, .val (.int (2 : Int32)), .val (.long (gT 1)), .second, .unset, .unset, .unset] [(.int (1 : Int32)), (.ref o0)])) := fun t k => pre29 t (st30 _ k)
  have pre32 : Lead p e below G (T30.setTop (mkF m 116 #[.val (.ref o0), .val (.long q1), .second, .val (.long q2), .second, .val (.int (2 : Int32)), .val (.long (gT 1)), .second, .unset, .unset, .unset] [(.int (2 : Int32)), (.ref o0)])) := fun t k => by
    refine pre30 t ?_
    show Steps p.tables e below (T30.setTop (mkF m 114 #[.val (.ref o0), .val (.long q1), .second, .val (.long q2), .second, .val (.int (2 : Int32)), .val (.long (gT 1)), .second, .unset, .unset, .unset] [(.int (1 : Int32)), (.ref o0)])) _
    refine XS.iconst X30.here hx rfl (hb hby d4_114) ?_
    show Steps p.tables e below (T30.setTop (mkF m 115 #[.val (.ref o0), .val (.long q1), .second, .val (.long q2), .second, .val (.int (2 : Int32)), .val (.long (gT 1)), .second, .unset, .unset, .unset] [(.int (1 : Int32)), (.int (1 : Int32)), (.ref o0)])) _
    refine XS.iadd X30.here hx rfl (hb hby d4_115) rfl ?_
    show Steps p.tables e below (T30.setTop (mkF m 116 #[.val (.ref o0), .val (.long q1), .second, .val (.long q2), .second, .val (.int (2 : Int32)), .val (.long (gT 1)), .second, .unset, .unset, .unset] [(.int (2 : Int32)), (.ref o0)])) _
    exact k
  have f34 : Exa Z h27 o0 "com/example/lean_throttle/leanthrottle/TimeRing" := (f25.wr W27)
  obtain ⟨T33, h33, X33, e33, W33, st33⟩ := putF X30 hx hZ hown (host := "") (Or.inl (hw _ (List.mem_of_getElem? (i := 29) rfl))) Via.refl e30 f31 f34 (Or.inl (hw _ (List.mem_of_getElem? (i := 30) rfl))) (hw _ (List.mem_of_getElem? (i := 7) rfl)) (ty := .int) (by decide) rfl rfl (g := (mkF m 116 #[.val (.ref o0), .val (.long q1), .second, .val (.long q2), .second, .val (.int (2 : Int32)), .val (.long (gT 1)), .second, .unset, .unset, .unset] [(.int (2 : Int32)), (.ref o0)])) rfl rfl (hb hby d4_116)
  have N33 := Fr.snoc X33 N27 P11_G
  have K33 : Keep h0 h33 [o0, ta, tA] := K27.wr W33 (Or.inl (List.mem_of_getElem? (i := 0) rfl))
  obtain ⟨M33, Y33, N33⟩ : ∃ M, Stand p l e ({ frames := 2, cells := 0, slots := 0, locals := 27 } : Room) s m #[(.ref o0), (.long q1), (.long q2), (.int (2 : Int32))] below meth c T33 M 0 0 ∧ Fr n0 M := ⟨_, X33, N33⟩
  have Fw33 : Fld Z h33 o0 "com/example/lean_throttle/leanthrottle/TimeRing" "size" "I" (.int (2 : Int32)) := f31.same W33
  have pre33 : Lead p e below G (T33.setTop (mkF m 119 #[.val (.ref o0), .val (.long q1), .second, .val (.long q2), .second, .val (.int (2 : Int32)), .val (.long (gT 1)), .second, .unset, .unset, .unset] [])) := fun t k => pre32 t (st33 _ k)
  obtain ⟨fs, hr, hrun, hended, hW, hsame⟩ := Y33.leave (v := none) (fun _ => rfl)
  subst hG
  refine ⟨_, _, pre33 _ ?_, hrun, hended, _, _, rfl, ?_, ⟨_, rfl⟩, hW, hsame.mono (by decide) (by decide)⟩
  · show Steps p.tables e below (T33.setTop (mkF m 119 #[.val (.ref o0), .val (.long q1), .second, .val (.long q2), .second, .val (.int (2 : Int32)), .val (.long (gT 1)), .second, .unset, .unset, .unset] [])) _
    exact Y33.returnOut hx Bd.returns (hb hby d4_119) hr
  · show Q4_1_1_2_2 Z o0 q1 q2 ta tA bf gt gT h0 n0 _ T33.heap _
    rw [e33]
    have f35 : Exa Z h33 o0 "com/example/lean_throttle/leanthrottle/TimeRing" := (f34.wr W33)
    have f36 : Fld Z h33 o0 "com/example/lean_throttle/leanthrottle/TimeRing" "times" "[J" (.ref ta) := ((f24.other W27 (Or.inl P9_NE)).other W33 (Or.inr (slot_ne (Or.inl (hw _ (List.mem_of_getElem? (i := 17) rfl))) (Or.inl (hw _ (List.mem_of_getElem? (i := 30) rfl))) (by decide) (t := (.array .long)) (t' := .int) (by decide) (by decide))))
    have f37 : Fld Z h33 o0 "com/example/lean_throttle/leanthrottle/TimeRing" "totals" "[J" (.ref tA) := ((f18.other W27 (Or.inl P9_NE)).other W33 (Or.inr (slot_ne (Or.inl (hw _ (List.mem_of_getElem? (i := 19) rfl))) (Or.inl (hw _ (List.mem_of_getElem? (i := 30) rfl))) (by decide) (t := (.array .long)) (t' := .int) (by decide) (by decide))))
    have f38 : Fld Z h33 o0 "com/example/lean_throttle/leanthrottle/TimeRing" "first" "I" (.int (1 : Int32)) := ((f23.other W27 (Or.inl P9_NE)).other W33 (Or.inr (slot_ne (Or.inl (hw _ (List.mem_of_getElem? (i := 38) rfl))) (Or.inl (hw _ (List.mem_of_getElem? (i := 30) rfl))) (by decide) (t := .int) (t' := .int) (by decide) (by decide))))
    have f39 : Fld Z h33 o0 "com/example/lean_throttle/leanthrottle/TimeRing" "totalBefore" "J" (.long bf) := (((P5_F.other W15 (Or.inl P8_NE)).other W27 (Or.inl P9_NE)).other W33 (Or.inr (slot_ne (Or.inl (hw _ (List.mem_of_getElem? (i := 32) rfl))) (Or.inl (hw _ (List.mem_of_getElem? (i := 30) rfl))) (by decide) (t := .long) (t' := .int) (by decide) (by decide))))
    have f40 : JV Value.long Z h33 ta .long (2 : Int32) (updF gt 0 q1) := ((V15.other W27 P10_NE).other W33 (Ne.symm P8_NE))
    have f41 : JV Value.long Z h33 tA .long (2 : Int32) (updF gT 0 ((gT 1) + q2)) := (V27.other W33 (Ne.symm P9_NE))
    exact ⟨rfl, N33, K33, f35, f36, f37, f38, Fw33, f39, f40, f41⟩
def F9_1_2_2_0 (bf : Int64) (gT : Nat → Int64) : Int64 := ((gT 1) - bf)
theorem ef_9_1_2_2_0 (m : MethodId) (o0 : Addr) : entryFrame m #[(.ref o0), (.int (0 : Int32))] 4 = mkF m 0 #[.val (.ref o0), .val (.int (0 : Int32)), .unset, .unset] [] := by first | (simp [entryFrame, mkF, argsToLocals, Value.category]; done) | rfl
def Q9_1_2_2_0 (Z : State) (o0 : Addr) (ta : Addr) (tA : Addr) (bf : Int64) (gt : Nat → Int64) (gT : Nat → Int64) (h0 : Heap) (n0 : Nat) (v : Option Value) (h : Heap) (L : List Loc) : Prop := v = some (.long ((gT 1) - bf)) ∧ Fr n0 L ∧ h = h0
set_option maxRecDepth 65536 in
set_option maxHeartbeats 40000000 in
theorem rm9_1_2_2_0 (l : Launch) (Z : State) (a0 : Array Value) (hw : ∀ d ∈ tables_1, d.before a0 Z = true) (ws : List Jvm.Cond) (o0 : Addr) (ta : Addr) (tA : Addr) (bf : Int64) (gt : Nat → Int64) (gT : Nat → Int64) (h0 : Heap) (n0 : Nat) (Z0 : n0 ≤ h0.size) (P0_E : Exa Z h0 o0 "com/example/lean_throttle/leanthrottle/TimeRing") (P1_F : Fld Z h0 o0 "com/example/lean_throttle/leanthrottle/TimeRing" "times" "[J" (.ref ta)) (P2_F : Fld Z h0 o0 "com/example/lean_throttle/leanthrottle/TimeRing" "totals" "[J" (.ref tA)) (P3_F : Fld Z h0 o0 "com/example/lean_throttle/leanthrottle/TimeRing" "first" "I" (.int (1 : Int32))) (P4_F : Fld Z h0 o0 "com/example/lean_throttle/leanthrottle/TimeRing" "size" "I" (.int (2 : Int32))) (P5_F : Fld Z h0 o0 "com/example/lean_throttle/leanthrottle/TimeRing" "totalBefore" "J" (.long bf)) (P6_V : JV Value.long Z h0 ta .long (2 : Int32) gt) (P7_V : JV Value.long Z h0 tA .long (2 : Int32) gT) (P8_NE : o0 ≠ ta) (P9_NE : o0 ≠ tA) (P10_NE : ta ≠ tA) :
    MetFree l (⟨"com/example/lean_throttle/leanthrottle/TimeRing", "unitsOf", "(I)J"⟩ : MethodName) (head1 (Jvm.Cond.code (⟨"com/example/lean_throttle/leanthrottle/TimeRing", "unitsOf", "(I)J"⟩ : MethodName) prog_21_method_7_code 4 (some .long) :: ws) ({ frames := 1, cells := 0, slots := 0, locals := 15 } : Room)) (fun a U => a = #[(.ref o0), (.int (0 : Int32))] ∧ Z.Warmed39 U.vm ∧ U.heap = h0) (fun _ _ _ _ _ => True) (fun _ U o U' => ∃ v L, o = .returned v ∧ Q9_1_2_2_0 Z o0 ta tA bf gt gT h0 n0 v U'.heap L ∧ FrameEnd U o U' L ({ frames := 1, cells := 0, slots := 0, locals := 15 } : Room).cells ({ frames := 1, cells := 0, slots := 0, locals := 15 } : Room).slots) := by
  refine MetFree.of_bodySF (plainFor_of_name pn_com_example_lean_throttle_leanthrottle_TimeRing) hisR ?_
  intro p e s m args below meth c s₁ Bd hml0 hP hK
  obtain ⟨rfl, hZ, hh⟩ := hP
  have hx := Bd.exec
  have hby := Bd.bytes
  have hml : c.maxLocals = 4 := hml0
  have hown : s.vm.findClass "com/example/lean_throttle/leanthrottle/TimeRing" = some m.cls := findClass_of_methodNamed Bd.named
  have hnm := (name_of_methodNamed Bd.named Bd.method).1
  have X0 : Stand p l e ({ frames := 1, cells := 0, slots := 0, locals := 15 } : Room) s m #[(.ref o0), (.int (0 : Int32))] below meth c s₁ [] 0 0 := Stand.of_body Bd
  have e0 : s₁.heap = h0 := by rw [← hh, Bd.state]; rfl
  have N0 := Fr.nil n0
  have K0 : Keep h0 h0 [] := Keep.refl _ _
  obtain ⟨G, hG⟩ : ∃ z, z = s₁.setTop (entryFrame m #[(.ref o0), (.int (0 : Int32))] 4) := ⟨_, rfl⟩
  have pre0 : Lead p e below G (s₁.setTop (mkF m 0 #[.val (.ref o0), .val (.int (0 : Int32)), .unset, .unset] [])) := fun t k => by rw [hG]; exact castTop (ef_9_1_2_2_0 m o0) k
  have hf1 : (0 : Int32) = (0 : Int32) := (by decide)
  have pre2 : Lead p e below G (s₁.setTop (mkF m 5 #[.val (.ref o0), .val (.int (0 : Int32)), .unset, .unset] [(.ref o0)])) := fun t k => by
    refine pre0 t ?_
    show Steps p.tables e below (s₁.setTop (mkF m 0 #[.val (.ref o0), .val (.int (0 : Int32)), .unset, .unset] [])) _
    refine XS.iloadN X0.here hx rfl (hb hby d9_0) rfl ?_
    show Steps p.tables e below (s₁.setTop (mkF m 1 #[.val (.ref o0), .val (.int (0 : Int32)), .unset, .unset] [(.int (0 : Int32))])) _
    refine XS.ifNo X0.here hx rfl (hb hby d9_1) rfl ((if0 _ _).trans (teq hf1).2) ?_
    show Steps p.tables e below (s₁.setTop (mkF m 4 #[.val (.ref o0), .val (.int (0 : Int32)), .unset, .unset] [])) _
    refine XS.aloadN X0.here hx rfl (hb hby d9_4) rfl rfl ?_
    show Steps p.tables e below (s₁.setTop (mkF m 5 #[.val (.ref o0), .val (.int (0 : Int32)), .unset, .unset] [(.ref o0)])) _
    exact k
  obtain ⟨T3, X3, e3, st3⟩ := getF X0 hx hZ hown (host := "") (Or.inl (hw _ (List.mem_of_getElem? (i := 31) rfl))) Via.refl e0 P5_F (g := (mkF m 5 #[.val (.ref o0), .val (.int (0 : Int32)), .unset, .unset] [(.ref o0)])) rfl rfl (hb hby d9_5)
  have pre3 : Lead p e below G (T3.setTop (mkF m 8 #[.val (.ref o0), .val (.int (0 : Int32)), .unset, .unset] [(.long bf)])) := fun t k => pre2 t (st3 _ k)
  have pre4 : Lead p e below G (T3.setTop (mkF m 25 #[.val (.ref o0), .val (.int (0 : Int32)), .val (.long bf), .second] [(.ref o0)])) := fun t k => by
    refine pre3 t ?_
    show Steps p.tables e below (T3.setTop (mkF m 8 #[.val (.ref o0), .val (.int (0 : Int32)), .unset, .unset] [(.long bf)])) _
    refine XS.goto X3.here hx rfl (pc0 := 8) (pc' := 23) rfl (hb hby d9_8) (by decide) (by decide) ?_
    show Steps p.tables e below (T3.setTop (mkF m 23 #[.val (.ref o0), .val (.int (0 : Int32)), .unset, .unset] [(.long bf)])) _
    refine XS.lstoreN X3.here hx rfl (hb hby d9_23) rfl (l' := #[.val (.ref o0), .val (.int (0 : Int32)), .val (.long bf), .second]) rfl ?_
    show Steps p.tables e below (T3.setTop (mkF m 24 #[.val (.ref o0), .val (.int (0 : Int32)), .val (.long bf), .second] [])) _
    refine XS.aloadN X3.here hx rfl (hb hby d9_24) rfl rfl ?_
    show Steps p.tables e below (T3.setTop (mkF m 25 #[.val (.ref o0), .val (.int (0 : Int32)), .val (.long bf), .second] [(.ref o0)])) _
    exact k
  obtain ⟨T5, X5, e5, st5⟩ := getF X3 hx hZ hown (host := "") (Or.inl (hw _ (List.mem_of_getElem? (i := 18) rfl))) Via.refl e3 P2_F (g := (mkF m 25 #[.val (.ref o0), .val (.int (0 : Int32)), .val (.long bf), .second] [(.ref o0)])) rfl rfl (hb hby d9_25)
  have pre5 : Lead p e below G (T5.setTop (mkF m 28 #[.val (.ref o0), .val (.int (0 : Int32)), .val (.long bf), .second] [(.ref tA)])) := fun t k => pre4 t (st5 _ k)
  have pre6 : Lead p e below G (T5.setTop (mkF m 30 #[.val (.ref o0), .val (.int (0 : Int32)), .val (.long bf), .second] [(.int (0 : Int32)), (.ref o0), (.ref tA)])) := fun t k => by
    refine pre5 t ?_
    show Steps p.tables e below (T5.setTop (mkF m 28 #[.val (.ref o0), .val (.int (0 : Int32)), .val (.long bf), .second] [(.ref tA)])) _
    refine XS.aloadN X5.here hx rfl (hb hby d9_28) rfl rfl ?_
    show Steps p.tables e below (T5.setTop (mkF m 29 #[.val (.ref o0), .val (.int (0 : Int32)), .val (.long bf), .second] [(.ref o0), (.ref tA)])) _
    refine XS.iloadN X5.here hx rfl (hb hby d9_29) rfl ?_
    show Steps p.tables e below (T5.setTop (mkF m 30 #[.val (.ref o0), .val (.int (0 : Int32)), .val (.long bf), .second] [(.int (0 : Int32)), (.ref o0), (.ref tA)])) _
    exact k
  obtain ⟨cq7, zq7, zq7'⟩ := P0_E.cell
  obtain ⟨_, _, ⟨T7, L7, k7, n7⟩, -, X7, ⟨Lc7, hQ7, l7, y7, z7⟩, st7⟩ := X5.privateBack hx (y := (⟨"com/example/lean_throttle/leanthrottle/TimeRing", "at", "(I)I"⟩ : MethodName)) hown (mvT hZ (hw _ (List.mem_of_getElem? (i := 33) rfl))) (mvT hZ (hw _ (List.mem_of_getElem? (i := 34) rfl))) (own_selp hZ (hw _ (List.mem_of_getElem? (i := 7) rfl)) (hw _ (List.mem_of_getElem? (i := 35) rfl)) (hw _ (List.mem_of_getElem? (i := 34) rfl)) (by decide)) (Cond.privateMethod_at (mvP hZ (hw _ (List.mem_of_getElem? (i := 35) rfl)) (args := #[]))) (mvT hZ (hw _ (List.mem_of_getElem? (i := 36) rfl))) (by decide) (backOf (W := 1) (rm6 l Z a0 hw [] o0 (0 : Int32) (1 : Int32) ta (2 : Int32) gt h0 n0 (Nat.le_trans Z0 K0.1) P3_F P1_F P6_V) hZ (hw _ (List.mem_of_getElem? (i := 36) rfl)) (hw _ (List.mem_of_getElem? (i := 8) rfl)) (by decide) (by decide)) (g := (mkF m 30 #[.val (.ref o0), .val (.int (0 : Int32)), .val (.long bf), .second] [(.int (0 : Int32)), (.ref o0), (.ref tA)])) rfl (by rw [hml]; rfl) (Steps.refl _) (a := o0) (by rw [e5]; exact zq7) zq7' (argsL := [(.int (0 : Int32))]) (rest := [(.ref tA)]) (lenOf pd__28_I_29_I rfl) rfl (by show 2 * 0 + _ ≤ _; exact Nat.le_of_eq rfl) (hb hby d9_30) (fun _ _ => ⟨rfl, e5, (by decide : 0 + 0 ≤ _), (by decide : 0 + 0 ≤ _)⟩)
  dsimp only [Pt.U, Pt.locs, Pt.cells, Pt.slots] at X7 l7 y7 z7 st7 hQ7
  subst l7 y7 z7
  obtain ⟨rfl, N7q, e7⟩ := hQ7
  have N7 := Fr.app N0 N7q
  obtain ⟨M7, Y7, N7⟩ : ∃ M, Stand p l e ({ frames := 1, cells := 0, slots := 0, locals := 15 } : Room) s m #[(.ref o0), (.int (0 : Int32))] below meth c T7 M 0 0 ∧ Fr n0 M := ⟨_, X7, N7⟩
  have pre7 : Lead p e below G (T7.setTop (mkF m 33 #[.val (.ref o0), .val (.int (0 : Int32)), .val (.long bf), .second] [(.int (if (1 : Int32) < (2 : Int32) then (1 : Int32) else (-1 : Int32))), (.ref tA)])) := fun t k => pre6 t (st7.trans k)
  have hr7 : (if (1 : Int32) < (2 : Int32) then (1 : Int32) else (-1 : Int32)) = (1 : Int32) := by decide
  have pre7b : Lead p e below G (T7.setTop (mkF m 33 #[.val (.ref o0), .val (.int (0 : Int32)), .val (.long bf), .second] [(.int (1 : Int32)), (.ref tA)])) := by have q := pre7; rw [hr7] at q; exact q
  obtain ⟨cl8, Ar8, hin8, hat8⟩ := P7_V.in (j := (1 : Int32)) ⟨by decide, by decide⟩
  have st8 := Y7.laload hx (j := (1 : Int32)) (v := (.long (gT 1))) (by rw [e7]; exact Ar8.1) (State.isArrayOf_alike hZ.alike Ar8.2.1) Ar8.2.2 hin8 hat8 (g := (mkF m 33 #[.val (.ref o0), .val (.int (0 : Int32)), .val (.long bf), .second] [(.int (1 : Int32)), (.ref tA)])) rfl rfl (hb hby d9_33)
  have pre8 : Lead p e below G (T7.setTop (mkF m 34 #[.val (.ref o0), .val (.int (0 : Int32)), .val (.long bf), .second] [(.long (gT 1))])) := fun t k => pre7b t (st8 _ k)
  obtain ⟨fs, hr, hrun, hended, hW, hsame⟩ := Y7.leave (v := some (.long ((gT 1) - bf))) (fun h => by rw [Bd.returns] at h; cases h)
  subst hG
  refine ⟨_, _, pre8 _ ?_, hrun, hended, _, _, rfl, ?_, ⟨_, rfl⟩, hW, hsame.mono (by decide) (by decide)⟩
  · show Steps p.tables e below (T7.setTop (mkF m 34 #[.val (.ref o0), .val (.int (0 : Int32)), .val (.long bf), .second] [(.long (gT 1))])) _
    refine XS.lloadN Y7.here hx rfl (hb hby d9_34) rfl ?_
    show Steps p.tables e below (T7.setTop (mkF m 35 #[.val (.ref o0), .val (.int (0 : Int32)), .val (.long bf), .second] [(.long bf), (.long (gT 1))])) _
    refine XS.lsub Y7.here hx rfl (hb hby d9_35) rfl ?_
    show Steps p.tables e below (T7.setTop (mkF m 36 #[.val (.ref o0), .val (.int (0 : Int32)), .val (.long bf), .second] [(.long ((gT 1) - bf))])) _
    exact retJ Y7 hx Bd.returns (hb hby d9_36) hr
  · show Q9_1_2_2_0 Z o0 ta tA bf gt gT h0 n0 _ T7.heap _
    rw [e7]
    have hv_ : ((gT 1) - bf) = F9_1_2_2_0 bf gT := by
      skip
      rfl
    exact ⟨congrArg (fun z => some (Value.long z)) hv_, N7, rfl⟩
def F9_1_2_2_1 (gT : Nat → Int64) : Int64 := ((gT 0) - (gT 1))
theorem ef_9_1_2_2_1 (m : MethodId) (o0 : Addr) : entryFrame m #[(.ref o0), (.int (1 : Int32))] 4 = mkF m 0 #[.val (.ref o0), .val (.int (1 : Int32)), .unset, .unset] [] := by first | (simp [entryFrame, mkF, argsToLocals, Value.category]; done) | rfl
def Q9_1_2_2_1 (Z : State) (o0 : Addr) (ta : Addr) (tA : Addr) (bf : Int64) (gt : Nat → Int64) (gT : Nat → Int64) (h0 : Heap) (n0 : Nat) (v : Option Value) (h : Heap) (L : List Loc) : Prop := v = some (.long ((gT 0) - (gT 1))) ∧ Fr n0 L ∧ h = h0
set_option maxRecDepth 65536 in
set_option maxHeartbeats 40000000 in
theorem rm9_1_2_2_1 (l : Launch) (Z : State) (a0 : Array Value) (hw : ∀ d ∈ tables_1, d.before a0 Z = true) (ws : List Jvm.Cond) (o0 : Addr) (ta : Addr) (tA : Addr) (bf : Int64) (gt : Nat → Int64) (gT : Nat → Int64) (h0 : Heap) (n0 : Nat) (Z0 : n0 ≤ h0.size) (P0_E : Exa Z h0 o0 "com/example/lean_throttle/leanthrottle/TimeRing") (P1_F : Fld Z h0 o0 "com/example/lean_throttle/leanthrottle/TimeRing" "times" "[J" (.ref ta)) (P2_F : Fld Z h0 o0 "com/example/lean_throttle/leanthrottle/TimeRing" "totals" "[J" (.ref tA)) (P3_F : Fld Z h0 o0 "com/example/lean_throttle/leanthrottle/TimeRing" "first" "I" (.int (1 : Int32))) (P4_F : Fld Z h0 o0 "com/example/lean_throttle/leanthrottle/TimeRing" "size" "I" (.int (2 : Int32))) (P5_F : Fld Z h0 o0 "com/example/lean_throttle/leanthrottle/TimeRing" "totalBefore" "J" (.long bf)) (P6_V : JV Value.long Z h0 ta .long (2 : Int32) gt) (P7_V : JV Value.long Z h0 tA .long (2 : Int32) gT) (P8_NE : o0 ≠ ta) (P9_NE : o0 ≠ tA) (P10_NE : ta ≠ tA) :
    MetFree l (⟨"com/example/lean_throttle/leanthrottle/TimeRing", "unitsOf", "(I)J"⟩ : MethodName) (head1 (Jvm.Cond.code (⟨"com/example/lean_throttle/leanthrottle/TimeRing", "unitsOf", "(I)J"⟩ : MethodName) prog_21_method_7_code 4 (some .long) :: ws) ({ frames := 1, cells := 0, slots := 0, locals := 15 } : Room)) (fun a U => a = #[(.ref o0), (.int (1 : Int32))] ∧ Z.Warmed39 U.vm ∧ U.heap = h0) (fun _ _ _ _ _ => True) (fun _ U o U' => ∃ v L, o = .returned v ∧ Q9_1_2_2_1 Z o0 ta tA bf gt gT h0 n0 v U'.heap L ∧ FrameEnd U o U' L ({ frames := 1, cells := 0, slots := 0, locals := 15 } : Room).cells ({ frames := 1, cells := 0, slots := 0, locals := 15 } : Room).slots) := by
  refine MetFree.of_bodySF (plainFor_of_name pn_com_example_lean_throttle_leanthrottle_TimeRing) hisR ?_
  intro p e s m args below meth c s₁ Bd hml0 hP hK
  obtain ⟨rfl, hZ, hh⟩ := hP
  have hx := Bd.exec
  have hby := Bd.bytes
  have hml : c.maxLocals = 4 := hml0
  have hown : s.vm.findClass "com/example/lean_throttle/leanthrottle/TimeRing" = some m.cls := findClass_of_methodNamed Bd.named
  have hnm := (name_of_methodNamed Bd.named Bd.method).1
  have X0 : Stand p l e ({ frames := 1, cells := 0, slots := 0, locals := 15 } : Room) s m #[(.ref o0), (.int (1 : Int32))] below meth c s₁ [] 0 0 := Stand.of_body Bd
  have e0 : s₁.heap = h0 := by rw [← hh, Bd.state]; rfl
  have N0 := Fr.nil n0
  have K0 : Keep h0 h0 [] := Keep.refl _ _
  obtain ⟨G, hG⟩ : ∃ z, z = s₁.setTop (entryFrame m #[(.ref o0), (.int (1 : Int32))] 4) := ⟨_, rfl⟩
  have pre0 : Lead p e below G (s₁.setTop (mkF m 0 #[.val (.ref o0), .val (.int (1 : Int32)), .unset, .unset] [])) := fun t k => by rw [hG]; exact castTop (ef_9_1_2_2_1 m o0) k
  have hf1 : ¬ ((1 : Int32) = (0 : Int32)) := (by decide)
  have pre2 : Lead p e below G (s₁.setTop (mkF m 12 #[.val (.ref o0), .val (.int (1 : Int32)), .unset, .unset] [(.ref o0)])) := fun t k => by
    refine pre0 t ?_
    show Steps p.tables e below (s₁.setTop (mkF m 0 #[.val (.ref o0), .val (.int (1 : Int32)), .unset, .unset] [])) _
    refine XS.iloadN X0.here hx rfl (hb hby d9_0) rfl ?_
    show Steps p.tables e below (s₁.setTop (mkF m 1 #[.val (.ref o0), .val (.int (1 : Int32)), .unset, .unset] [(.int (1 : Int32))])) _
    refine XS.ifYes X0.here hx rfl (pc0 := 1) (pc' := 11) rfl (hb hby d9_1) rfl ((if0 _ _).trans (feq hf1).2) (by decide) (by decide) ?_
    show Steps p.tables e below (s₁.setTop (mkF m 11 #[.val (.ref o0), .val (.int (1 : Int32)), .unset, .unset] [])) _
    refine XS.aloadN X0.here hx rfl (hb hby d9_11) rfl rfl ?_
    show Steps p.tables e below (s₁.setTop (mkF m 12 #[.val (.ref o0), .val (.int (1 : Int32)), .unset, .unset] [(.ref o0)])) _
    exact k
  obtain ⟨T3, X3, e3, st3⟩ := getF X0 hx hZ hown (host := "") (Or.inl (hw _ (List.mem_of_getElem? (i := 18) rfl))) Via.refl e0 P2_F (g := (mkF m 12 #[.val (.ref o0), .val (.int (1 : Int32)), .unset, .unset] [(.ref o0)])) rfl rfl (hb hby d9_12)
  have pre3 : Lead p e below G (T3.setTop (mkF m 15 #[.val (.ref o0), .val (.int (1 : Int32)), .unset, .unset] [(.ref tA)])) := fun t k => pre2 t (st3 _ k)
  have pre4 : Lead p e below G (T3.setTop (mkF m 19 #[.val (.ref o0), .val (.int (1 : Int32)), .unset, .unset] [(.int (0 : Int32)), (.ref o0), (.ref tA)])) := fun t k => by
    refine pre3 t ?_
    show Steps p.tables e below (T3.setTop (mkF m 15 #[.val (.ref o0), .val (.int (1 : Int32)), .unset, .unset] [(.ref tA)])) _
    refine XS.aloadN X3.here hx rfl (hb hby d9_15) rfl rfl ?_
    show Steps p.tables e below (T3.setTop (mkF m 16 #[.val (.ref o0), .val (.int (1 : Int32)), .unset, .unset] [(.ref o0), (.ref tA)])) _
    refine XS.iloadN X3.here hx rfl (hb hby d9_16) rfl ?_
    show Steps p.tables e below (T3.setTop (mkF m 17 #[.val (.ref o0), .val (.int (1 : Int32)), .unset, .unset] [(.int (1 : Int32)), (.ref o0), (.ref tA)])) _
    refine XS.iconst X3.here hx rfl (hb hby d9_17) ?_
    show Steps p.tables e below (T3.setTop (mkF m 18 #[.val (.ref o0), .val (.int (1 : Int32)), .unset, .unset] [(.int (1 : Int32)), (.int (1 : Int32)), (.ref o0), (.ref tA)])) _
    refine XS.isub X3.here hx rfl (hb hby d9_18) rfl ?_
    show Steps p.tables e below (T3.setTop (mkF m 19 #[.val (.ref o0), .val (.int (1 : Int32)), .unset, .unset] [(.int (0 : Int32)), (.ref o0), (.ref tA)])) _
    exact k
  obtain ⟨cq5, zq5, zq5'⟩ := P0_E.cell
  obtain ⟨_, _, ⟨T5, L5, k5, n5⟩, -, X5, ⟨Lc5, hQ5, l5, y5, z5⟩, st5⟩ := X3.privateBack hx (y := (⟨"com/example/lean_throttle/leanthrottle/TimeRing", "at", "(I)I"⟩ : MethodName)) hown (mvT hZ (hw _ (List.mem_of_getElem? (i := 33) rfl))) (mvT hZ (hw _ (List.mem_of_getElem? (i := 34) rfl))) (own_selp hZ (hw _ (List.mem_of_getElem? (i := 7) rfl)) (hw _ (List.mem_of_getElem? (i := 35) rfl)) (hw _ (List.mem_of_getElem? (i := 34) rfl)) (by decide)) (Cond.privateMethod_at (mvP hZ (hw _ (List.mem_of_getElem? (i := 35) rfl)) (args := #[]))) (mvT hZ (hw _ (List.mem_of_getElem? (i := 36) rfl))) (by decide) (backOf (W := 1) (rm6 l Z a0 hw [] o0 (0 : Int32) (1 : Int32) ta (2 : Int32) gt h0 n0 (Nat.le_trans Z0 K0.1) P3_F P1_F P6_V) hZ (hw _ (List.mem_of_getElem? (i := 36) rfl)) (hw _ (List.mem_of_getElem? (i := 8) rfl)) (by decide) (by decide)) (g := (mkF m 19 #[.val (.ref o0), .val (.int (1 : Int32)), .unset, .unset] [(.int (0 : Int32)), (.ref o0), (.ref tA)])) rfl (by rw [hml]; rfl) (Steps.refl _) (a := o0) (by rw [e3]; exact zq5) zq5' (argsL := [(.int (0 : Int32))]) (rest := [(.ref tA)]) (lenOf pd__28_I_29_I rfl) rfl (by show 2 * 0 + _ ≤ _; exact Nat.le_of_eq rfl) (hb hby d9_19) (fun _ _ => ⟨rfl, e3, (by decide : 0 + 0 ≤ _), (by decide : 0 + 0 ≤ _)⟩)
  dsimp only [Pt.U, Pt.locs, Pt.cells, Pt.slots] at X5 l5 y5 z5 st5 hQ5
  subst l5 y5 z5
  obtain ⟨rfl, N5q, e5⟩ := hQ5
  have N5 := Fr.app N0 N5q
  obtain ⟨M5, Y5, N5⟩ : ∃ M, Stand p l e ({ frames := 1, cells := 0, slots := 0, locals := 15 } : Room) s m #[(.ref o0), (.int (1 : Int32))] below meth c T5 M 0 0 ∧ Fr n0 M := ⟨_, X5, N5⟩
  have pre5 : Lead p e below G (T5.setTop (mkF m 22 #[.val (.ref o0), .val (.int (1 : Int32)), .unset, .unset] [(.int (if (1 : Int32) < (2 : Int32) then (1 : Int32) else (-1 : Int32))), (.ref tA)])) := fun t k => pre4 t (st5.trans k)
  have hr5 : (if (1 : Int32) < (2 : Int32) then (1 : Int32) else (-1 : Int32)) = (1 : Int32) := by decide
  have pre5b : Lead p e below G (T5.setTop (mkF m 22 #[.val (.ref o0), .val (.int (1 : Int32)), .unset, .unset] [(.int (1 : Int32)), (.ref tA)])) := by have q := pre5; rw [hr5] at q; exact q
  obtain ⟨cl6, Ar6, hin6, hat6⟩ := P7_V.in (j := (1 : Int32)) ⟨by decide, by decide⟩
  have st6 := Y5.laload hx (j := (1 : Int32)) (v := (.long (gT 1))) (by rw [e5]; exact Ar6.1) (State.isArrayOf_alike hZ.alike Ar6.2.1) Ar6.2.2 hin6 hat6 (g := (mkF m 22 #[.val (.ref o0), .val (.int (1 : Int32)), .unset, .unset] [(.int (1 : Int32)), (.ref tA)])) rfl rfl (hb hby d9_22)
  have pre6 : Lead p e below G (T5.setTop (mkF m 23 #[.val (.ref o0), .val (.int (1 : Int32)), .unset, .unset] [(.long (gT 1))])) := fun t k => pre5b t (st6 _ k)
  have pre7 : Lead p e below G (T5.setTop (mkF m 25 #[.val (.ref o0), .val (.int (1 : Int32)), .val (.long (gT 1)), .second] [(.ref o0)])) := fun t k => by
    refine pre6 t ?_
    show Steps p.tables e below (T5.setTop (mkF m 23 #[.val (.ref o0), .val (.int (1 : Int32)), .unset, .unset] [(.long (gT 1))])) _
    refine XS.lstoreN Y5.here hx rfl (hb hby d9_23) rfl (l' := #[.val (.ref o0), .val (.int (1 : Int32)), .val (.long (gT 1)), .second]) rfl ?_
    show Steps p.tables e below (T5.setTop (mkF m 24 #[.val (.ref o0), .val (.int (1 : Int32)), .val (.long (gT 1)), .second] [])) _
    refine XS.aloadN Y5.here hx rfl (hb hby d9_24) rfl rfl ?_
    show Steps p.tables e below (T5.setTop (mkF m 25 #[.val (.ref o0), .val (.int (1 : Int32)), .val (.long (gT 1)), .second] [(.ref o0)])) _
    exact k
  obtain ⟨T8, X8, e8, st8⟩ := getF Y5 hx hZ hown (host := "") (Or.inl (hw _ (List.mem_of_getElem? (i := 18) rfl))) Via.refl e5 P2_F (g := (mkF m 25 #[.val (.ref o0), .val (.int (1 : Int32)), .val (.long (gT 1)), .second] [(.ref o0)])) rfl rfl (hb hby d9_25)
  have pre8 : Lead p e below G (T8.setTop (mkF m 28 #[.val (.ref o0), .val (.int (1 : Int32)), .val (.long (gT 1)), .second] [(.ref tA)])) := fun t k => pre7 t (st8 _ k)
  have pre9 : Lead p e below G (T8.setTop (mkF m 30 #[.val (.ref o0), .val (.int (1 : Int32)), .val (.long (gT 1)), .second] [(.int (1 : Int32)), (.ref o0), (.ref tA)])) := fun t k => by
    refine pre8 t ?_
    show Steps p.tables e below (T8.setTop (mkF m 28 #[.val (.ref o0), .val (.int (1 : Int32)), .val (.long (gT 1)), .second] [(.ref tA)])) _
    refine XS.aloadN X8.here hx rfl (hb hby d9_28) rfl rfl ?_
    show Steps p.tables e below (T8.setTop (mkF m 29 #[.val (.ref o0), .val (.int (1 : Int32)), .val (.long (gT 1)), .second] [(.ref o0), (.ref tA)])) _
    refine XS.iloadN X8.here hx rfl (hb hby d9_29) rfl ?_
    show Steps p.tables e below (T8.setTop (mkF m 30 #[.val (.ref o0), .val (.int (1 : Int32)), .val (.long (gT 1)), .second] [(.int (1 : Int32)), (.ref o0), (.ref tA)])) _
    exact k
  obtain ⟨cq10, zq10, zq10'⟩ := P0_E.cell
  obtain ⟨_, _, ⟨T10, L10, k10, n10⟩, -, X10, ⟨Lc10, hQ10, l10, y10, z10⟩, st10⟩ := X8.privateBack hx (y := (⟨"com/example/lean_throttle/leanthrottle/TimeRing", "at", "(I)I"⟩ : MethodName)) hown (mvT hZ (hw _ (List.mem_of_getElem? (i := 33) rfl))) (mvT hZ (hw _ (List.mem_of_getElem? (i := 34) rfl))) (own_selp hZ (hw _ (List.mem_of_getElem? (i := 7) rfl)) (hw _ (List.mem_of_getElem? (i := 35) rfl)) (hw _ (List.mem_of_getElem? (i := 34) rfl)) (by decide)) (Cond.privateMethod_at (mvP hZ (hw _ (List.mem_of_getElem? (i := 35) rfl)) (args := #[]))) (mvT hZ (hw _ (List.mem_of_getElem? (i := 36) rfl))) (by decide) (backOf (W := 1) (rm6 l Z a0 hw [] o0 (1 : Int32) (1 : Int32) ta (2 : Int32) gt h0 n0 (Nat.le_trans Z0 K0.1) P3_F P1_F P6_V) hZ (hw _ (List.mem_of_getElem? (i := 36) rfl)) (hw _ (List.mem_of_getElem? (i := 8) rfl)) (by decide) (by decide)) (g := (mkF m 30 #[.val (.ref o0), .val (.int (1 : Int32)), .val (.long (gT 1)), .second] [(.int (1 : Int32)), (.ref o0), (.ref tA)])) rfl (by rw [hml]; rfl) (Steps.refl _) (a := o0) (by rw [e8]; exact zq10) zq10' (argsL := [(.int (1 : Int32))]) (rest := [(.ref tA)]) (lenOf pd__28_I_29_I rfl) rfl (by show 2 * 0 + _ ≤ _; exact Nat.le_of_eq rfl) (hb hby d9_30) (fun _ _ => ⟨rfl, e8, (by decide : 0 + 0 ≤ _), (by decide : 0 + 0 ≤ _)⟩)
  dsimp only [Pt.U, Pt.locs, Pt.cells, Pt.slots] at X10 l10 y10 z10 st10 hQ10
  subst l10 y10 z10
  obtain ⟨rfl, N10q, e10⟩ := hQ10
  have N10 := Fr.app N5 N10q
  obtain ⟨M10, Y10, N10⟩ : ∃ M, Stand p l e ({ frames := 1, cells := 0, slots := 0, locals := 15 } : Room) s m #[(.ref o0), (.int (1 : Int32))] below meth c T10 M 0 0 ∧ Fr n0 M := ⟨_, X10, N10⟩
  have pre10 : Lead p e below G (T10.setTop (mkF m 33 #[.val (.ref o0), .val (.int (1 : Int32)), .val (.long (gT 1)), .second] [(.int (if (2 : Int32) < (2 : Int32) then (2 : Int32) else (0 : Int32))), (.ref tA)])) := fun t k => pre9 t (st10.trans k)
  have hr10 : (if (2 : Int32) < (2 : Int32) then (2 : Int32) else (0 : Int32)) = (0 : Int32) := by decide
  have pre10b : Lead p e below G (T10.setTop (mkF m 33 #[.val (.ref o0), .val (.int (1 : Int32)), .val (.long (gT 1)), .second] [(.int (0 : Int32)), (.ref tA)])) := by have q := pre10; rw [hr10] at q; exact q
  obtain ⟨cl11, Ar11, hin11, hat11⟩ := P7_V.in (j := (0 : Int32)) ⟨by decide, by decide⟩
  have st11 := Y10.laload hx (j := (0 : Int32)) (v := (.long (gT 0))) (by rw [e10]; exact Ar11.1) (State.isArrayOf_alike hZ.alike Ar11.2.1) Ar11.2.2 hin11 hat11 (g := (mkF m 33 #[.val (.ref o0), .val (.int (1 : Int32)), .val (.long (gT 1)), .second] [(.int (0 : Int32)), (.ref tA)])) rfl rfl (hb hby d9_33)
  have pre11 : Lead p e below G (T10.setTop (mkF m 34 #[.val (.ref o0), .val (.int (1 : Int32)), .val (.long (gT 1)), .second] [(.long (gT 0))])) := fun t k => pre10b t (st11 _ k)
  obtain ⟨fs, hr, hrun, hended, hW, hsame⟩ := Y10.leave (v := some (.long ((gT 0) - (gT 1)))) (fun h => by rw [Bd.returns] at h; cases h)
  subst hG
  refine ⟨_, _, pre11 _ ?_, hrun, hended, _, _, rfl, ?_, ⟨_, rfl⟩, hW, hsame.mono (by decide) (by decide)⟩
  · show Steps p.tables e below (T10.setTop (mkF m 34 #[.val (.ref o0), .val (.int (1 : Int32)), .val (.long (gT 1)), .second] [(.long (gT 0))])) _
    refine XS.lloadN Y10.here hx rfl (hb hby d9_34) rfl ?_
    show Steps p.tables e below (T10.setTop (mkF m 35 #[.val (.ref o0), .val (.int (1 : Int32)), .val (.long (gT 1)), .second] [(.long (gT 1)), (.long (gT 0))])) _
    refine XS.lsub Y10.here hx rfl (hb hby d9_35) rfl ?_
    show Steps p.tables e below (T10.setTop (mkF m 36 #[.val (.ref o0), .val (.int (1 : Int32)), .val (.long (gT 1)), .second] [(.long ((gT 0) - (gT 1)))])) _
    exact retJ Y10 hx Bd.returns (hb hby d9_36) hr
  · show Q9_1_2_2_1 Z o0 ta tA bf gt gT h0 n0 _ T10.heap _
    rw [e10]
    have hv_ : ((gT 0) - (gT 1)) = F9_1_2_2_1 gT := by
      skip
      rfl
    exact ⟨congrArg (fun z => some (Value.long z)) hv_, N10, rfl⟩
theorem ef_10_1_2_2 (m : MethodId) (o0 : Addr) : entryFrame m #[(.ref o0)] 1 = mkF m 0 #[.val (.ref o0)] [] := by first | (simp [entryFrame, mkF, argsToLocals, Value.category]; done) | rfl
def Q10_1_2_2 (Z : State) (o0 : Addr) (ta : Addr) (tA : Addr) (bf : Int64) (gt : Nat → Int64) (gT : Nat → Int64) (h0 : Heap) (n0 : Nat) (v : Option Value) (h : Heap) (L : List Loc) : Prop := v = none ∧ Fr n0 L ∧ Keep h0 h [o0] ∧ Exa Z h o0 "com/example/lean_throttle/leanthrottle/TimeRing" ∧ Fld Z h o0 "com/example/lean_throttle/leanthrottle/TimeRing" "times" "[J" (.ref ta) ∧ Fld Z h o0 "com/example/lean_throttle/leanthrottle/TimeRing" "totals" "[J" (.ref tA) ∧ Fld Z h o0 "com/example/lean_throttle/leanthrottle/TimeRing" "first" "I" (.int (0 : Int32)) ∧ Fld Z h o0 "com/example/lean_throttle/leanthrottle/TimeRing" "size" "I" (.int (1 : Int32)) ∧ Fld Z h o0 "com/example/lean_throttle/leanthrottle/TimeRing" "totalBefore" "J" (.long (gT 1))
set_option maxRecDepth 65536 in
set_option maxHeartbeats 40000000 in
theorem rm10_1_2_2 (l : Launch) (Z : State) (a0 : Array Value) (hw : ∀ d ∈ tables_1, d.before a0 Z = true) (ws : List Jvm.Cond) (o0 : Addr) (ta : Addr) (tA : Addr) (bf : Int64) (gt : Nat → Int64) (gT : Nat → Int64) (h0 : Heap) (n0 : Nat) (Z0 : n0 ≤ h0.size) (P0_E : Exa Z h0 o0 "com/example/lean_throttle/leanthrottle/TimeRing") (P1_F : Fld Z h0 o0 "com/example/lean_throttle/leanthrottle/TimeRing" "times" "[J" (.ref ta)) (P2_F : Fld Z h0 o0 "com/example/lean_throttle/leanthrottle/TimeRing" "totals" "[J" (.ref tA)) (P3_F : Fld Z h0 o0 "com/example/lean_throttle/leanthrottle/TimeRing" "first" "I" (.int (1 : Int32))) (P4_F : Fld Z h0 o0 "com/example/lean_throttle/leanthrottle/TimeRing" "size" "I" (.int (2 : Int32))) (P5_F : Fld Z h0 o0 "com/example/lean_throttle/leanthrottle/TimeRing" "totalBefore" "J" (.long bf)) (P6_V : JV Value.long Z h0 ta .long (2 : Int32) gt) (P7_V : JV Value.long Z h0 tA .long (2 : Int32) gT) (P8_NE : o0 ≠ ta) (P9_NE : o0 ≠ tA) (P10_NE : ta ≠ tA) (P11_G : n0 ≤ o0) :
    MetFree l (⟨"com/example/lean_throttle/leanthrottle/TimeRing", "dropOldest", "()V"⟩ : MethodName) (head1 (Jvm.Cond.code (⟨"com/example/lean_throttle/leanthrottle/TimeRing", "dropOldest", "()V"⟩ : MethodName) prog_21_method_9_code 1 none :: ws) ({ frames := 1, cells := 0, slots := 0, locals := 15 } : Room)) (fun a U => a = #[(.ref o0)] ∧ Z.Warmed39 U.vm ∧ U.heap = h0) (fun _ _ _ _ _ => True) (fun _ U o U' => ∃ v L, o = .returned v ∧ Q10_1_2_2 Z o0 ta tA bf gt gT h0 n0 v U'.heap L ∧ FrameEnd U o U' L ({ frames := 1, cells := 0, slots := 0, locals := 15 } : Room).cells ({ frames := 1, cells := 0, slots := 0, locals := 15 } : Room).slots) := by
  refine MetFree.of_bodySF (plainFor_of_name pn_com_example_lean_throttle_leanthrottle_TimeRing) hisR ?_
  intro p e s m args below meth c s₁ Bd hml0 hP hK
  obtain ⟨rfl, hZ, hh⟩ := hP
  have hx := Bd.exec
  have hby := Bd.bytes
  have hml : c.maxLocals = 1 := hml0
  have hown : s.vm.findClass "com/example/lean_throttle/leanthrottle/TimeRing" = some m.cls := findClass_of_methodNamed Bd.named
  have hnm := (name_of_methodNamed Bd.named Bd.method).1
  have X0 : Stand p l e ({ frames := 1, cells := 0, slots := 0, locals := 15 } : Room) s m #[(.ref o0)] below meth c s₁ [] 0 0 := Stand.of_body Bd
  have e0 : s₁.heap = h0 := by rw [← hh, Bd.state]; rfl
  have N0 := Fr.nil n0
  have K0 : Keep h0 h0 [o0] := Keep.refl _ _
  obtain ⟨G, hG⟩ : ∃ z, z = s₁.setTop (entryFrame m #[(.ref o0)] 1) := ⟨_, rfl⟩
  have pre0 : Lead p e below G (s₁.setTop (mkF m 0 #[.val (.ref o0)] [])) := fun t k => by rw [hG]; exact castTop (ef_10_1_2_2 m o0) k
  have pre1 : Lead p e below G (s₁.setTop (mkF m 2 #[.val (.ref o0)] [(.ref o0), (.ref o0)])) := fun t k => by
    refine pre0 t ?_
    show Steps p.tables e below (s₁.setTop (mkF m 0 #[.val (.ref o0)] [])) _
    refine XS.aloadN X0.here hx rfl (hb hby d10_0) rfl rfl ?_
    show Steps p.tables e below (s₁.setTop (mkF m 1 #[.val (.ref o0)] [(.ref o0)])) _
    refine XS.aloadN X0.here hx rfl (hb hby d10_1) rfl rfl ?_
    show Steps p.tables e below (s₁.setTop (mkF m 2 #[.val (.ref o0)] [(.ref o0), (.ref o0)])) _
    exact k
  obtain ⟨T2, X2, e2, st2⟩ := getF X0 hx hZ hown (host := "") (Or.inl (hw _ (List.mem_of_getElem? (i := 18) rfl))) Via.refl e0 P2_F (g := (mkF m 2 #[.val (.ref o0)] [(.ref o0), (.ref o0)])) rfl rfl (hb hby d10_2)
  have pre2 : Lead p e below G (T2.setTop (mkF m 5 #[.val (.ref o0)] [(.ref tA), (.ref o0)])) := fun t k => pre1 t (st2 _ k)
  have pre3 : Lead p e below G (T2.setTop (mkF m 6 #[.val (.ref o0)] [(.ref o0), (.ref tA), (.ref o0)])) := fun t k => by
    refine pre2 t ?_
    show Steps p.tables e below (T2.setTop (mkF m 5 #[.val (.ref o0)] [(.ref tA), (.ref o0)])) _
    refine XS.aloadN X2.here hx rfl (hb hby d10_5) rfl rfl ?_
    show Steps p.tables e below (T2.setTop (mkF m 6 #[.val (.ref o0)] [(.ref o0), (.ref tA), (.ref o0)])) _
    exact k
  obtain ⟨T4, X4, e4, st4⟩ := getF X2 hx hZ hown (host := "") (Or.inl (hw _ (List.mem_of_getElem? (i := 37) rfl))) Via.refl e2 P3_F (g := (mkF m 6 #[.val (.ref o0)] [(.ref o0), (.ref tA), (.ref o0)])) rfl rfl (hb hby d10_6)
  have pre4 : Lead p e below G (T4.setTop (mkF m 9 #[.val (.ref o0)] [(.int (1 : Int32)), (.ref tA), (.ref o0)])) := fun t k => pre3 t (st4 _ k)
  obtain ⟨cl5, Ar5, hin5, hat5⟩ := P7_V.in (j := (1 : Int32)) ⟨by decide, by decide⟩
  have st5 := X4.laload hx (j := (1 : Int32)) (v := (.long (gT 1))) (by rw [e4]; exact Ar5.1) (State.isArrayOf_alike hZ.alike Ar5.2.1) Ar5.2.2 hin5 hat5 (g := (mkF m 9 #[.val (.ref o0)] [(.int (1 : Int32)), (.ref tA), (.ref o0)])) rfl rfl (hb hby d10_9)
  have pre5 : Lead p e below G (T4.setTop (mkF m 10 #[.val (.ref o0)] [(.long (gT 1)), (.ref o0)])) := fun t k => pre4 t (st5 _ k)
  obtain ⟨T6, h6, X6, e6, W6, st6⟩ := putF X4 hx hZ hown (host := "") (Or.inl (hw _ (List.mem_of_getElem? (i := 31) rfl))) Via.refl e4 P5_F P0_E (Or.inl (hw _ (List.mem_of_getElem? (i := 32) rfl))) (hw _ (List.mem_of_getElem? (i := 7) rfl)) (ty := .long) (by decide) rfl rfl (g := (mkF m 10 #[.val (.ref o0)] [(.long (gT 1)), (.ref o0)])) rfl rfl (hb hby d10_10)
  have N6 := Fr.snoc X6 N0 P11_G
  have K6 : Keep h0 h6 [o0] := K0.wr W6 (Or.inl (List.mem_of_getElem? (i := 0) rfl))
  obtain ⟨M6, Y6, N6⟩ : ∃ M, Stand p l e ({ frames := 1, cells := 0, slots := 0, locals := 15 } : Room) s m #[(.ref o0)] below meth c T6 M 0 0 ∧ Fr n0 M := ⟨_, X6, N6⟩
  have Fw6 : Fld Z h6 o0 "com/example/lean_throttle/leanthrottle/TimeRing" "totalBefore" "J" (.long (gT 1)) := P5_F.same W6
  have pre6 : Lead p e below G (T6.setTop (mkF m 13 #[.val (.ref o0)] [])) := fun t k => pre5 t (st6 _ k)
  have pre7 : Lead p e below G (T6.setTop (mkF m 16 #[.val (.ref o0)] [(.int (1 : Int32)), (.ref o0), (.ref o0)])) := fun t k => by
    refine pre6 t ?_
    show Steps p.tables e below (T6.setTop (mkF m 13 #[.val (.ref o0)] [])) _
    refine XS.aloadN Y6.here hx rfl (hb hby d10_13) rfl rfl ?_
    show Steps p.tables e below (T6.setTop (mkF m 14 #[.val (.ref o0)] [(.ref o0)])) _
    refine XS.aloadN Y6.here hx rfl (hb hby d10_14) rfl rfl ?_
    show Steps p.tables e below (T6.setTop (mkF m 15 #[.val (.ref o0)] [(.ref o0), (.ref o0)])) _
    refine XS.iconst Y6.here hx rfl (hb hby d10_15) ?_
    show Steps p.tables e below (T6.setTop (mkF m 16 #[.val (.ref o0)] [(.int (1 : Int32)), (.ref o0), (.ref o0)])) _
    exact k
  have f9 : Fld Z h6 o0 "com/example/lean_throttle/leanthrottle/TimeRing" "first" "I" (.int (1 : Int32)) := (P3_F.other W6 (Or.inr (slot_ne (Or.inl (hw _ (List.mem_of_getElem? (i := 38) rfl))) (Or.inl (hw _ (List.mem_of_getElem? (i := 32) rfl))) (by decide) (t := .int) (t' := .long) (by decide) (by decide))))
  have f10 : Fld Z h6 o0 "com/example/lean_throttle/leanthrottle/TimeRing" "times" "[J" (.ref ta) := (P1_F.other W6 (Or.inr (slot_ne (Or.inl (hw _ (List.mem_of_getElem? (i := 17) rfl))) (Or.inl (hw _ (List.mem_of_getElem? (i := 32) rfl))) (by decide) (t := (.array .long)) (t' := .long) (by decide) (by decide))))
  have f11 : JV Value.long Z h6 ta .long (2 : Int32) gt := (P6_V.other W6 (Ne.symm P8_NE))
  have f12 : Exa Z h6 o0 "com/example/lean_throttle/leanthrottle/TimeRing" := (P0_E.wr W6)
  obtain ⟨cq8, zq8, zq8'⟩ := f12.cell
  obtain ⟨_, _, ⟨T8, L8, k8, n8⟩, -, X8, ⟨Lc8, hQ8, l8, y8, z8⟩, st8⟩ := Y6.privateBack hx (y := (⟨"com/example/lean_throttle/leanthrottle/TimeRing", "at", "(I)I"⟩ : MethodName)) hown (mvT hZ (hw _ (List.mem_of_getElem? (i := 33) rfl))) (mvT hZ (hw _ (List.mem_of_getElem? (i := 34) rfl))) (own_selp hZ (hw _ (List.mem_of_getElem? (i := 7) rfl)) (hw _ (List.mem_of_getElem? (i := 35) rfl)) (hw _ (List.mem_of_getElem? (i := 34) rfl)) (by decide)) (Cond.privateMethod_at (mvP hZ (hw _ (List.mem_of_getElem? (i := 35) rfl)) (args := #[]))) (mvT hZ (hw _ (List.mem_of_getElem? (i := 36) rfl))) (by decide) (backOf (W := 1) (rm6 l Z a0 hw [] o0 (1 : Int32) (1 : Int32) ta (2 : Int32) gt h6 n0 (Nat.le_trans Z0 K6.1) f9 f10 f11) hZ (hw _ (List.mem_of_getElem? (i := 36) rfl)) (hw _ (List.mem_of_getElem? (i := 8) rfl)) (by decide) (by decide)) (g := (mkF m 16 #[.val (.ref o0)] [(.int (1 : Int32)), (.ref o0), (.ref o0)])) rfl (by rw [hml]; rfl) (Steps.refl _) (a := o0) (by rw [e6]; exact zq8) zq8' (argsL := [(.int (1 : Int32))]) (rest := [(.ref o0)]) (lenOf pd__28_I_29_I rfl) rfl (by show 2 * 0 + _ ≤ _; exact Nat.le_of_eq rfl) (hb hby d10_16) (fun _ _ => ⟨rfl, e6, (by decide : 0 + 0 ≤ _), (by decide : 0 + 0 ≤ _)⟩)
  dsimp only [Pt.U, Pt.locs, Pt.cells, Pt.slots] at X8 l8 y8 z8 st8 hQ8
  subst l8 y8 z8
  obtain ⟨rfl, N8q, e8⟩ := hQ8
  have N8 := Fr.app N6 N8q
  obtain ⟨M8, Y8, N8⟩ : ∃ M, Stand p l e ({ frames := 1, cells := 0, slots := 0, locals := 15 } : Room) s m #[(.ref o0)] below meth c T8 M 0 0 ∧ Fr n0 M := ⟨_, X8, N8⟩
  have pre8 : Lead p e below G (T8.setTop (mkF m 19 #[.val (.ref o0)] [(.int (if (2 : Int32) < (2 : Int32) then (2 : Int32) else (0 : Int32))), (.ref o0)])) := fun t k => pre7 t (st8.trans k)
  have hr8 : (if (2 : Int32) < (2 : Int32) then (2 : Int32) else (0 : Int32)) = (0 : Int32) := by decide
  have pre8b : Lead p e below G (T8.setTop (mkF m 19 #[.val (.ref o0)] [(.int (0 : Int32)), (.ref o0)])) := by have q := pre8; rw [hr8] at q; exact q
  obtain ⟨T13, h13, X13, e13, W13, st13⟩ := putF Y8 hx hZ hown (host := "") (Or.inl (hw _ (List.mem_of_getElem? (i := 37) rfl))) Via.refl e8 f9 f12 (Or.inl (hw _ (List.mem_of_getElem? (i := 38) rfl))) (hw _ (List.mem_of_getElem? (i := 7) rfl)) (ty := .int) (by decide) rfl rfl (g := (mkF m 19 #[.val (.ref o0)] [(.int (0 : Int32)), (.ref o0)])) rfl rfl (hb hby d10_19)
  have N13 := Fr.snoc X13 N8 P11_G
  have K13 : Keep h0 h13 [o0] := K6.wr W13 (Or.inl (List.mem_of_getElem? (i := 0) rfl))
  obtain ⟨M13, Y13, N13⟩ : ∃ M, Stand p l e ({ frames := 1, cells := 0, slots := 0, locals := 15 } : Room) s m #[(.ref o0)] below meth c T13 M 0 0 ∧ Fr n0 M := ⟨_, X13, N13⟩
  have Fw13 : Fld Z h13 o0 "com/example/lean_throttle/leanthrottle/TimeRing" "first" "I" (.int (0 : Int32)) := f9.same W13
  have pre13 : Lead p e below G (T13.setTop (mkF m 22 #[.val (.ref o0)] [])) := fun t k => pre8b t (st13 _ k)
  have pre14 : Lead p e below G (T13.setTop (mkF m 24 #[.val (.ref o0)] [(.ref o0), (.ref o0)])) := fun t k => by
    refine pre13 t ?_
    show Steps p.tables e below (T13.setTop (mkF m 22 #[.val (.ref o0)] [])) _
    refine XS.aloadN Y13.here hx rfl (hb hby d10_22) rfl rfl ?_
    show Steps p.tables e below (T13.setTop (mkF m 23 #[.val (.ref o0)] [(.ref o0)])) _
    refine XS.dup Y13.here hx rfl (hb hby d10_23) rfl rfl ?_
    show Steps p.tables e below (T13.setTop (mkF m 24 #[.val (.ref o0)] [(.ref o0), (.ref o0)])) _
    exact k
  have f16 : Fld Z h13 o0 "com/example/lean_throttle/leanthrottle/TimeRing" "size" "I" (.int (2 : Int32)) := ((P4_F.other W6 (Or.inr (slot_ne (Or.inl (hw _ (List.mem_of_getElem? (i := 30) rfl))) (Or.inl (hw _ (List.mem_of_getElem? (i := 32) rfl))) (by decide) (t := .int) (t' := .long) (by decide) (by decide)))).other W13 (Or.inr (slot_ne (Or.inl (hw _ (List.mem_of_getElem? (i := 30) rfl))) (Or.inl (hw _ (List.mem_of_getElem? (i := 38) rfl))) (by decide) (t := .int) (t' := .int) (by decide) (by decide))))
  obtain ⟨T15, X15, e15, st15⟩ := getF Y13 hx hZ hown (host := "") (Or.inl (hw _ (List.mem_of_getElem? (i := 29) rfl))) Via.refl e13 f16 (g := (mkF m 24 #[.val (.ref o0)] [(.ref o0), (.ref o0)])) rfl rfl (hb hby d10_24)
  have pre15 : Lead p e below G (T15.setTop (mkF m 27 #[.val (.ref o0)] [(.int (2 : Int32)), (.ref o0)])) := fun t k => pre14 t (st15 _ k)
  have pre17 : Lead p e below G (T15.setTop (mkF m 29 #[.val (.ref o0)] [(.int (1 : Int32)), (.ref o0)])) := fun t k => by
    refine pre15 t ?_
    show Steps p.tables e below (T15.setTop (mkF m 27 #[.val (.ref o0)] [(.int (2 : Int32)), (.ref o0)])) _
    refine XS.iconst X15.here hx rfl (hb hby d10_27) ?_
    show Steps p.tables e below (T15.setTop (mkF m 28 #[.val (.ref o0)] [(.int (1 : Int32)), (.int (2 : Int32)), (.ref o0)])) _
    refine XS.isub X15.here hx rfl (hb hby d10_28) rfl ?_
    show Steps p.tables e below (T15.setTop (mkF m 29 #[.val (.ref o0)] [(.int (1 : Int32)), (.ref o0)])) _
    exact k
  have f19 : Exa Z h13 o0 "com/example/lean_throttle/leanthrottle/TimeRing" := (f12.wr W13)
  obtain ⟨T18, h18, X18, e18, W18, st18⟩ := putF X15 hx hZ hown (host := "") (Or.inl (hw _ (List.mem_of_getElem? (i := 29) rfl))) Via.refl e15 f16 f19 (Or.inl (hw _ (List.mem_of_getElem? (i := 30) rfl))) (hw _ (List.mem_of_getElem? (i := 7) rfl)) (ty := .int) (by decide) rfl rfl (g := (mkF m 29 #[.val (.ref o0)] [(.int (1 : Int32)), (.ref o0)])) rfl rfl (hb hby d10_29)
  have N18 := Fr.snoc X18 N13 P11_G
  have K18 : Keep h0 h18 [o0] := K13.wr W18 (Or.inl (List.mem_of_getElem? (i := 0) rfl))
  obtain ⟨M18, Y18, N18⟩ : ∃ M, Stand p l e ({ frames := 1, cells := 0, slots := 0, locals := 15 } : Room) s m #[(.ref o0)] below meth c T18 M 0 0 ∧ Fr n0 M := ⟨_, X18, N18⟩
  have Fw18 : Fld Z h18 o0 "com/example/lean_throttle/leanthrottle/TimeRing" "size" "I" (.int (1 : Int32)) := f16.same W18
  have pre18 : Lead p e below G (T18.setTop (mkF m 32 #[.val (.ref o0)] [])) := fun t k => pre17 t (st18 _ k)
  obtain ⟨fs, hr, hrun, hended, hW, hsame⟩ := Y18.leave (v := none) (fun _ => rfl)
  subst hG
  refine ⟨_, _, pre18 _ ?_, hrun, hended, _, _, rfl, ?_, ⟨_, rfl⟩, hW, hsame.mono (by decide) (by decide)⟩
  · show Steps p.tables e below (T18.setTop (mkF m 32 #[.val (.ref o0)] [])) _
    exact Y18.returnOut hx Bd.returns (hb hby d10_32) hr
  · show Q10_1_2_2 Z o0 ta tA bf gt gT h0 n0 _ T18.heap _
    rw [e18]
    have f20 : Exa Z h18 o0 "com/example/lean_throttle/leanthrottle/TimeRing" := (f19.wr W18)
    have f21 : Fld Z h18 o0 "com/example/lean_throttle/leanthrottle/TimeRing" "times" "[J" (.ref ta) := ((f10.other W13 (Or.inr (slot_ne (Or.inl (hw _ (List.mem_of_getElem? (i := 17) rfl))) (Or.inl (hw _ (List.mem_of_getElem? (i := 38) rfl))) (by decide) (t := (.array .long)) (t' := .int) (by decide) (by decide)))).other W18 (Or.inr (slot_ne (Or.inl (hw _ (List.mem_of_getElem? (i := 17) rfl))) (Or.inl (hw _ (List.mem_of_getElem? (i := 30) rfl))) (by decide) (t := (.array .long)) (t' := .int) (by decide) (by decide))))
    have f22 : Fld Z h18 o0 "com/example/lean_throttle/leanthrottle/TimeRing" "totals" "[J" (.ref tA) := (((P2_F.other W6 (Or.inr (slot_ne (Or.inl (hw _ (List.mem_of_getElem? (i := 19) rfl))) (Or.inl (hw _ (List.mem_of_getElem? (i := 32) rfl))) (by decide) (t := (.array .long)) (t' := .long) (by decide) (by decide)))).other W13 (Or.inr (slot_ne (Or.inl (hw _ (List.mem_of_getElem? (i := 19) rfl))) (Or.inl (hw _ (List.mem_of_getElem? (i := 38) rfl))) (by decide) (t := (.array .long)) (t' := .int) (by decide) (by decide)))).other W18 (Or.inr (slot_ne (Or.inl (hw _ (List.mem_of_getElem? (i := 19) rfl))) (Or.inl (hw _ (List.mem_of_getElem? (i := 30) rfl))) (by decide) (t := (.array .long)) (t' := .int) (by decide) (by decide))))
    have f23 : Fld Z h18 o0 "com/example/lean_throttle/leanthrottle/TimeRing" "first" "I" (.int (0 : Int32)) := (Fw13.other W18 (Or.inr (slot_ne (Or.inl (hw _ (List.mem_of_getElem? (i := 38) rfl))) (Or.inl (hw _ (List.mem_of_getElem? (i := 30) rfl))) (by decide) (t := .int) (t' := .int) (by decide) (by decide))))
    have f24 : Fld Z h18 o0 "com/example/lean_throttle/leanthrottle/TimeRing" "totalBefore" "J" (.long (gT 1)) := ((Fw6.other W13 (Or.inr (slot_ne (Or.inl (hw _ (List.mem_of_getElem? (i := 32) rfl))) (Or.inl (hw _ (List.mem_of_getElem? (i := 38) rfl))) (by decide) (t := .long) (t' := .int) (by decide) (by decide)))).other W18 (Or.inr (slot_ne (Or.inl (hw _ (List.mem_of_getElem? (i := 32) rfl))) (Or.inl (hw _ (List.mem_of_getElem? (i := 30) rfl))) (by decide) (t := .long) (t' := .int) (by decide) (by decide))))
    exact ⟨rfl, N18, K18, f20, f21, f22, f23, Fw18, f24⟩
def F9_0_1_2_0 (bf : Int64) (gT : Nat → Int64) : Int64 := ((gT 0) - bf)
theorem ef_9_0_1_2_0 (m : MethodId) (o0 : Addr) : entryFrame m #[(.ref o0), (.int (0 : Int32))] 4 = mkF m 0 #[.val (.ref o0), .val (.int (0 : Int32)), .unset, .unset] [] := by first | (simp [entryFrame, mkF, argsToLocals, Value.category]; done) | rfl
def Q9_0_1_2_0 (Z : State) (o0 : Addr) (ta : Addr) (tA : Addr) (bf : Int64) (gt : Nat → Int64) (gT : Nat → Int64) (h0 : Heap) (n0 : Nat) (v : Option Value) (h : Heap) (L : List Loc) : Prop := v = some (.long ((gT 0) - bf)) ∧ Fr n0 L ∧ h = h0
set_option maxRecDepth 65536 in
set_option maxHeartbeats 40000000 in
theorem rm9_0_1_2_0 (l : Launch) (Z : State) (a0 : Array Value) (hw : ∀ d ∈ tables_1, d.before a0 Z = true) (ws : List Jvm.Cond) (o0 : Addr) (ta : Addr) (tA : Addr) (bf : Int64) (gt : Nat → Int64) (gT : Nat → Int64) (h0 : Heap) (n0 : Nat) (Z0 : n0 ≤ h0.size) (P0_E : Exa Z h0 o0 "com/example/lean_throttle/leanthrottle/TimeRing") (P1_F : Fld Z h0 o0 "com/example/lean_throttle/leanthrottle/TimeRing" "times" "[J" (.ref ta)) (P2_F : Fld Z h0 o0 "com/example/lean_throttle/leanthrottle/TimeRing" "totals" "[J" (.ref tA)) (P3_F : Fld Z h0 o0 "com/example/lean_throttle/leanthrottle/TimeRing" "first" "I" (.int (0 : Int32))) (P4_F : Fld Z h0 o0 "com/example/lean_throttle/leanthrottle/TimeRing" "size" "I" (.int (1 : Int32))) (P5_F : Fld Z h0 o0 "com/example/lean_throttle/leanthrottle/TimeRing" "totalBefore" "J" (.long bf)) (P6_V : JV Value.long Z h0 ta .long (2 : Int32) gt) (P7_V : JV Value.long Z h0 tA .long (2 : Int32) gT) (P8_NE : o0 ≠ ta) (P9_NE : o0 ≠ tA) (P10_NE : ta ≠ tA) :
    MetFree l (⟨"com/example/lean_throttle/leanthrottle/TimeRing", "unitsOf", "(I)J"⟩ : MethodName) (head1 (Jvm.Cond.code (⟨"com/example/lean_throttle/leanthrottle/TimeRing", "unitsOf", "(I)J"⟩ : MethodName) prog_21_method_7_code 4 (some .long) :: ws) ({ frames := 1, cells := 0, slots := 0, locals := 15 } : Room)) (fun a U => a = #[(.ref o0), (.int (0 : Int32))] ∧ Z.Warmed39 U.vm ∧ U.heap = h0) (fun _ _ _ _ _ => True) (fun _ U o U' => ∃ v L, o = .returned v ∧ Q9_0_1_2_0 Z o0 ta tA bf gt gT h0 n0 v U'.heap L ∧ FrameEnd U o U' L ({ frames := 1, cells := 0, slots := 0, locals := 15 } : Room).cells ({ frames := 1, cells := 0, slots := 0, locals := 15 } : Room).slots) := by
  refine MetFree.of_bodySF (plainFor_of_name pn_com_example_lean_throttle_leanthrottle_TimeRing) hisR ?_
  intro p e s m args below meth c s₁ Bd hml0 hP hK
  obtain ⟨rfl, hZ, hh⟩ := hP
  have hx := Bd.exec
  have hby := Bd.bytes
  have hml : c.maxLocals = 4 := hml0
  have hown : s.vm.findClass "com/example/lean_throttle/leanthrottle/TimeRing" = some m.cls := findClass_of_methodNamed Bd.named
  have hnm := (name_of_methodNamed Bd.named Bd.method).1
  have X0 : Stand p l e ({ frames := 1, cells := 0, slots := 0, locals := 15 } : Room) s m #[(.ref o0), (.int (0 : Int32))] below meth c s₁ [] 0 0 := Stand.of_body Bd
  have e0 : s₁.heap = h0 := by rw [← hh, Bd.state]; rfl
  have N0 := Fr.nil n0
  have K0 : Keep h0 h0 [] := Keep.refl _ _
  obtain ⟨G, hG⟩ : ∃ z, z = s₁.setTop (entryFrame m #[(.ref o0), (.int (0 : Int32))] 4) := ⟨_, rfl⟩
  have pre0 : Lead p e below G (s₁.setTop (mkF m 0 #[.val (.ref o0), .val (.int (0 : Int32)), .unset, .unset] [])) := fun t k => by rw [hG]; exact castTop (ef_9_0_1_2_0 m o0) k
  have hf1 : (0 : Int32) = (0 : Int32) := (by decide)
  have pre2 : Lead p e below G (s₁.setTop (mkF m 5 #[.val (.ref o0), .val (.int (0 : Int32)), .unset, .unset] [(.ref o0)])) := fun t k => by
    refine pre0 t ?_
    show Steps p.tables e below (s₁.setTop (mkF m 0 #[.val (.ref o0), .val (.int (0 : Int32)), .unset, .unset] [])) _
    refine XS.iloadN X0.here hx rfl (hb hby d9_0) rfl ?_
    show Steps p.tables e below (s₁.setTop (mkF m 1 #[.val (.ref o0), .val (.int (0 : Int32)), .unset, .unset] [(.int (0 : Int32))])) _
    refine XS.ifNo X0.here hx rfl (hb hby d9_1) rfl ((if0 _ _).trans (teq hf1).2) ?_
    show Steps p.tables e below (s₁.setTop (mkF m 4 #[.val (.ref o0), .val (.int (0 : Int32)), .unset, .unset] [])) _
    refine XS.aloadN X0.here hx rfl (hb hby d9_4) rfl rfl ?_
    show Steps p.tables e below (s₁.setTop (mkF m 5 #[.val (.ref o0), .val (.int (0 : Int32)), .unset, .unset] [(.ref o0)])) _
    exact k
  obtain ⟨T3, X3, e3, st3⟩ := getF X0 hx hZ hown (host := "") (Or.inl (hw _ (List.mem_of_getElem? (i := 31) rfl))) Via.refl e0 P5_F (g := (mkF m 5 #[.val (.ref o0), .val (.int (0 : Int32)), .unset, .unset] [(.ref o0)])) rfl rfl (hb hby d9_5)
  have pre3 : Lead p e below G (T3.setTop (mkF m 8 #[.val (.ref o0), .val (.int (0 : Int32)), .unset, .unset] [(.long bf)])) := fun t k => pre2 t (st3 _ k)
  have pre4 : Lead p e below G (T3.setTop (mkF m 25 #[.val (.ref o0), .val (.int (0 : Int32)), .val (.long bf), .second] [(.ref o0)])) := fun t k => by
    refine pre3 t ?_
    show Steps p.tables e below (T3.setTop (mkF m 8 #[.val (.ref o0), .val (.int (0 : Int32)), .unset, .unset] [(.long bf)])) _
    refine XS.goto X3.here hx rfl (pc0 := 8) (pc' := 23) rfl (hb hby d9_8) (by decide) (by decide) ?_
    show Steps p.tables e below (T3.setTop (mkF m 23 #[.val (.ref o0), .val (.int (0 : Int32)), .unset, .unset] [(.long bf)])) _
    refine XS.lstoreN X3.here hx rfl (hb hby d9_23) rfl (l' := #[.val (.ref o0), .val (.int (0 : Int32)), .val (.long bf), .second]) rfl ?_
    show Steps p.tables e below (T3.setTop (mkF m 24 #[.val (.ref o0), .val (.int (0 : Int32)), .val (.long bf), .second] [])) _
    refine XS.aloadN X3.here hx rfl (hb hby d9_24) rfl rfl ?_
    show Steps p.tables e below (T3.setTop (mkF m 25 #[.val (.ref o0), .val (.int (0 : Int32)), .val (.long bf), .second] [(.ref o0)])) _
    exact k
  obtain ⟨T5, X5, e5, st5⟩ := getF X3 hx hZ hown (host := "") (Or.inl (hw _ (List.mem_of_getElem? (i := 18) rfl))) Via.refl e3 P2_F (g := (mkF m 25 #[.val (.ref o0), .val (.int (0 : Int32)), .val (.long bf), .second] [(.ref o0)])) rfl rfl (hb hby d9_25)
  have pre5 : Lead p e below G (T5.setTop (mkF m 28 #[.val (.ref o0), .val (.int (0 : Int32)), .val (.long bf), .second] [(.ref tA)])) := fun t k => pre4 t (st5 _ k)
  have pre6 : Lead p e below G (T5.setTop (mkF m 30 #[.val (.ref o0), .val (.int (0 : Int32)), .val (.long bf), .second] [(.int (0 : Int32)), (.ref o0), (.ref tA)])) := fun t k => by
    refine pre5 t ?_
    show Steps p.tables e below (T5.setTop (mkF m 28 #[.val (.ref o0), .val (.int (0 : Int32)), .val (.long bf), .second] [(.ref tA)])) _
    refine XS.aloadN X5.here hx rfl (hb hby d9_28) rfl rfl ?_
    show Steps p.tables e below (T5.setTop (mkF m 29 #[.val (.ref o0), .val (.int (0 : Int32)), .val (.long bf), .second] [(.ref o0), (.ref tA)])) _
    refine XS.iloadN X5.here hx rfl (hb hby d9_29) rfl ?_
    show Steps p.tables e below (T5.setTop (mkF m 30 #[.val (.ref o0), .val (.int (0 : Int32)), .val (.long bf), .second] [(.int (0 : Int32)), (.ref o0), (.ref tA)])) _
    exact k
  obtain ⟨cq7, zq7, zq7'⟩ := P0_E.cell
  obtain ⟨_, _, ⟨T7, L7, k7, n7⟩, -, X7, ⟨Lc7, hQ7, l7, y7, z7⟩, st7⟩ := X5.privateBack hx (y := (⟨"com/example/lean_throttle/leanthrottle/TimeRing", "at", "(I)I"⟩ : MethodName)) hown (mvT hZ (hw _ (List.mem_of_getElem? (i := 33) rfl))) (mvT hZ (hw _ (List.mem_of_getElem? (i := 34) rfl))) (own_selp hZ (hw _ (List.mem_of_getElem? (i := 7) rfl)) (hw _ (List.mem_of_getElem? (i := 35) rfl)) (hw _ (List.mem_of_getElem? (i := 34) rfl)) (by decide)) (Cond.privateMethod_at (mvP hZ (hw _ (List.mem_of_getElem? (i := 35) rfl)) (args := #[]))) (mvT hZ (hw _ (List.mem_of_getElem? (i := 36) rfl))) (by decide) (backOf (W := 1) (rm6 l Z a0 hw [] o0 (0 : Int32) (0 : Int32) ta (2 : Int32) gt h0 n0 (Nat.le_trans Z0 K0.1) P3_F P1_F P6_V) hZ (hw _ (List.mem_of_getElem? (i := 36) rfl)) (hw _ (List.mem_of_getElem? (i := 8) rfl)) (by decide) (by decide)) (g := (mkF m 30 #[.val (.ref o0), .val (.int (0 : Int32)), .val (.long bf), .second] [(.int (0 : Int32)), (.ref o0), (.ref tA)])) rfl (by rw [hml]; rfl) (Steps.refl _) (a := o0) (by rw [e5]; exact zq7) zq7' (argsL := [(.int (0 : Int32))]) (rest := [(.ref tA)]) (lenOf pd__28_I_29_I rfl) rfl (by show 2 * 0 + _ ≤ _; exact Nat.le_of_eq rfl) (hb hby d9_30) (fun _ _ => ⟨rfl, e5, (by decide : 0 + 0 ≤ _), (by decide : 0 + 0 ≤ _)⟩)
  dsimp only [Pt.U, Pt.locs, Pt.cells, Pt.slots] at X7 l7 y7 z7 st7 hQ7
  subst l7 y7 z7
  obtain ⟨rfl, N7q, e7⟩ := hQ7
  have N7 := Fr.app N0 N7q
  obtain ⟨M7, Y7, N7⟩ : ∃ M, Stand p l e ({ frames := 1, cells := 0, slots := 0, locals := 15 } : Room) s m #[(.ref o0), (.int (0 : Int32))] below meth c T7 M 0 0 ∧ Fr n0 M := ⟨_, X7, N7⟩
  have pre7 : Lead p e below G (T7.setTop (mkF m 33 #[.val (.ref o0), .val (.int (0 : Int32)), .val (.long bf), .second] [(.int (if (0 : Int32) < (2 : Int32) then (0 : Int32) else (-2 : Int32))), (.ref tA)])) := fun t k => pre6 t (st7.trans k)
  have hr7 : (if (0 : Int32) < (2 : Int32) then (0 : Int32) else (-2 : Int32)) = (0 : Int32) := by decide
  have pre7b : Lead p e below G (T7.setTop (mkF m 33 #[.val (.ref o0), .val (.int (0 : Int32)), .val (.long bf), .second] [(.int (0 : Int32)), (.ref tA)])) := by have q := pre7; rw [hr7] at q; exact q
  obtain ⟨cl8, Ar8, hin8, hat8⟩ := P7_V.in (j := (0 : Int32)) ⟨by decide, by decide⟩
  have st8 := Y7.laload hx (j := (0 : Int32)) (v := (.long (gT 0))) (by rw [e7]; exact Ar8.1) (State.isArrayOf_alike hZ.alike Ar8.2.1) Ar8.2.2 hin8 hat8 (g := (mkF m 33 #[.val (.ref o0), .val (.int (0 : Int32)), .val (.long bf), .second] [(.int (0 : Int32)), (.ref tA)])) rfl rfl (hb hby d9_33)
  have pre8 : Lead p e below G (T7.setTop (mkF m 34 #[.val (.ref o0), .val (.int (0 : Int32)), .val (.long bf), .second] [(.long (gT 0))])) := fun t k => pre7b t (st8 _ k)
  obtain ⟨fs, hr, hrun, hended, hW, hsame⟩ := Y7.leave (v := some (.long ((gT 0) - bf))) (fun h => by rw [Bd.returns] at h; cases h)
  subst hG
  refine ⟨_, _, pre8 _ ?_, hrun, hended, _, _, rfl, ?_, ⟨_, rfl⟩, hW, hsame.mono (by decide) (by decide)⟩
  · show Steps p.tables e below (T7.setTop (mkF m 34 #[.val (.ref o0), .val (.int (0 : Int32)), .val (.long bf), .second] [(.long (gT 0))])) _
    refine XS.lloadN Y7.here hx rfl (hb hby d9_34) rfl ?_
    show Steps p.tables e below (T7.setTop (mkF m 35 #[.val (.ref o0), .val (.int (0 : Int32)), .val (.long bf), .second] [(.long bf), (.long (gT 0))])) _
    refine XS.lsub Y7.here hx rfl (hb hby d9_35) rfl ?_
    show Steps p.tables e below (T7.setTop (mkF m 36 #[.val (.ref o0), .val (.int (0 : Int32)), .val (.long bf), .second] [(.long ((gT 0) - bf))])) _
    exact retJ Y7 hx Bd.returns (hb hby d9_36) hr
  · show Q9_0_1_2_0 Z o0 ta tA bf gt gT h0 n0 _ T7.heap _
    rw [e7]
    have hv_ : ((gT 0) - bf) = F9_0_1_2_0 bf gT := by
      skip
      rfl
    exact ⟨congrArg (fun z => some (Value.long z)) hv_, N7, rfl⟩
def F0 (q0 : Int64) (q1 : Int64) (q2 : Int64) (q3 : Int64) (p4 : Int32) : Int32 := let v4 : Int64 := (if (1 : Int64) < (q0 &&& (9223372036854775807 : Int64)) then (q0 &&& (9223372036854775807 : Int64)) else (1 : Int64)); let v8 : Int64 := (if (1 : Int64) < (q1 &&& (9223372036854775807 : Int64)) then (q1 &&& (9223372036854775807 : Int64)) else (1 : Int64)); let v12 : Int64 := (if (1 : Int64) < (q2 &&& (9223372036854775807 : Int64)) then (q2 &&& (9223372036854775807 : Int64)) else (1 : Int64)); let v14 : Int32 := ((p4 &&& (2147483647 : Int32)) - ((p4 &&& (2147483647 : Int32)) / (3 : Int32)) * (3 : Int32)); if v14 = (0 : Int32) then (if (((0 : Int64) + v4) - (0 : Int64)) = v4 then (let v34 : Int32 := (if ((((0 : Int64) + v4) + v8) - ((0 : Int64) + v4)) = v8 then (1 : Int32) else (0 : Int32)); (nar .boolean v34)) else ((nar .boolean (0 : Int32)))) else (if v14 = (1 : Int32) then (if ((((0 : Int64) + v4) + v8) - ((0 : Int64) + v4)) = v8 then (let v53 : Int32 := (if (((((0 : Int64) + v4) + v8) + v12) - (((0 : Int64) + v4) + v8)) = v12 then (1 : Int32) else (0 : Int32)); (nar .boolean v53)) else ((nar .boolean (0 : Int32)))) else (let v63 : Int32 := (if (((((0 : Int64) + v4) + v8) + v12) - (((0 : Int64) + v4) + v8)) = v12 then (1 : Int32) else (0 : Int32)); (nar .boolean v63)))
theorem own_max (x : Int32) : (x &&& (2147483647 : Int32)).toInt = x.toInt % 2 ^ 31 := Jvm.Kit.i32_mask x _ (k := 31) (by decide) (by decide)
theorem own_rem (a k : Int32) (ha : 0 ≤ a.toInt) (hk : 0 < k.toInt) : (a - a / k * k).toInt = a.toInt % k.toInt := by
  have b1 := Int32.le_toInt a; have b2 := Int32.toInt_lt a
  have d : (a / k).toInt = a.toInt / k.toInt := by rw [Jvm.Kit.i32_div (by omega), Int.tdiv_eq_ediv_of_nonneg ha]
  have q0 : 0 ≤ a.toInt / k.toInt := Int.ediv_nonneg ha (by omega)
  have q1 : a.toInt / k.toInt * k.toInt ≤ a.toInt := Int.ediv_mul_le _ (by omega)
  have q2 : 0 ≤ a.toInt / k.toInt * k.toInt := Int.mul_nonneg q0 (by omega)
  have m : (a / k * k).toInt = a.toInt / k.toInt * k.toInt := by rw [Jvm.Kit.i32_mul, d] <;> rw [d] <;> omega
  rw [Jvm.Kit.i32_sub (by omega) (by omega), m, Int.emod_def, Int.mul_comm]
theorem own_nar0 : nar .boolean (0 : Int32) = 0 := by decide
theorem own_nar1 : nar .boolean (1 : Int32) = 1 := by decide
theorem own_nat {a : Int32} {k : Nat} (h : a.toInt ≤ k) : a.toNatClampNeg ≤ k := by
  show a.toInt.toNat ≤ k
  omega
theorem own_c (a b : Int64) : (a + b) - a = b := by rw [Int64.add_comm, Int64.add_sub_cancel]
theorem own_law (q0 q1 q2 q3 : Int64) (p4 : Int32) : F0 q0 q1 q2 q3 p4 = 1 := by
  unfold F0
  dsimp only
  generalize (if (1 : Int64) < (q0 &&& (9223372036854775807 : Int64)) then (q0 &&& (9223372036854775807 : Int64)) else (1 : Int64)) = a
  generalize (if (1 : Int64) < (q1 &&& (9223372036854775807 : Int64)) then (q1 &&& (9223372036854775807 : Int64)) else (1 : Int64)) = b
  generalize (if (1 : Int64) < (q2 &&& (9223372036854775807 : Int64)) then (q2 &&& (9223372036854775807 : Int64)) else (1 : Int64)) = c
  generalize ((p4 &&& (2147483647 : Int32)) - ((p4 &&& (2147483647 : Int32)) / (3 : Int32)) * (3 : Int32)) = k
  simp only [Int64.zero_add, Int64.sub_zero, own_c, if_true, own_nar1]
  by_cases h : k = 0
  · rw [if_pos h]
  · rw [if_neg h]
    by_cases h1 : k = 1
    · rw [if_pos h1]
    · rw [if_neg h1]

theorem pn_com_example_lean_throttle_leanthrottle_TimeRingUnitsOfPinLaw : plainName "com/example/lean_throttle/leanthrottle/TimeRingUnitsOfPinLaw" = true := by first | (simp [plainName, overriddenIn]; done) | decide +kernel
theorem ef_0 (m : MethodId) (q0 : Int64) (q1 : Int64) (q2 : Int64) (q3 : Int64) (p4 : Int32) : entryFrame m #[(.long q0), (.long q1), (.long q2), (.long q3), (.int p4)] maxLocals = mkF m 0 #[.val (.long q0), .second, .val (.long q1), .second, .val (.long q2), .second, .val (.long q3), .second, .val (.int p4), .unset, .unset, .unset, .unset, .unset, .unset, .unset, .unset] [] := by first | (simp [entryFrame, mkF, argsToLocals, Value.category, maxLocals]; done) | rfl
def Q0 (Z : State) (q0 : Int64) (q1 : Int64) (q2 : Int64) (q3 : Int64) (p4 : Int32)  (h0 : Heap) (n0 : Nat) (v : Option Value) (h : Heap) (L : List Loc) : Prop := v = some (.int (1 : Int32)) ∧ Fr n0 L
set_option maxRecDepth 65536 in
set_option maxHeartbeats 40000000 in
theorem rm0 (l : Launch) (Z : State) (a0 : Array Value) (hw : ∀ d ∈ tables_1, d.before a0 Z = true) (ws : List Jvm.Cond) (q0 : Int64) (q1 : Int64) (q2 : Int64) (q3 : Int64) (p4 : Int32)  (h0 : Heap) (n0 : Nat) (Z0 : n0 ≤ h0.size)  :
    MetFree l x (head1 (Jvm.Cond.code x code maxLocals ret :: ws) room_1) (fun a U => a = #[(.long q0), (.long q1), (.long q2), (.long q3), (.int p4)] ∧ Z.Warmed39 U.vm ∧ U.heap = h0) (fun _ _ _ _ _ => True) (fun _ U o U' => ∃ v L, o = .returned v ∧ Q0 Z q0 q1 q2 q3 p4 h0 n0 v U'.heap L ∧ FrameEnd U o U' L room_1.cells room_1.slots) := by
  refine MetFree.of_bodySF (plainFor_of_name pn_com_example_lean_throttle_leanthrottle_TimeRingUnitsOfPinLaw) hisR ?_
  intro p e s m args below meth c s₁ Bd hml0 hP hK
  obtain ⟨rfl, hZ, hh⟩ := hP
  have hx := Bd.exec
  have hby := Bd.bytes
  have hml : c.maxLocals = 17 := hml0
  have hown : s.vm.findClass "com/example/lean_throttle/leanthrottle/TimeRingUnitsOfPinLaw" = some m.cls := findClass_of_methodNamed Bd.named
  have hnm := (name_of_methodNamed Bd.named Bd.method).1
  have X0 : Stand p l e room_1 s m #[(.long q0), (.long q1), (.long q2), (.long q3), (.int p4)] below meth c s₁ [] 0 0 := Stand.of_body Bd
  have e0 : s₁.heap = h0 := by rw [← hh, Bd.state]; rfl
  have N0 := Fr.nil n0
  have K0 : Keep h0 h0 [] := Keep.refl _ _
  obtain ⟨G, hG⟩ : ∃ z, z = s₁.setTop (entryFrame m #[(.long q0), (.long q1), (.long q2), (.long q3), (.int p4)] maxLocals) := ⟨_, rfl⟩
  have pre0 : Lead p e below G (s₁.setTop (mkF m 0 #[.val (.long q0), .second, .val (.long q1), .second, .val (.long q2), .second, .val (.long q3), .second, .val (.int p4), .unset, .unset, .unset, .unset, .unset, .unset, .unset, .unset] [])) := fun t k => by rw [hG]; exact castTop (ef_0 m q0 q1 q2 q3 p4) k
  have pre1 : Lead p e below G (s₁.setTop (mkF m 6 #[.val (.long q0), .second, .val (.long q1), .second, .val (.long q2), .second, .val (.long q3), .second, .val (.int p4), .unset, .unset, .unset, .unset, .unset, .unset, .unset, .unset] [(.long (q0 &&& (9223372036854775807 : Int64))), (.long (1 : Int64))])) := fun t k => by
    refine pre0 t ?_
    show Steps p.tables e below (s₁.setTop (mkF m 0 #[.val (.long q0), .second, .val (.long q1), .second, .val (.long q2), .second, .val (.long q3), .second, .val (.int p4), .unset, .unset, .unset, .unset, .unset, .unset, .unset, .unset] [])) _
    refine XS.lconst X0.here hx rfl (hb hby at_0) ?_
    show Steps p.tables e below (s₁.setTop (mkF m 1 #[.val (.long q0), .second, .val (.long q1), .second, .val (.long q2), .second, .val (.long q3), .second, .val (.int p4), .unset, .unset, .unset, .unset, .unset, .unset, .unset, .unset] [(.long (1 : Int64))])) _
    refine XS.lloadN X0.here hx rfl (hb hby at_1) rfl ?_
    show Steps p.tables e below (s₁.setTop (mkF m 2 #[.val (.long q0), .second, .val (.long q1), .second, .val (.long q2), .second, .val (.long q3), .second, .val (.int p4), .unset, .unset, .unset, .unset, .unset, .unset, .unset, .unset] [(.long q0), (.long (1 : Int64))])) _
    refine X0.ldc2Long hx hown (mvT hZ (hw _ (List.mem_of_getElem? (i := 0) rfl))) (g := (mkF m 2 #[.val (.long q0), .second, .val (.long q1), .second, .val (.long q2), .second, .val (.long q3), .second, .val (.int p4), .unset, .unset, .unset, .unset, .unset, .unset, .unset, .unset] [(.long q0), (.long (1 : Int64))])) rfl (hb hby at_2) _ ?_
    show Steps p.tables e below (s₁.setTop (mkF m 5 #[.val (.long q0), .second, .val (.long q1), .second, .val (.long q2), .second, .val (.long q3), .second, .val (.int p4), .unset, .unset, .unset, .unset, .unset, .unset, .unset, .unset] [(.long (9223372036854775807 : Int64)), (.long q0), (.long (1 : Int64))])) _
    refine XS.land X0.here hx rfl (hb hby at_5) rfl ?_
    show Steps p.tables e below (s₁.setTop (mkF m 6 #[.val (.long q0), .second, .val (.long q1), .second, .val (.long q2), .second, .val (.long q3), .second, .val (.int p4), .unset, .unset, .unset, .unset, .unset, .unset, .unset, .unset] [(.long (q0 &&& (9223372036854775807 : Int64))), (.long (1 : Int64))])) _
    exact k
  obtain ⟨_, _, ⟨T2, L2, k2, n2⟩, -, X2, ⟨Lc2, hQ2, l2, y2, z2⟩, st2⟩ := Jvm.LawKit.callS X0 hx (y := (⟨"java/lang/Math", "max", "(JJ)J"⟩ : MethodName)) hown (mvT hZ (hw _ (List.mem_of_getElem? (i := 1) rfl))) (mvT hZ (hw _ (List.mem_of_getElem? (i := 2) rfl))) (mvT hZ (hw _ (List.mem_of_getElem? (i := 3) rfl))) (mvT hZ (hw _ (List.mem_of_getElem? (i := 4) rfl))) (by decide) (backOf (W := 0) (rm1 l Z a0 hw [] (1 : Int64) (q0 &&& (9223372036854775807 : Int64))  h0 n0 (Nat.le_trans Z0 K0.1) ) hZ (hw _ (List.mem_of_getElem? (i := 4) rfl)) (hw _ (List.mem_of_getElem? (i := 3) rfl)) (by decide) (by decide)) (g := (mkF m 6 #[.val (.long q0), .second, .val (.long q1), .second, .val (.long q2), .second, .val (.long q3), .second, .val (.int p4), .unset, .unset, .unset, .unset, .unset, .unset, .unset, .unset] [(.long (q0 &&& (9223372036854775807 : Int64))), (.long (1 : Int64))])) rfl (by rw [hml]; rfl) (argsL := [(.long (1 : Int64)), (.long (q0 &&& (9223372036854775807 : Int64)))]) (rest := []) (lenOf pd__28_JJ_29_J rfl) rfl (by show 2 * 0 + _ ≤ _; exact Nat.le_of_eq rfl) (hb hby at_6) (fun _ _ => ⟨rfl, e0, (by decide : 0 + 0 ≤ _), (by decide : 0 + 0 ≤ _)⟩)
  dsimp only [Pt.U, Pt.locs, Pt.cells, Pt.slots] at X2 l2 y2 z2 st2 hQ2
  subst l2 y2 z2
  obtain ⟨rfl, N2q, e2⟩ := hQ2
  have N2 := Fr.app N0 N2q
  obtain ⟨M2, Y2, N2⟩ : ∃ M, Stand p l e room_1 s m #[(.long q0), (.long q1), (.long q2), (.long q3), (.int p4)] below meth c T2 M 0 0 ∧ Fr n0 M := ⟨_, X2, N2⟩
  have pre2 : Lead p e below G (T2.setTop (mkF m 9 #[.val (.long q0), .second, .val (.long q1), .second, .val (.long q2), .second, .val (.long q3), .second, .val (.int p4), .unset, .unset, .unset, .unset, .unset, .unset, .unset, .unset] [(.long (if (1 : Int64) < (q0 &&& (9223372036854775807 : Int64)) then (q0 &&& (9223372036854775807 : Int64)) else (1 : Int64)))])) := fun t k => pre1 t (st2 _ k)
  have pre3 : Lead p e below G (T2.setTop (mkF m 11 #[.val (.long q0), .second, .val (.long q1), .second, .val (.long q2), .second, .val (.long q3), .second, .val (.int p4), .val (.long (if (1 : Int64) < (q0 &&& (9223372036854775807 : Int64)) then (q0 &&& (9223372036854775807 : Int64)) else (1 : Int64))), .second, .unset, .unset, .unset, .unset, .unset, .unset] [])) := fun t k => by
    refine pre2 t ?_
    show Steps p.tables e below (T2.setTop (mkF m 9 #[.val (.long q0), .second, .val (.long q1), .second, .val (.long q2), .second, .val (.long q3), .second, .val (.int p4), .unset, .unset, .unset, .unset, .unset, .unset, .unset, .unset] [(.long (if (1 : Int64) < (q0 &&& (9223372036854775807 : Int64)) then (q0 &&& (9223372036854775807 : Int64)) else (1 : Int64)))])) _
    refine XS.lstore Y2.here hx rfl (hb hby at_9) rfl (l' := #[.val (.long q0), .second, .val (.long q1), .second, .val (.long q2), .second, .val (.long q3), .second, .val (.int p4), .val (.long (if (1 : Int64) < (q0 &&& (9223372036854775807 : Int64)) then (q0 &&& (9223372036854775807 : Int64)) else (1 : Int64))), .second, .unset, .unset, .unset, .unset, .unset, .unset]) rfl ?_
    show Steps p.tables e below (T2.setTop (mkF m 11 #[.val (.long q0), .second, .val (.long q1), .second, .val (.long q2), .second, .val (.long q3), .second, .val (.int p4), .val (.long (if (1 : Int64) < (q0 &&& (9223372036854775807 : Int64)) then (q0 &&& (9223372036854775807 : Int64)) else (1 : Int64))), .second, .unset, .unset, .unset, .unset, .unset, .unset] [])) _
    exact k
  obtain ⟨v4, hv4⟩ : ∃ z : Int64, z = (if (1 : Int64) < (q0 &&& (9223372036854775807 : Int64)) then (q0 &&& (9223372036854775807 : Int64)) else (1 : Int64)) := ⟨_, rfl⟩
  have pre4 : Lead p e below G (T2.setTop (mkF m 11 #[.val (.long q0), .second, .val (.long q1), .second, .val (.long q2), .second, .val (.long q3), .second, .val (.int p4), .val (.long v4), .second, .unset, .unset, .unset, .unset, .unset, .unset] [])) := by rw [hv4]; exact pre3
  have pre5 : Lead p e below G (T2.setTop (mkF m 17 #[.val (.long q0), .second, .val (.long q1), .second, .val (.long q2), .second, .val (.long q3), .second, .val (.int p4), .val (.long v4), .second, .unset, .unset, .unset, .unset, .unset, .unset] [(.long (q1 &&& (9223372036854775807 : Int64))), (.long (1 : Int64))])) := fun t k => by
    refine pre4 t ?_
    show Steps p.tables e below (T2.setTop (mkF m 11 #[.val (.long q0), .second, .val (.long q1), .second, .val (.long q2), .second, .val (.long q3), .second, .val (.int p4), .val (.long v4), .second, .unset, .unset, .unset, .unset, .unset, .unset] [])) _
    refine XS.lconst Y2.here hx rfl (hb hby at_11) ?_
    show Steps p.tables e below (T2.setTop (mkF m 12 #[.val (.long q0), .second, .val (.long q1), .second, .val (.long q2), .second, .val (.long q3), .second, .val (.int p4), .val (.long v4), .second, .unset, .unset, .unset, .unset, .unset, .unset] [(.long (1 : Int64))])) _
    refine XS.lloadN Y2.here hx rfl (hb hby at_12) rfl ?_
    show Steps p.tables e below (T2.setTop (mkF m 13 #[.val (.long q0), .second, .val (.long q1), .second, .val (.long q2), .second, .val (.long q3), .second, .val (.int p4), .val (.long v4), .second, .unset, .unset, .unset, .unset, .unset, .unset] [(.long q1), (.long (1 : Int64))])) _
    refine Y2.ldc2Long hx hown (mvT hZ (hw _ (List.mem_of_getElem? (i := 0) rfl))) (g := (mkF m 13 #[.val (.long q0), .second, .val (.long q1), .second, .val (.long q2), .second, .val (.long q3), .second, .val (.int p4), .val (.long v4), .second, .unset, .unset, .unset, .unset, .unset, .unset] [(.long q1), (.long (1 : Int64))])) rfl (hb hby at_13) _ ?_
    show Steps p.tables e below (T2.setTop (mkF m 16 #[.val (.long q0), .second, .val (.long q1), .second, .val (.long q2), .second, .val (.long q3), .second, .val (.int p4), .val (.long v4), .second, .unset, .unset, .unset, .unset, .unset, .unset] [(.long (9223372036854775807 : Int64)), (.long q1), (.long (1 : Int64))])) _
    refine XS.land Y2.here hx rfl (hb hby at_16) rfl ?_
    show Steps p.tables e below (T2.setTop (mkF m 17 #[.val (.long q0), .second, .val (.long q1), .second, .val (.long q2), .second, .val (.long q3), .second, .val (.int p4), .val (.long v4), .second, .unset, .unset, .unset, .unset, .unset, .unset] [(.long (q1 &&& (9223372036854775807 : Int64))), (.long (1 : Int64))])) _
    exact k
  obtain ⟨_, _, ⟨T6, L6, k6, n6⟩, -, X6, ⟨Lc6, hQ6, l6, y6, z6⟩, st6⟩ := Jvm.LawKit.callS Y2 hx (y := (⟨"java/lang/Math", "max", "(JJ)J"⟩ : MethodName)) hown (mvT hZ (hw _ (List.mem_of_getElem? (i := 1) rfl))) (mvT hZ (hw _ (List.mem_of_getElem? (i := 2) rfl))) (mvT hZ (hw _ (List.mem_of_getElem? (i := 3) rfl))) (mvT hZ (hw _ (List.mem_of_getElem? (i := 4) rfl))) (by decide) (backOf (W := 0) (rm1 l Z a0 hw [] (1 : Int64) (q1 &&& (9223372036854775807 : Int64))  h0 n0 (Nat.le_trans Z0 K0.1) ) hZ (hw _ (List.mem_of_getElem? (i := 4) rfl)) (hw _ (List.mem_of_getElem? (i := 3) rfl)) (by decide) (by decide)) (g := (mkF m 17 #[.val (.long q0), .second, .val (.long q1), .second, .val (.long q2), .second, .val (.long q3), .second, .val (.int p4), .val (.long v4), .second, .unset, .unset, .unset, .unset, .unset, .unset] [(.long (q1 &&& (9223372036854775807 : Int64))), (.long (1 : Int64))])) rfl (by rw [hml]; rfl) (argsL := [(.long (1 : Int64)), (.long (q1 &&& (9223372036854775807 : Int64)))]) (rest := []) (lenOf pd__28_JJ_29_J rfl) rfl (by show 2 * 0 + _ ≤ _; exact Nat.le_of_eq rfl) (hb hby at_17) (fun _ _ => ⟨rfl, e2, (by decide : 0 + 0 ≤ _), (by decide : 0 + 0 ≤ _)⟩)
  dsimp only [Pt.U, Pt.locs, Pt.cells, Pt.slots] at X6 l6 y6 z6 st6 hQ6
  subst l6 y6 z6
  obtain ⟨rfl, N6q, e6⟩ := hQ6
  have N6 := Fr.app N2 N6q
  obtain ⟨M6, Y6, N6⟩ : ∃ M, Stand p l e room_1 s m #[(.long q0), (.long q1), (.long q2), (.long q3), (.int p4)] below meth c T6 M 0 0 ∧ Fr n0 M := ⟨_, X6, N6⟩
  have pre6 : Lead p e below G (T6.setTop (mkF m 20 #[.val (.long q0), .second, .val (.long q1), .second, .val (.long q2), .second, .val (.long q3), .second, .val (.int p4), .val (.long v4), .second, .unset, .unset, .unset, .unset, .unset, .unset] [(.long (if (1 : Int64) < (q1 &&& (9223372036854775807 : Int64)) then (q1 &&& (9223372036854775807 : Int64)) else (1 : Int64)))])) := fun t k => pre5 t (st6 _ k)
  have pre7 : Lead p e below G (T6.setTop (mkF m 22 #[.val (.long q0), .second, .val (.long q1), .second, .val (.long q2), .second, .val (.long q3), .second, .val (.int p4), .val (.long v4), .second, .val (.long (if (1 : Int64) < (q1 &&& (9223372036854775807 : Int64)) then (q1 &&& (9223372036854775807 : Int64)) else (1 : Int64))), .second, .unset, .unset, .unset, .unset] [])) := fun t k => by
    refine pre6 t ?_
    show Steps p.tables e below (T6.setTop (mkF m 20 #[.val (.long q0), .second, .val (.long q1), .second, .val (.long q2), .second, .val (.long q3), .second, .val (.int p4), .val (.long v4), .second, .unset, .unset, .unset, .unset, .unset, .unset] [(.long (if (1 : Int64) < (q1 &&& (9223372036854775807 : Int64)) then (q1 &&& (9223372036854775807 : Int64)) else (1 : Int64)))])) _
    refine XS.lstore Y6.here hx rfl (hb hby at_20) rfl (l' := #[.val (.long q0), .second, .val (.long q1), .second, .val (.long q2), .second, .val (.long q3), .second, .val (.int p4), .val (.long v4), .second, .val (.long (if (1 : Int64) < (q1 &&& (9223372036854775807 : Int64)) then (q1 &&& (9223372036854775807 : Int64)) else (1 : Int64))), .second, .unset, .unset, .unset, .unset]) rfl ?_
    show Steps p.tables e below (T6.setTop (mkF m 22 #[.val (.long q0), .second, .val (.long q1), .second, .val (.long q2), .second, .val (.long q3), .second, .val (.int p4), .val (.long v4), .second, .val (.long (if (1 : Int64) < (q1 &&& (9223372036854775807 : Int64)) then (q1 &&& (9223372036854775807 : Int64)) else (1 : Int64))), .second, .unset, .unset, .unset, .unset] [])) _
    exact k
  obtain ⟨v8, hv8⟩ : ∃ z : Int64, z = (if (1 : Int64) < (q1 &&& (9223372036854775807 : Int64)) then (q1 &&& (9223372036854775807 : Int64)) else (1 : Int64)) := ⟨_, rfl⟩
  have pre8 : Lead p e below G (T6.setTop (mkF m 22 #[.val (.long q0), .second, .val (.long q1), .second, .val (.long q2), .second, .val (.long q3), .second, .val (.int p4), .val (.long v4), .second, .val (.long v8), .second, .unset, .unset, .unset, .unset] [])) := by rw [hv8]; exact pre7
  have pre9 : Lead p e below G (T6.setTop (mkF m 29 #[.val (.long q0), .second, .val (.long q1), .second, .val (.long q2), .second, .val (.long q3), .second, .val (.int p4), .val (.long v4), .second, .val (.long v8), .second, .unset, .unset, .unset, .unset] [(.long (q2 &&& (9223372036854775807 : Int64))), (.long (1 : Int64))])) := fun t k => by
    refine pre8 t ?_
    show Steps p.tables e below (T6.setTop (mkF m 22 #[.val (.long q0), .second, .val (.long q1), .second, .val (.long q2), .second, .val (.long q3), .second, .val (.int p4), .val (.long v4), .second, .val (.long v8), .second, .unset, .unset, .unset, .unset] [])) _
    refine XS.lconst Y6.here hx rfl (hb hby at_22) ?_
    show Steps p.tables e below (T6.setTop (mkF m 23 #[.val (.long q0), .second, .val (.long q1), .second, .val (.long q2), .second, .val (.long q3), .second, .val (.int p4), .val (.long v4), .second, .val (.long v8), .second, .unset, .unset, .unset, .unset] [(.long (1 : Int64))])) _
    refine XS.lload Y6.here hx rfl (hb hby at_23) rfl ?_
    show Steps p.tables e below (T6.setTop (mkF m 25 #[.val (.long q0), .second, .val (.long q1), .second, .val (.long q2), .second, .val (.long q3), .second, .val (.int p4), .val (.long v4), .second, .val (.long v8), .second, .unset, .unset, .unset, .unset] [(.long q2), (.long (1 : Int64))])) _
    refine Y6.ldc2Long hx hown (mvT hZ (hw _ (List.mem_of_getElem? (i := 0) rfl))) (g := (mkF m 25 #[.val (.long q0), .second, .val (.long q1), .second, .val (.long q2), .second, .val (.long q3), .second, .val (.int p4), .val (.long v4), .second, .val (.long v8), .second, .unset, .unset, .unset, .unset] [(.long q2), (.long (1 : Int64))])) rfl (hb hby at_25) _ ?_
    show Steps p.tables e below (T6.setTop (mkF m 28 #[.val (.long q0), .second, .val (.long q1), .second, .val (.long q2), .second, .val (.long q3), .second, .val (.int p4), .val (.long v4), .second, .val (.long v8), .second, .unset, .unset, .unset, .unset] [(.long (9223372036854775807 : Int64)), (.long q2), (.long (1 : Int64))])) _
    refine XS.land Y6.here hx rfl (hb hby at_28) rfl ?_
    show Steps p.tables e below (T6.setTop (mkF m 29 #[.val (.long q0), .second, .val (.long q1), .second, .val (.long q2), .second, .val (.long q3), .second, .val (.int p4), .val (.long v4), .second, .val (.long v8), .second, .unset, .unset, .unset, .unset] [(.long (q2 &&& (9223372036854775807 : Int64))), (.long (1 : Int64))])) _
    exact k
  obtain ⟨_, _, ⟨T10, L10, k10, n10⟩, -, X10, ⟨Lc10, hQ10, l10, y10, z10⟩, st10⟩ := Jvm.LawKit.callS Y6 hx (y := (⟨"java/lang/Math", "max", "(JJ)J"⟩ : MethodName)) hown (mvT hZ (hw _ (List.mem_of_getElem? (i := 1) rfl))) (mvT hZ (hw _ (List.mem_of_getElem? (i := 2) rfl))) (mvT hZ (hw _ (List.mem_of_getElem? (i := 3) rfl))) (mvT hZ (hw _ (List.mem_of_getElem? (i := 4) rfl))) (by decide) (backOf (W := 0) (rm1 l Z a0 hw [] (1 : Int64) (q2 &&& (9223372036854775807 : Int64))  h0 n0 (Nat.le_trans Z0 K0.1) ) hZ (hw _ (List.mem_of_getElem? (i := 4) rfl)) (hw _ (List.mem_of_getElem? (i := 3) rfl)) (by decide) (by decide)) (g := (mkF m 29 #[.val (.long q0), .second, .val (.long q1), .second, .val (.long q2), .second, .val (.long q3), .second, .val (.int p4), .val (.long v4), .second, .val (.long v8), .second, .unset, .unset, .unset, .unset] [(.long (q2 &&& (9223372036854775807 : Int64))), (.long (1 : Int64))])) rfl (by rw [hml]; rfl) (argsL := [(.long (1 : Int64)), (.long (q2 &&& (9223372036854775807 : Int64)))]) (rest := []) (lenOf pd__28_JJ_29_J rfl) rfl (by show 2 * 0 + _ ≤ _; exact Nat.le_of_eq rfl) (hb hby at_29) (fun _ _ => ⟨rfl, e6, (by decide : 0 + 0 ≤ _), (by decide : 0 + 0 ≤ _)⟩)
  dsimp only [Pt.U, Pt.locs, Pt.cells, Pt.slots] at X10 l10 y10 z10 st10 hQ10
  subst l10 y10 z10
  obtain ⟨rfl, N10q, e10⟩ := hQ10
  have N10 := Fr.app N6 N10q
  obtain ⟨M10, Y10, N10⟩ : ∃ M, Stand p l e room_1 s m #[(.long q0), (.long q1), (.long q2), (.long q3), (.int p4)] below meth c T10 M 0 0 ∧ Fr n0 M := ⟨_, X10, N10⟩
  have pre10 : Lead p e below G (T10.setTop (mkF m 32 #[.val (.long q0), .second, .val (.long q1), .second, .val (.long q2), .second, .val (.long q3), .second, .val (.int p4), .val (.long v4), .second, .val (.long v8), .second, .unset, .unset, .unset, .unset] [(.long (if (1 : Int64) < (q2 &&& (9223372036854775807 : Int64)) then (q2 &&& (9223372036854775807 : Int64)) else (1 : Int64)))])) := fun t k => pre9 t (st10 _ k)
  have pre11 : Lead p e below G (T10.setTop (mkF m 34 #[.val (.long q0), .second, .val (.long q1), .second, .val (.long q2), .second, .val (.long q3), .second, .val (.int p4), .val (.long v4), .second, .val (.long v8), .second, .val (.long (if (1 : Int64) < (q2 &&& (9223372036854775807 : Int64)) then (q2 &&& (9223372036854775807 : Int64)) else (1 : Int64))), .second, .unset, .unset] [])) := fun t k => by
    refine pre10 t ?_
    show Steps p.tables e below (T10.setTop (mkF m 32 #[.val (.long q0), .second, .val (.long q1), .second, .val (.long q2), .second, .val (.long q3), .second, .val (.int p4), .val (.long v4), .second, .val (.long v8), .second, .unset, .unset, .unset, .unset] [(.long (if (1 : Int64) < (q2 &&& (9223372036854775807 : Int64)) then (q2 &&& (9223372036854775807 : Int64)) else (1 : Int64)))])) _
    refine XS.lstore Y10.here hx rfl (hb hby at_32) rfl (l' := #[.val (.long q0), .second, .val (.long q1), .second, .val (.long q2), .second, .val (.long q3), .second, .val (.int p4), .val (.long v4), .second, .val (.long v8), .second, .val (.long (if (1 : Int64) < (q2 &&& (9223372036854775807 : Int64)) then (q2 &&& (9223372036854775807 : Int64)) else (1 : Int64))), .second, .unset, .unset]) rfl ?_
    show Steps p.tables e below (T10.setTop (mkF m 34 #[.val (.long q0), .second, .val (.long q1), .second, .val (.long q2), .second, .val (.long q3), .second, .val (.int p4), .val (.long v4), .second, .val (.long v8), .second, .val (.long (if (1 : Int64) < (q2 &&& (9223372036854775807 : Int64)) then (q2 &&& (9223372036854775807 : Int64)) else (1 : Int64))), .second, .unset, .unset] [])) _
    exact k
  obtain ⟨v12, hv12⟩ : ∃ z : Int64, z = (if (1 : Int64) < (q2 &&& (9223372036854775807 : Int64)) then (q2 &&& (9223372036854775807 : Int64)) else (1 : Int64)) := ⟨_, rfl⟩
  have pre12 : Lead p e below G (T10.setTop (mkF m 34 #[.val (.long q0), .second, .val (.long q1), .second, .val (.long q2), .second, .val (.long q3), .second, .val (.int p4), .val (.long v4), .second, .val (.long v8), .second, .val (.long v12), .second, .unset, .unset] [])) := by rw [hv12]; exact pre11
  have pre13 : Lead p e below G (T10.setTop (mkF m 43 #[.val (.long q0), .second, .val (.long q1), .second, .val (.long q2), .second, .val (.long q3), .second, .val (.int p4), .val (.long v4), .second, .val (.long v8), .second, .val (.long v12), .second, .val (.int ((p4 &&& (2147483647 : Int32)) - ((p4 &&& (2147483647 : Int32)) / (3 : Int32)) * (3 : Int32))), .unset] [])) := fun t k => by
    refine pre12 t ?_
    show Steps p.tables e below (T10.setTop (mkF m 34 #[.val (.long q0), .second, .val (.long q1), .second, .val (.long q2), .second, .val (.long q3), .second, .val (.int p4), .val (.long v4), .second, .val (.long v8), .second, .val (.long v12), .second, .unset, .unset] [])) _
    refine XS.iload Y10.here hx rfl (hb hby at_34) rfl ?_
    show Steps p.tables e below (T10.setTop (mkF m 36 #[.val (.long q0), .second, .val (.long q1), .second, .val (.long q2), .second, .val (.long q3), .second, .val (.int p4), .val (.long v4), .second, .val (.long v8), .second, .val (.long v12), .second, .unset, .unset] [(.int p4)])) _
    refine Y10.ldcInt hx hown (mvT hZ (hw _ (List.mem_of_getElem? (i := 5) rfl))) (g := (mkF m 36 #[.val (.long q0), .second, .val (.long q1), .second, .val (.long q2), .second, .val (.long q3), .second, .val (.int p4), .val (.long v4), .second, .val (.long v8), .second, .val (.long v12), .second, .unset, .unset] [(.int p4)])) rfl (hb hby at_36) _ ?_
    show Steps p.tables e below (T10.setTop (mkF m 38 #[.val (.long q0), .second, .val (.long q1), .second, .val (.long q2), .second, .val (.long q3), .second, .val (.int p4), .val (.long v4), .second, .val (.long v8), .second, .val (.long v12), .second, .unset, .unset] [(.int (2147483647 : Int32)), (.int p4)])) _
    refine XS.iand Y10.here hx rfl (hb hby at_38) rfl ?_
    show Steps p.tables e below (T10.setTop (mkF m 39 #[.val (.long q0), .second, .val (.long q1), .second, .val (.long q2), .second, .val (.long q3), .second, .val (.int p4), .val (.long v4), .second, .val (.long v8), .second, .val (.long v12), .second, .unset, .unset] [(.int (p4 &&& (2147483647 : Int32)))])) _
    refine XS.iconst Y10.here hx rfl (hb hby at_39) ?_
    show Steps p.tables e below (T10.setTop (mkF m 40 #[.val (.long q0), .second, .val (.long q1), .second, .val (.long q2), .second, .val (.long q3), .second, .val (.int p4), .val (.long v4), .second, .val (.long v8), .second, .val (.long v12), .second, .unset, .unset] [(.int (3 : Int32)), (.int (p4 &&& (2147483647 : Int32)))])) _
    refine XS.irem Y10.here hx rfl (hb hby at_40) rfl (by decide) ?_
    show Steps p.tables e below (T10.setTop (mkF m 41 #[.val (.long q0), .second, .val (.long q1), .second, .val (.long q2), .second, .val (.long q3), .second, .val (.int p4), .val (.long v4), .second, .val (.long v8), .second, .val (.long v12), .second, .unset, .unset] [(.int ((p4 &&& (2147483647 : Int32)) - ((p4 &&& (2147483647 : Int32)) / (3 : Int32)) * (3 : Int32)))])) _
    refine XS.istore Y10.here hx rfl (hb hby at_41) rfl (l' := #[.val (.long q0), .second, .val (.long q1), .second, .val (.long q2), .second, .val (.long q3), .second, .val (.int p4), .val (.long v4), .second, .val (.long v8), .second, .val (.long v12), .second, .val (.int ((p4 &&& (2147483647 : Int32)) - ((p4 &&& (2147483647 : Int32)) / (3 : Int32)) * (3 : Int32))), .unset]) rfl ?_
    show Steps p.tables e below (T10.setTop (mkF m 43 #[.val (.long q0), .second, .val (.long q1), .second, .val (.long q2), .second, .val (.long q3), .second, .val (.int p4), .val (.long v4), .second, .val (.long v8), .second, .val (.long v12), .second, .val (.int ((p4 &&& (2147483647 : Int32)) - ((p4 &&& (2147483647 : Int32)) / (3 : Int32)) * (3 : Int32))), .unset] [])) _
    exact k
  obtain ⟨v14, hv14⟩ : ∃ z : Int32, z = ((p4 &&& (2147483647 : Int32)) - ((p4 &&& (2147483647 : Int32)) / (3 : Int32)) * (3 : Int32)) := ⟨_, rfl⟩
  have pre14 : Lead p e below G (T10.setTop (mkF m 43 #[.val (.long q0), .second, .val (.long q1), .second, .val (.long q2), .second, .val (.long q3), .second, .val (.int p4), .val (.long v4), .second, .val (.long v8), .second, .val (.long v12), .second, .val (.int v14), .unset] [])) := by rw [hv14]; exact pre13
  obtain ⟨T15, h15, X15, e15, E15, A15, D15, -, st15⟩ := newO Y10 hx hZ hown (hw _ (List.mem_of_getElem? (i := 6) rfl)) (hw _ (List.mem_of_getElem? (i := 7) rfl)) (hw _ (List.mem_of_getElem? (i := 8) rfl)) e10 (g := (mkF m 43 #[.val (.long q0), .second, .val (.long q1), .second, .val (.long q2), .second, .val (.long q3), .second, .val (.int p4), .val (.long v4), .second, .val (.long v8), .second, .val (.long v12), .second, .val (.int v14), .unset] [])) rfl (hb hby at_43) (by decide) (by decide)
  obtain ⟨b15, g15⟩ : ∃ z, z = h0.size := ⟨_, rfl⟩
  rw [← g15] at A15 D15 st15
  have sz15 : h0.size ≤ b15 := Nat.le_trans K0.1 (Nat.le_of_eq g15.symm)
  have ge15 : n0 ≤ b15 := Nat.le_trans Z0 sz15
  have K15 : Keep h0 h15 [] := K0.ext E15
  have F15_times : Fld Z h15 b15 "com/example/lean_throttle/leanthrottle/TimeRing" "times" "[J" .null := D15 (Or.inl (hw _ (List.mem_of_getElem? (i := 17) rfl))) (ty := (.array .long)) (by decide)
  have F15_totals : Fld Z h15 b15 "com/example/lean_throttle/leanthrottle/TimeRing" "totals" "[J" .null := D15 (Or.inl (hw _ (List.mem_of_getElem? (i := 19) rfl))) (ty := (.array .long)) (by decide)
  have F15_size : Fld Z h15 b15 "com/example/lean_throttle/leanthrottle/TimeRing" "size" "I" (.int (0 : Int32)) := D15 (Or.inl (hw _ (List.mem_of_getElem? (i := 30) rfl))) (ty := .int) (by decide)
  have F15_totalBefore : Fld Z h15 b15 "com/example/lean_throttle/leanthrottle/TimeRing" "totalBefore" "J" (.long (0 : Int64)) := D15 (Or.inl (hw _ (List.mem_of_getElem? (i := 32) rfl))) (ty := .long) (by decide)
  have F15_first : Fld Z h15 b15 "com/example/lean_throttle/leanthrottle/TimeRing" "first" "I" (.int (0 : Int32)) := D15 (Or.inl (hw _ (List.mem_of_getElem? (i := 38) rfl))) (ty := .int) (by decide)
  have pre15 : Lead p e below G (T15.setTop (mkF m 46 #[.val (.long q0), .second, .val (.long q1), .second, .val (.long q2), .second, .val (.long q3), .second, .val (.int p4), .val (.long v4), .second, .val (.long v8), .second, .val (.long v12), .second, .val (.int v14), .unset] [(.ref b15)])) := fun t k => pre14 t (st15 _ k)
  have pre16 : Lead p e below G (T15.setTop (mkF m 47 #[.val (.long q0), .second, .val (.long q1), .second, .val (.long q2), .second, .val (.long q3), .second, .val (.int p4), .val (.long v4), .second, .val (.long v8), .second, .val (.long v12), .second, .val (.int v14), .unset] [(.ref b15), (.ref b15)])) := fun t k => by
    refine pre15 t ?_
    show Steps p.tables e below (T15.setTop (mkF m 46 #[.val (.long q0), .second, .val (.long q1), .second, .val (.long q2), .second, .val (.long q3), .second, .val (.int p4), .val (.long v4), .second, .val (.long v8), .second, .val (.long v12), .second, .val (.int v14), .unset] [(.ref b15)])) _
    refine XS.dup X15.here hx rfl (hb hby at_46) rfl rfl ?_
    show Steps p.tables e below (T15.setTop (mkF m 47 #[.val (.long q0), .second, .val (.long q1), .second, .val (.long q2), .second, .val (.long q3), .second, .val (.int p4), .val (.long v4), .second, .val (.long v8), .second, .val (.long v12), .second, .val (.int v14), .unset] [(.ref b15), (.ref b15)])) _
    exact k
  obtain ⟨_, _, ⟨T17, L17, k17, n17⟩, -, X17, ⟨Lc17, hQ17, l17, y17, z17⟩, st17⟩ := X15.specialBack hx (y := (⟨"com/example/lean_throttle/leanthrottle/TimeRing", "<init>", "()V"⟩ : MethodName)) rfl hown (mvT hZ (hw _ (List.mem_of_getElem? (i := 9) rfl))) (mvT hZ (hw _ (List.mem_of_getElem? (i := 10) rfl))) (mvT hZ (hw _ (List.mem_of_getElem? (i := 11) rfl))) (by decide) (backOf (W := 1) (rm2 l Z a0 hw [] b15  h15 n0 (Nat.le_trans Z0 K15.1) A15 ge15 F15_times F15_totals F15_first F15_size F15_totalBefore) hZ (hw _ (List.mem_of_getElem? (i := 11) rfl)) (hw _ (List.mem_of_getElem? (i := 8) rfl)) (by decide) (by decide)) (g := (mkF m 47 #[.val (.long q0), .second, .val (.long q1), .second, .val (.long q2), .second, .val (.long q3), .second, .val (.int p4), .val (.long v4), .second, .val (.long v8), .second, .val (.long v12), .second, .val (.int v14), .unset] [(.ref b15), (.ref b15)])) rfl (by rw [hml]; rfl) (Steps.refl _) (a := b15) (argsL := []) (rest := [(.ref b15)]) (lenOf pd__28__29_V rfl) rfl (by show 2 * 0 + _ ≤ _; exact Nat.le_of_eq rfl) (hb hby at_47) (fun _ _ => ⟨rfl, e15, (by decide : 1 + 2 ≤ _), (by decide : 5 + 2 ≤ _)⟩)
  dsimp only [Pt.U, Pt.locs, Pt.cells, Pt.slots] at X17 l17 y17 z17 st17 hQ17
  subst l17 y17 z17
  obtain ⟨n1_17, n2_17, rfl, N17q, K17c, c17_0, c17_1, c17_2, c17_3, c17_4, c17_5, c17_6, c17_7, c17_8, c17_9, c17_10⟩ := hQ17
  have N17 := Fr.app N10 N17q
  have ne17_b15_n1_17 : b15 ≠ n1_17 := Nat.ne_of_lt (Nat.lt_of_lt_of_le A15.lt c17_6)
  have szn1_17 : h0.size ≤ n1_17 := Nat.le_trans K15.1 c17_6
  have gen1_17 : n0 ≤ n1_17 := Nat.le_trans Z0 szn1_17
  have ne17_b15_n2_17 : b15 ≠ n2_17 := Nat.ne_of_lt (Nat.lt_of_lt_of_le A15.lt c17_7)
  have szn2_17 : h0.size ≤ n2_17 := Nat.le_trans K15.1 c17_7
  have gen2_17 : n0 ≤ n2_17 := Nat.le_trans Z0 szn2_17
  have K17 : Keep h0 T17.heap [] := K15.trans K17c (allS (Or.inr sz15) all0)
  obtain ⟨M17, Y17, N17⟩ : ∃ M, Stand p l e room_1 s m #[(.long q0), (.long q1), (.long q2), (.long q3), (.int p4)] below meth c T17 M 3 7 ∧ Fr n0 M := ⟨_, X17, N17⟩
  have pre17 : Lead p e below G (T17.setTop (mkF m 50 #[.val (.long q0), .second, .val (.long q1), .second, .val (.long q2), .second, .val (.long q3), .second, .val (.int p4), .val (.long v4), .second, .val (.long v8), .second, .val (.long v12), .second, .val (.int v14), .unset] [(.ref b15)])) := fun t k => pre16 t (st17.trans k)
  have pre18 : Lead p e below G (T17.setTop (mkF m 59 #[.val (.long q0), .second, .val (.long q1), .second, .val (.long q2), .second, .val (.long q3), .second, .val (.int p4), .val (.long v4), .second, .val (.long v8), .second, .val (.long v12), .second, .val (.int v14), .val (.ref b15)] [(.int (2 : Int32)), (.long v4), (.long q3), (.ref b15)])) := fun t k => by
    refine pre17 t ?_
    show Steps p.tables e below (T17.setTop (mkF m 50 #[.val (.long q0), .second, .val (.long q1), .second, .val (.long q2), .second, .val (.long q3), .second, .val (.int p4), .val (.long v4), .second, .val (.long v8), .second, .val (.long v12), .second, .val (.int v14), .unset] [(.ref b15)])) _
    refine XS.astore Y17.here hx rfl (hb hby at_50) rfl rfl (l' := #[.val (.long q0), .second, .val (.long q1), .second, .val (.long q2), .second, .val (.long q3), .second, .val (.int p4), .val (.long v4), .second, .val (.long v8), .second, .val (.long v12), .second, .val (.int v14), .val (.ref b15)]) rfl ?_
    show Steps p.tables e below (T17.setTop (mkF m 52 #[.val (.long q0), .second, .val (.long q1), .second, .val (.long q2), .second, .val (.long q3), .second, .val (.int p4), .val (.long v4), .second, .val (.long v8), .second, .val (.long v12), .second, .val (.int v14), .val (.ref b15)] [])) _
    refine XS.aload Y17.here hx rfl (hb hby at_52) rfl rfl ?_
    show Steps p.tables e below (T17.setTop (mkF m 54 #[.val (.long q0), .second, .val (.long q1), .second, .val (.long q2), .second, .val (.long q3), .second, .val (.int p4), .val (.long v4), .second, .val (.long v8), .second, .val (.long v12), .second, .val (.int v14), .val (.ref b15)] [(.ref b15)])) _
    refine XS.lload Y17.here hx rfl (hb hby at_54) rfl ?_
    show Steps p.tables e below (T17.setTop (mkF m 56 #[.val (.long q0), .second, .val (.long q1), .second, .val (.long q2), .second, .val (.long q3), .second, .val (.int p4), .val (.long v4), .second, .val (.long v8), .second, .val (.long v12), .second, .val (.int v14), .val (.ref b15)] [(.long q3), (.ref b15)])) _
    refine XS.lload Y17.here hx rfl (hb hby at_56) rfl ?_
    show Steps p.tables e below (T17.setTop (mkF m 58 #[.val (.long q0), .second, .val (.long q1), .second, .val (.long q2), .second, .val (.long q3), .second, .val (.int p4), .val (.long v4), .second, .val (.long v8), .second, .val (.long v12), .second, .val (.int v14), .val (.ref b15)] [(.long v4), (.long q3), (.ref b15)])) _
    refine XS.iconst Y17.here hx rfl (hb hby at_58) ?_
    show Steps p.tables e below (T17.setTop (mkF m 59 #[.val (.long q0), .second, .val (.long q1), .second, .val (.long q2), .second, .val (.long q3), .second, .val (.int p4), .val (.long v4), .second, .val (.long v8), .second, .val (.long v12), .second, .val (.int v14), .val (.ref b15)] [(.int (2 : Int32)), (.long v4), (.long q3), (.ref b15)])) _
    exact k
  obtain ⟨cq19, kq19, q19a, q19b, q19c⟩ := isOf hZ rfl c17_0
  obtain ⟨_, _, ⟨T19, L19, k19, n19⟩, -, X19, ⟨Lc19, hQ19, l19, y19, z19⟩, st19⟩ := Y17.virtualBack hx (y := (⟨"com/example/lean_throttle/leanthrottle/TimeRing", "add", "(JJI)V"⟩ : MethodName)) (z := (⟨"com/example/lean_throttle/leanthrottle/TimeRing", "add", "(JJI)V"⟩ : MethodName)) hown (mvT hZ (hw _ (List.mem_of_getElem? (i := 20) rfl))) (mvT hZ (hw _ (List.mem_of_getElem? (i := 21) rfl))) (notFace_of_selects (args := #[]) (mvT hZ (hw _ (List.mem_of_getElem? (i := 23) rfl)))) (mvT hZ (hw _ (List.mem_of_getElem? (i := 23) rfl))) (mvT hZ (hw _ (List.mem_of_getElem? (i := 22) rfl))) (by decide) (backOf (W := 0) (rm4_0_0_1_2 l Z a0 hw [] b15 q3 v4 n1_17 n2_17 (0 : Int64) (fun _ => (0 : Int64)) (fun _ => (0 : Int64)) T17.heap n0 (Nat.le_trans Z0 K17.1) c17_0 c17_1 c17_2 c17_3 c17_4 c17_5 c17_9 c17_10 ne17_b15_n1_17 ne17_b15_n2_17 c17_8 ge15 gen1_17 gen2_17) hZ (hw _ (List.mem_of_getElem? (i := 24) rfl)) (hw _ (List.mem_of_getElem? (i := 8) rfl)) (by decide) (by decide)) q19a q19c (g := (mkF m 59 #[.val (.long q0), .second, .val (.long q1), .second, .val (.long q2), .second, .val (.long q3), .second, .val (.int p4), .val (.long v4), .second, .val (.long v8), .second, .val (.long v12), .second, .val (.int v14), .val (.ref b15)] [(.int (2 : Int32)), (.long v4), (.long q3), (.ref b15)])) rfl (by rw [hml]; rfl) (Steps.refl _) (argsL := [(.long q3), (.long v4), (.int (2 : Int32))]) (rest := []) (lenOf pd__28_JJI_29_V rfl) rfl (by show 2 * 0 + _ ≤ _; exact Nat.le_of_eq rfl) (hb hby at_59) (fun _ _ => ⟨rfl, rfl, (by decide : 3 + 0 ≤ _), (by decide : 7 + 0 ≤ _)⟩)
  dsimp only [Pt.U, Pt.locs, Pt.cells, Pt.slots] at X19 l19 y19 z19 st19 hQ19
  subst l19 y19 z19
  obtain ⟨rfl, N19q, K19c, c19_0, c19_1, c19_2, c19_3, c19_4, c19_5, c19_6, c19_7⟩ := hQ19
  have N19 := Fr.app N17 N19q
  have K19 : Keep h0 T19.heap [] := K17.trans K19c (allS (Or.inr sz15) (allS (Or.inr szn1_17) (allS (Or.inr szn2_17) all0)))
  obtain ⟨M19, Y19, N19⟩ : ∃ M, Stand p l e room_1 s m #[(.long q0), (.long q1), (.long q2), (.long q3), (.int p4)] below meth c T19 M 3 7 ∧ Fr n0 M := ⟨_, X19, N19⟩
  have pre19 : Lead p e below G (T19.setTop (mkF m 62 #[.val (.long q0), .second, .val (.long q1), .second, .val (.long q2), .second, .val (.long q3), .second, .val (.int p4), .val (.long v4), .second, .val (.long v8), .second, .val (.long v12), .second, .val (.int v14), .val (.ref b15)] [])) := fun t k => pre18 t (st19.trans k)
  have pre20 : Lead p e below G (T19.setTop (mkF m 71 #[.val (.long q0), .second, .val (.long q1), .second, .val (.long q2), .second, .val (.long q3), .second, .val (.int p4), .val (.long v4), .second, .val (.long v8), .second, .val (.long v12), .second, .val (.int v14), .val (.ref b15)] [(.int (2 : Int32)), (.long v8), (.long (q3 + (1 : Int64))), (.ref b15)])) := fun t k => by
    refine pre19 t ?_
    show Steps p.tables e below (T19.setTop (mkF m 62 #[.val (.long q0), .second, .val (.long q1), .second, .val (.long q2), .second, .val (.long q3), .second, .val (.int p4), .val (.long v4), .second, .val (.long v8), .second, .val (.long v12), .second, .val (.int v14), .val (.ref b15)] [])) _
    refine XS.aload Y19.here hx rfl (hb hby at_62) rfl rfl ?_
    show Steps p.tables e below (T19.setTop (mkF m 64 #[.val (.long q0), .second, .val (.long q1), .second, .val (.long q2), .second, .val (.long q3), .second, .val (.int p4), .val (.long v4), .second, .val (.long v8), .second, .val (.long v12), .second, .val (.int v14), .val (.ref b15)] [(.ref b15)])) _
    refine XS.lload Y19.here hx rfl (hb hby at_64) rfl ?_
    show Steps p.tables e below (T19.setTop (mkF m 66 #[.val (.long q0), .second, .val (.long q1), .second, .val (.long q2), .second, .val (.long q3), .second, .val (.int p4), .val (.long v4), .second, .val (.long v8), .second, .val (.long v12), .second, .val (.int v14), .val (.ref b15)] [(.long q3), (.ref b15)])) _
    refine XS.lconst Y19.here hx rfl (hb hby at_66) ?_
    show Steps p.tables e below (T19.setTop (mkF m 67 #[.val (.long q0), .second, .val (.long q1), .second, .val (.long q2), .second, .val (.long q3), .second, .val (.int p4), .val (.long v4), .second, .val (.long v8), .second, .val (.long v12), .second, .val (.int v14), .val (.ref b15)] [(.long (1 : Int64)), (.long q3), (.ref b15)])) _
    refine XS.ladd Y19.here hx rfl (hb hby at_67) rfl ?_
    show Steps p.tables e below (T19.setTop (mkF m 68 #[.val (.long q0), .second, .val (.long q1), .second, .val (.long q2), .second, .val (.long q3), .second, .val (.int p4), .val (.long v4), .second, .val (.long v8), .second, .val (.long v12), .second, .val (.int v14), .val (.ref b15)] [(.long (q3 + (1 : Int64))), (.ref b15)])) _
    refine XS.lload Y19.here hx rfl (hb hby at_68) rfl ?_
    show Steps p.tables e below (T19.setTop (mkF m 70 #[.val (.long q0), .second, .val (.long q1), .second, .val (.long q2), .second, .val (.long q3), .second, .val (.int p4), .val (.long v4), .second, .val (.long v8), .second, .val (.long v12), .second, .val (.int v14), .val (.ref b15)] [(.long v8), (.long (q3 + (1 : Int64))), (.ref b15)])) _
    refine XS.iconst Y19.here hx rfl (hb hby at_70) ?_
    show Steps p.tables e below (T19.setTop (mkF m 71 #[.val (.long q0), .second, .val (.long q1), .second, .val (.long q2), .second, .val (.long q3), .second, .val (.int p4), .val (.long v4), .second, .val (.long v8), .second, .val (.long v12), .second, .val (.int v14), .val (.ref b15)] [(.int (2 : Int32)), (.long v8), (.long (q3 + (1 : Int64))), (.ref b15)])) _
    exact k
  obtain ⟨cq21, kq21, q21a, q21b, q21c⟩ := isOf hZ rfl c19_0
  obtain ⟨_, _, ⟨T21, L21, k21, n21⟩, -, X21, ⟨Lc21, hQ21, l21, y21, z21⟩, st21⟩ := Y19.virtualBack hx (y := (⟨"com/example/lean_throttle/leanthrottle/TimeRing", "add", "(JJI)V"⟩ : MethodName)) (z := (⟨"com/example/lean_throttle/leanthrottle/TimeRing", "add", "(JJI)V"⟩ : MethodName)) hown (mvT hZ (hw _ (List.mem_of_getElem? (i := 20) rfl))) (mvT hZ (hw _ (List.mem_of_getElem? (i := 21) rfl))) (notFace_of_selects (args := #[]) (mvT hZ (hw _ (List.mem_of_getElem? (i := 23) rfl)))) (mvT hZ (hw _ (List.mem_of_getElem? (i := 23) rfl))) (mvT hZ (hw _ (List.mem_of_getElem? (i := 22) rfl))) (by decide) (backOf (W := 0) (rm4_0_1_1_2 l Z a0 hw [] b15 (q3 + (1 : Int64)) v8 n1_17 n2_17 (0 : Int64) (updF (fun _ => (0 : Int64)) 0 q3) (updF (fun _ => (0 : Int64)) 0 ((0 : Int64) + v4)) T19.heap n0 (Nat.le_trans Z0 K19.1) c19_0 c19_1 c19_2 c19_3 c19_4 c19_5 c19_6 c19_7 ne17_b15_n1_17 ne17_b15_n2_17 c17_8 ge15) hZ (hw _ (List.mem_of_getElem? (i := 24) rfl)) (hw _ (List.mem_of_getElem? (i := 8) rfl)) (by decide) (by decide)) q21a q21c (g := (mkF m 71 #[.val (.long q0), .second, .val (.long q1), .second, .val (.long q2), .second, .val (.long q3), .second, .val (.int p4), .val (.long v4), .second, .val (.long v8), .second, .val (.long v12), .second, .val (.int v14), .val (.ref b15)] [(.int (2 : Int32)), (.long v8), (.long (q3 + (1 : Int64))), (.ref b15)])) rfl (by rw [hml]; rfl) (Steps.refl _) (argsL := [(.long (q3 + (1 : Int64))), (.long v8), (.int (2 : Int32))]) (rest := []) (lenOf pd__28_JJI_29_V rfl) rfl (by show 2 * 0 + _ ≤ _; exact Nat.le_of_eq rfl) (hb hby at_71) (fun _ _ => ⟨rfl, rfl, (by decide : 3 + 2 ≤ _), (by decide : 7 + 4 ≤ _)⟩)
  dsimp only [Pt.U, Pt.locs, Pt.cells, Pt.slots] at X21 l21 y21 z21 st21 hQ21
  subst l21 y21 z21
  obtain ⟨n1_21, n2_21, rfl, N21q, K21c, c21_0, c21_1, c21_2, c21_3, c21_4, c21_5, c21_6, c21_7, c21_8, c21_9, c21_10⟩ := hQ21
  have N21 := Fr.app N19 N21q
  have ne21_b15_n1_21 : b15 ≠ n1_21 := Nat.ne_of_lt (Nat.lt_of_lt_of_le c19_0.lt c21_6)
  have ne21_n1_17_n1_21 : n1_17 ≠ n1_21 := Nat.ne_of_lt (Nat.lt_of_lt_of_le c19_6.lt c21_6)
  have ne21_n2_17_n1_21 : n2_17 ≠ n1_21 := Nat.ne_of_lt (Nat.lt_of_lt_of_le c19_7.lt c21_6)
  have szn1_21 : h0.size ≤ n1_21 := Nat.le_trans K19.1 c21_6
  have gen1_21 : n0 ≤ n1_21 := Nat.le_trans Z0 szn1_21
  have ne21_b15_n2_21 : b15 ≠ n2_21 := Nat.ne_of_lt (Nat.lt_of_lt_of_le c19_0.lt c21_7)
  have ne21_n1_17_n2_21 : n1_17 ≠ n2_21 := Nat.ne_of_lt (Nat.lt_of_lt_of_le c19_6.lt c21_7)
  have ne21_n2_17_n2_21 : n2_17 ≠ n2_21 := Nat.ne_of_lt (Nat.lt_of_lt_of_le c19_7.lt c21_7)
  have szn2_21 : h0.size ≤ n2_21 := Nat.le_trans K19.1 c21_7
  have gen2_21 : n0 ≤ n2_21 := Nat.le_trans Z0 szn2_21
  have K21 : Keep h0 T21.heap [] := K19.trans K21c (allS (Or.inr sz15) all0)
  obtain ⟨M21, Y21, N21⟩ : ∃ M, Stand p l e room_1 s m #[(.long q0), (.long q1), (.long q2), (.long q3), (.int p4)] below meth c T21 M 5 11 ∧ Fr n0 M := ⟨_, X21, N21⟩
  have pre21 : Lead p e below G (T21.setTop (mkF m 74 #[.val (.long q0), .second, .val (.long q1), .second, .val (.long q2), .second, .val (.long q3), .second, .val (.int p4), .val (.long v4), .second, .val (.long v8), .second, .val (.long v12), .second, .val (.int v14), .val (.ref b15)] [])) := fun t k => pre20 t (st21.trans k)
  have pre22 : Lead p e below G (T21.setTop (mkF m 76 #[.val (.long q0), .second, .val (.long q1), .second, .val (.long q2), .second, .val (.long q3), .second, .val (.int p4), .val (.long v4), .second, .val (.long v8), .second, .val (.long v12), .second, .val (.int v14), .val (.ref b15)] [(.int v14)])) := fun t k => by
    refine pre21 t ?_
    show Steps p.tables e below (T21.setTop (mkF m 74 #[.val (.long q0), .second, .val (.long q1), .second, .val (.long q2), .second, .val (.long q3), .second, .val (.int p4), .val (.long v4), .second, .val (.long v8), .second, .val (.long v12), .second, .val (.int v14), .val (.ref b15)] [])) _
    refine XS.iload Y21.here hx rfl (hb hby at_74) rfl ?_
    show Steps p.tables e below (T21.setTop (mkF m 76 #[.val (.long q0), .second, .val (.long q1), .second, .val (.long q2), .second, .val (.long q3), .second, .val (.int p4), .val (.long v4), .second, .val (.long v8), .second, .val (.long v12), .second, .val (.int v14), .val (.ref b15)] [(.int v14)])) _
    exact k
  by_cases hs76_23 : v14 = (0 : Int32)
  · have pre24 : Lead p e below G (T21.setTop (mkF m 82 #[.val (.long q0), .second, .val (.long q1), .second, .val (.long q2), .second, .val (.long q3), .second, .val (.int p4), .val (.long v4), .second, .val (.long v8), .second, .val (.long v12), .second, .val (.int v14), .val (.ref b15)] [(.int (0 : Int32)), (.ref b15)])) := fun t k => by
      refine pre22 t ?_
      show Steps p.tables e below (T21.setTop (mkF m 76 #[.val (.long q0), .second, .val (.long q1), .second, .val (.long q2), .second, .val (.long q3), .second, .val (.int p4), .val (.long v4), .second, .val (.long v8), .second, .val (.long v12), .second, .val (.int v14), .val (.ref b15)] [(.int v14)])) _
      refine XS.ifNo Y21.here hx rfl (hb hby at_76) rfl ((if0 _ _).trans (teq hs76_23).2) ?_
      show Steps p.tables e below (T21.setTop (mkF m 79 #[.val (.long q0), .second, .val (.long q1), .second, .val (.long q2), .second, .val (.long q3), .second, .val (.int p4), .val (.long v4), .second, .val (.long v8), .second, .val (.long v12), .second, .val (.int v14), .val (.ref b15)] [])) _
      refine XS.aload Y21.here hx rfl (hb hby at_79) rfl rfl ?_
      show Steps p.tables e below (T21.setTop (mkF m 81 #[.val (.long q0), .second, .val (.long q1), .second, .val (.long q2), .second, .val (.long q3), .second, .val (.int p4), .val (.long v4), .second, .val (.long v8), .second, .val (.long v12), .second, .val (.int v14), .val (.ref b15)] [(.ref b15)])) _
      refine XS.iconst Y21.here hx rfl (hb hby at_81) ?_
      show Steps p.tables e below (T21.setTop (mkF m 82 #[.val (.long q0), .second, .val (.long q1), .second, .val (.long q2), .second, .val (.long q3), .second, .val (.int p4), .val (.long v4), .second, .val (.long v8), .second, .val (.long v12), .second, .val (.int v14), .val (.ref b15)] [(.int (0 : Int32)), (.ref b15)])) _
      exact k
    obtain ⟨cq25, kq25, q25a, q25b, q25c⟩ := isOf hZ rfl c21_0
    obtain ⟨_, _, ⟨T25, L25, k25, n25⟩, -, X25, ⟨Lc25, hQ25, l25, y25, z25⟩, st25⟩ := Y21.virtualBack hx (y := (⟨"com/example/lean_throttle/leanthrottle/TimeRing", "unitsOf", "(I)J"⟩ : MethodName)) (z := (⟨"com/example/lean_throttle/leanthrottle/TimeRing", "unitsOf", "(I)J"⟩ : MethodName)) hown (mvT hZ (hw _ (List.mem_of_getElem? (i := 47) rfl))) (mvT hZ (hw _ (List.mem_of_getElem? (i := 48) rfl))) (notFace_of_selects (args := #[]) (mvT hZ (hw _ (List.mem_of_getElem? (i := 50) rfl)))) (mvT hZ (hw _ (List.mem_of_getElem? (i := 50) rfl))) (mvT hZ (hw _ (List.mem_of_getElem? (i := 49) rfl))) (by decide) (backOf (W := 0) (rm9_0_2_2_0 l Z a0 hw [] b15 n1_21 n2_21 (0 : Int64) (updF (updF (fun _ => (0 : Int64)) 0 q3) 1 (q3 + (1 : Int64))) (updF (updF (fun _ => (0 : Int64)) 0 ((0 : Int64) + v4)) 1 (((0 : Int64) + v4) + v8)) T21.heap n0 (Nat.le_trans Z0 K21.1) c21_0 c21_1 c21_2 c21_3 c21_4 c21_5 c21_9 c21_10 ne21_b15_n1_21 ne21_b15_n2_21 c21_8) hZ (hw _ (List.mem_of_getElem? (i := 51) rfl)) (hw _ (List.mem_of_getElem? (i := 8) rfl)) (by decide) (by decide)) q25a q25c (g := (mkF m 82 #[.val (.long q0), .second, .val (.long q1), .second, .val (.long q2), .second, .val (.long q3), .second, .val (.int p4), .val (.long v4), .second, .val (.long v8), .second, .val (.long v12), .second, .val (.int v14), .val (.ref b15)] [(.int (0 : Int32)), (.ref b15)])) rfl (by rw [hml]; rfl) (Steps.refl _) (argsL := [(.int (0 : Int32))]) (rest := []) (lenOf pd__28_I_29_J rfl) rfl (by show 2 * 0 + _ ≤ _; exact Nat.le_of_eq rfl) (hb hby at_82) (fun _ _ => ⟨rfl, rfl, (by decide : 5 + 0 ≤ _), (by decide : 11 + 0 ≤ _)⟩)
    dsimp only [Pt.U, Pt.locs, Pt.cells, Pt.slots] at X25 l25 y25 z25 st25 hQ25
    subst l25 y25 z25
    obtain ⟨rfl, N25q, e25⟩ := hQ25
    have N25 := Fr.app N21 N25q
    obtain ⟨M25, Y25, N25⟩ : ∃ M, Stand p l e room_1 s m #[(.long q0), (.long q1), (.long q2), (.long q3), (.int p4)] below meth c T25 M 5 11 ∧ Fr n0 M := ⟨_, X25, N25⟩
    have pre25 : Lead p e below G (T25.setTop (mkF m 85 #[.val (.long q0), .second, .val (.long q1), .second, .val (.long q2), .second, .val (.long q3), .second, .val (.int p4), .val (.long v4), .second, .val (.long v8), .second, .val (.long v12), .second, .val (.int v14), .val (.ref b15)] [(.long (((0 : Int64) + v4) - (0 : Int64)))])) := fun t k => pre24 t (st25.trans k)
    have pre27 : Lead p e below G (T25.setTop (mkF m 88 #[.val (.long q0), .second, .val (.long q1), .second, .val (.long q2), .second, .val (.long q3), .second, .val (.int p4), .val (.long v4), .second, .val (.long v8), .second, .val (.long v12), .second, .val (.int v14), .val (.ref b15)] [(.int (lcmpW (((0 : Int64) + v4) - (0 : Int64)) v4))])) := fun t k => by
      refine pre25 t ?_
      show Steps p.tables e below (T25.setTop (mkF m 85 #[.val (.long q0), .second, .val (.long q1), .second, .val (.long q2), .second, .val (.long q3), .second, .val (.int p4), .val (.long v4), .second, .val (.long v8), .second, .val (.long v12), .second, .val (.int v14), .val (.ref b15)] [(.long (((0 : Int64) + v4) - (0 : Int64)))])) _
      refine XS.lload Y25.here hx rfl (hb hby at_85) rfl ?_
      show Steps p.tables e below (T25.setTop (mkF m 87 #[.val (.long q0), .second, .val (.long q1), .second, .val (.long q2), .second, .val (.long q3), .second, .val (.int p4), .val (.long v4), .second, .val (.long v8), .second, .val (.long v12), .second, .val (.int v14), .val (.ref b15)] [(.long v4), (.long (((0 : Int64) + v4) - (0 : Int64)))])) _
      refine XS.lcmp Y25.here hx rfl (hb hby at_87) rfl ?_
      show Steps p.tables e below (T25.setTop (mkF m 88 #[.val (.long q0), .second, .val (.long q1), .second, .val (.long q2), .second, .val (.long q3), .second, .val (.int p4), .val (.long v4), .second, .val (.long v8), .second, .val (.long v12), .second, .val (.int v14), .val (.ref b15)] [(.int (lcmpW (((0 : Int64) + v4) - (0 : Int64)) v4))])) _
      exact k
    by_cases hs88_28 : (((0 : Int64) + v4) - (0 : Int64)) = v4
    · have pre29 : Lead p e below G (T25.setTop (mkF m 94 #[.val (.long q0), .second, .val (.long q1), .second, .val (.long q2), .second, .val (.long q3), .second, .val (.int p4), .val (.long v4), .second, .val (.long v8), .second, .val (.long v12), .second, .val (.int v14), .val (.ref b15)] [(.int (1 : Int32)), (.ref b15)])) := fun t k => by
        refine pre27 t ?_
        show Steps p.tables e below (T25.setTop (mkF m 88 #[.val (.long q0), .second, .val (.long q1), .second, .val (.long q2), .second, .val (.long q3), .second, .val (.int p4), .val (.long v4), .second, .val (.long v8), .second, .val (.long v12), .second, .val (.int v14), .val (.ref b15)] [(.int (lcmpW (((0 : Int64) + v4) - (0 : Int64)) v4))])) _
        refine XS.ifNo Y25.here hx rfl (hb hby at_88) rfl ((if0 _ _).trans (teq (own_lc_eq.mpr hs88_28)).2) ?_
        show Steps p.tables e below (T25.setTop (mkF m 91 #[.val (.long q0), .second, .val (.long q1), .second, .val (.long q2), .second, .val (.long q3), .second, .val (.int p4), .val (.long v4), .second, .val (.long v8), .second, .val (.long v12), .second, .val (.int v14), .val (.ref b15)] [])) _
        refine XS.aload Y25.here hx rfl (hb hby at_91) rfl rfl ?_
        show Steps p.tables e below (T25.setTop (mkF m 93 #[.val (.long q0), .second, .val (.long q1), .second, .val (.long q2), .second, .val (.long q3), .second, .val (.int p4), .val (.long v4), .second, .val (.long v8), .second, .val (.long v12), .second, .val (.int v14), .val (.ref b15)] [(.ref b15)])) _
        refine XS.iconst Y25.here hx rfl (hb hby at_93) ?_
        show Steps p.tables e below (T25.setTop (mkF m 94 #[.val (.long q0), .second, .val (.long q1), .second, .val (.long q2), .second, .val (.long q3), .second, .val (.int p4), .val (.long v4), .second, .val (.long v8), .second, .val (.long v12), .second, .val (.int v14), .val (.ref b15)] [(.int (1 : Int32)), (.ref b15)])) _
        exact k
      obtain ⟨cq30, kq30, q30a, q30b, q30c⟩ := isOf hZ e25 c21_0
      obtain ⟨_, _, ⟨T30, L30, k30, n30⟩, -, X30, ⟨Lc30, hQ30, l30, y30, z30⟩, st30⟩ := Y25.virtualBack hx (y := (⟨"com/example/lean_throttle/leanthrottle/TimeRing", "unitsOf", "(I)J"⟩ : MethodName)) (z := (⟨"com/example/lean_throttle/leanthrottle/TimeRing", "unitsOf", "(I)J"⟩ : MethodName)) hown (mvT hZ (hw _ (List.mem_of_getElem? (i := 47) rfl))) (mvT hZ (hw _ (List.mem_of_getElem? (i := 48) rfl))) (notFace_of_selects (args := #[]) (mvT hZ (hw _ (List.mem_of_getElem? (i := 50) rfl)))) (mvT hZ (hw _ (List.mem_of_getElem? (i := 50) rfl))) (mvT hZ (hw _ (List.mem_of_getElem? (i := 49) rfl))) (by decide) (backOf (W := 0) (rm9_0_2_2_1 l Z a0 hw [] b15 n1_21 n2_21 (0 : Int64) (updF (updF (fun _ => (0 : Int64)) 0 q3) 1 (q3 + (1 : Int64))) (updF (updF (fun _ => (0 : Int64)) 0 ((0 : Int64) + v4)) 1 (((0 : Int64) + v4) + v8)) T21.heap n0 (Nat.le_trans Z0 K21.1) c21_0 c21_1 c21_2 c21_3 c21_4 c21_5 c21_9 c21_10 ne21_b15_n1_21 ne21_b15_n2_21 c21_8) hZ (hw _ (List.mem_of_getElem? (i := 51) rfl)) (hw _ (List.mem_of_getElem? (i := 8) rfl)) (by decide) (by decide)) q30a q30c (g := (mkF m 94 #[.val (.long q0), .second, .val (.long q1), .second, .val (.long q2), .second, .val (.long q3), .second, .val (.int p4), .val (.long v4), .second, .val (.long v8), .second, .val (.long v12), .second, .val (.int v14), .val (.ref b15)] [(.int (1 : Int32)), (.ref b15)])) rfl (by rw [hml]; rfl) (Steps.refl _) (argsL := [(.int (1 : Int32))]) (rest := []) (lenOf pd__28_I_29_J rfl) rfl (by show 2 * 0 + _ ≤ _; exact Nat.le_of_eq rfl) (hb hby at_94) (fun _ _ => ⟨rfl, e25, (by decide : 5 + 0 ≤ _), (by decide : 11 + 0 ≤ _)⟩)
      dsimp only [Pt.U, Pt.locs, Pt.cells, Pt.slots] at X30 l30 y30 z30 st30 hQ30
      subst l30 y30 z30
      obtain ⟨rfl, N30q, e30⟩ := hQ30
      have N30 := Fr.app N25 N30q
      obtain ⟨M30, Y30, N30⟩ : ∃ M, Stand p l e room_1 s m #[(.long q0), (.long q1), (.long q2), (.long q3), (.int p4)] below meth c T30 M 5 11 ∧ Fr n0 M := ⟨_, X30, N30⟩
      have pre30 : Lead p e below G (T30.setTop (mkF m 97 #[.val (.long q0), .second, .val (.long q1), .second, .val (.long q2), .second, .val (.long q3), .second, .val (.int p4), .val (.long v4), .second, .val (.long v8), .second, .val (.long v12), .second, .val (.int v14), .val (.ref b15)] [(.long ((((0 : Int64) + v4) + v8) - ((0 : Int64) + v4)))])) := fun t k => pre29 t (st30.trans k)
      have pre33 : Lead p e below G (T30.setTop (mkF m 108 #[.val (.long q0), .second, .val (.long q1), .second, .val (.long q2), .second, .val (.long q3), .second, .val (.int p4), .val (.long v4), .second, .val (.long v8), .second, .val (.long v12), .second, .val (.int v14), .val (.ref b15)] [(.int (if ((((0 : Int64) + v4) + v8) - ((0 : Int64) + v4)) = v8 then (1 : Int32) else (0 : Int32)))])) := fun t k => by
        refine pre30 t ?_
        show Steps p.tables e below (T30.setTop (mkF m 97 #[.val (.long q0), .second, .val (.long q1), .second, .val (.long q2), .second, .val (.long q3), .second, .val (.int p4), .val (.long v4), .second, .val (.long v8), .second, .val (.long v12), .second, .val (.int v14), .val (.ref b15)] [(.long ((((0 : Int64) + v4) + v8) - ((0 : Int64) + v4)))])) _
        refine XS.lload Y30.here hx rfl (hb hby at_97) rfl ?_
        show Steps p.tables e below (T30.setTop (mkF m 99 #[.val (.long q0), .second, .val (.long q1), .second, .val (.long q2), .second, .val (.long q3), .second, .val (.int p4), .val (.long v4), .second, .val (.long v8), .second, .val (.long v12), .second, .val (.int v14), .val (.ref b15)] [(.long v8), (.long ((((0 : Int64) + v4) + v8) - ((0 : Int64) + v4)))])) _
        refine XS.lcmp Y30.here hx rfl (hb hby at_99) rfl ?_
        show Steps p.tables e below (T30.setTop (mkF m 100 #[.val (.long q0), .second, .val (.long q1), .second, .val (.long q2), .second, .val (.long q3), .second, .val (.int p4), .val (.long v4), .second, .val (.long v8), .second, .val (.long v12), .second, .val (.int v14), .val (.ref b15)] [(.int (lcmpW ((((0 : Int64) + v4) + v8) - ((0 : Int64) + v4)) v8))])) _
        have j32 : ∀ t, Steps p.tables e below (T30.setTop (mkF m 108 #[.val (.long q0), .second, .val (.long q1), .second, .val (.long q2), .second, .val (.long q3), .second, .val (.int p4), .val (.long v4), .second, .val (.long v8), .second, .val (.long v12), .second, .val (.int v14), .val (.ref b15)] [(.int (if ((((0 : Int64) + v4) + v8) - ((0 : Int64) + v4)) = v8 then (1 : Int32) else (0 : Int32)))])) t → Steps p.tables e below (T30.setTop (mkF m 100 #[.val (.long q0), .second, .val (.long q1), .second, .val (.long q2), .second, .val (.long q3), .second, .val (.int p4), .val (.long v4), .second, .val (.long v8), .second, .val (.long v12), .second, .val (.int v14), .val (.ref b15)] [(.int (lcmpW ((((0 : Int64) + v4) + v8) - ((0 : Int64) + v4)) v8))])) t := fun t k => by
          by_cases hc100_31 : ((((0 : Int64) + v4) + v8) - ((0 : Int64) + v4)) = v8
          · simp only [if_pos hc100_31] at k
            refine XS.ifNo Y30.here hx rfl (hb hby at_100) rfl ((if0 _ _).trans (teq (own_lc_eq.mpr hc100_31)).2) ?_
            show Steps p.tables e below (T30.setTop (mkF m 103 #[.val (.long q0), .second, .val (.long q1), .second, .val (.long q2), .second, .val (.long q3), .second, .val (.int p4), .val (.long v4), .second, .val (.long v8), .second, .val (.long v12), .second, .val (.int v14), .val (.ref b15)] [])) _
            refine XS.iconst Y30.here hx rfl (hb hby at_103) ?_
            show Steps p.tables e below (T30.setTop (mkF m 104 #[.val (.long q0), .second, .val (.long q1), .second, .val (.long q2), .second, .val (.long q3), .second, .val (.int p4), .val (.long v4), .second, .val (.long v8), .second, .val (.long v12), .second, .val (.int v14), .val (.ref b15)] [(.int (1 : Int32))])) _
            refine XS.goto Y30.here hx rfl (pc0 := 104) (pc' := 108) rfl (hb hby at_104) (by decide) (by decide) ?_
            show Steps p.tables e below (T30.setTop (mkF m 108 #[.val (.long q0), .second, .val (.long q1), .second, .val (.long q2), .second, .val (.long q3), .second, .val (.int p4), .val (.long v4), .second, .val (.long v8), .second, .val (.long v12), .second, .val (.int v14), .val (.ref b15)] [(.int (1 : Int32))])) _
            exact k
          · simp only [if_neg hc100_31] at k
            refine XS.ifYes Y30.here hx rfl (pc0 := 100) (pc' := 107) rfl (hb hby at_100) rfl ((if0 _ _).trans (feq (fun q => hc100_31 (own_lc_eq.mp q))).2) (by decide) (by decide) ?_
            show Steps p.tables e below (T30.setTop (mkF m 107 #[.val (.long q0), .second, .val (.long q1), .second, .val (.long q2), .second, .val (.long q3), .second, .val (.int p4), .val (.long v4), .second, .val (.long v8), .second, .val (.long v12), .second, .val (.int v14), .val (.ref b15)] [])) _
            refine XS.iconst Y30.here hx rfl (hb hby at_107) ?_
            show Steps p.tables e below (T30.setTop (mkF m 108 #[.val (.long q0), .second, .val (.long q1), .second, .val (.long q2), .second, .val (.long q3), .second, .val (.int p4), .val (.long v4), .second, .val (.long v8), .second, .val (.long v12), .second, .val (.int v14), .val (.ref b15)] [(.int (0 : Int32))])) _
            exact k
        refine j32 _ ?_
        show Steps p.tables e below (T30.setTop (mkF m 108 #[.val (.long q0), .second, .val (.long q1), .second, .val (.long q2), .second, .val (.long q3), .second, .val (.int p4), .val (.long v4), .second, .val (.long v8), .second, .val (.long v12), .second, .val (.int v14), .val (.ref b15)] [(.int (if ((((0 : Int64) + v4) + v8) - ((0 : Int64) + v4)) = v8 then (1 : Int32) else (0 : Int32)))])) _
        exact k
      obtain ⟨v34, hv34⟩ : ∃ z : Int32, z = (if ((((0 : Int64) + v4) + v8) - ((0 : Int64) + v4)) = v8 then (1 : Int32) else (0 : Int32)) := ⟨_, rfl⟩
      have pre34 : Lead p e below G (T30.setTop (mkF m 108 #[.val (.long q0), .second, .val (.long q1), .second, .val (.long q2), .second, .val (.long q3), .second, .val (.int p4), .val (.long v4), .second, .val (.long v8), .second, .val (.long v12), .second, .val (.int v14), .val (.ref b15)] [(.int v34)])) := by rw [hv34]; exact pre33
      obtain ⟨fs, hr, hrun, hended, hW, hsame⟩ := Y30.leave (v := some (.int (nar .boolean v34))) (fun h => by rw [Bd.returns] at h; cases h)
      subst hG
      refine ⟨_, _, pre34 _ ?_, hrun, hended, _, _, rfl, ?_, ⟨_, rfl⟩, hW, hsame.mono (by decide) (by decide)⟩
      · show Steps p.tables e below (T30.setTop (mkF m 108 #[.val (.long q0), .second, .val (.long q1), .second, .val (.long q2), .second, .val (.long q3), .second, .val (.int p4), .val (.long v4), .second, .val (.long v8), .second, .val (.long v12), .second, .val (.int v14), .val (.ref b15)] [(.int v34)])) _
        exact retN Y30 hx (t := .boolean) Bd.returns (by simp) (hb hby at_108) hr
      · show Q0 Z q0 q1 q2 q3 p4 h0 n0 _ T30.heap _
        refine ⟨congrArg (fun z => some (Value.int z)) (Eq.trans (?_ : (nar .boolean v34) = F0 q0 q1 q2 q3 p4) (own_law q0 q1 q2 q3 p4)), N30⟩
        subst hv34 hv14 hv12 hv8 hv4
        refine Eq.symm ?_; unfold F0; refine Eq.trans (if_pos hs76_23) ?_; refine Eq.trans (if_pos hs88_28) ?_; rfl
    · obtain ⟨fs, hr, hrun, hended, hW, hsame⟩ := Y25.leave (v := some (.int (nar .boolean (0 : Int32)))) (fun h => by rw [Bd.returns] at h; cases h)
      subst hG
      refine ⟨_, _, pre27 _ ?_, hrun, hended, _, _, rfl, ?_, ⟨_, rfl⟩, hW, hsame.mono (by decide) (by decide)⟩
      · show Steps p.tables e below (T25.setTop (mkF m 88 #[.val (.long q0), .second, .val (.long q1), .second, .val (.long q2), .second, .val (.long q3), .second, .val (.int p4), .val (.long v4), .second, .val (.long v8), .second, .val (.long v12), .second, .val (.int v14), .val (.ref b15)] [(.int (lcmpW (((0 : Int64) + v4) - (0 : Int64)) v4))])) _
        refine XS.ifYes Y25.here hx rfl (pc0 := 88) (pc' := 107) rfl (hb hby at_88) rfl ((if0 _ _).trans (feq (fun q => hs88_28 (own_lc_eq.mp q))).2) (by decide) (by decide) ?_
        show Steps p.tables e below (T25.setTop (mkF m 107 #[.val (.long q0), .second, .val (.long q1), .second, .val (.long q2), .second, .val (.long q3), .second, .val (.int p4), .val (.long v4), .second, .val (.long v8), .second, .val (.long v12), .second, .val (.int v14), .val (.ref b15)] [])) _
        refine XS.iconst Y25.here hx rfl (hb hby at_107) ?_
        show Steps p.tables e below (T25.setTop (mkF m 108 #[.val (.long q0), .second, .val (.long q1), .second, .val (.long q2), .second, .val (.long q3), .second, .val (.int p4), .val (.long v4), .second, .val (.long v8), .second, .val (.long v12), .second, .val (.int v14), .val (.ref b15)] [(.int (0 : Int32))])) _
        exact retN Y25 hx (t := .boolean) Bd.returns (by simp) (hb hby at_108) hr
      · show Q0 Z q0 q1 q2 q3 p4 h0 n0 _ T25.heap _
        refine ⟨congrArg (fun z => some (Value.int z)) (Eq.trans (?_ : (nar .boolean (0 : Int32)) = F0 q0 q1 q2 q3 p4) (own_law q0 q1 q2 q3 p4)), N25⟩
        subst hv14 hv12 hv8 hv4
        refine Eq.symm ?_; unfold F0; refine Eq.trans (if_pos hs76_23) ?_; refine Eq.trans (if_neg hs88_28) ?_; rfl
  · have pre35 : Lead p e below G (T21.setTop (mkF m 111 #[.val (.long q0), .second, .val (.long q1), .second, .val (.long q2), .second, .val (.long q3), .second, .val (.int p4), .val (.long v4), .second, .val (.long v8), .second, .val (.long v12), .second, .val (.int v14), .val (.ref b15)] [(.ref b15)])) := fun t k => by
      refine pre22 t ?_
      show Steps p.tables e below (T21.setTop (mkF m 76 #[.val (.long q0), .second, .val (.long q1), .second, .val (.long q2), .second, .val (.long q3), .second, .val (.int p4), .val (.long v4), .second, .val (.long v8), .second, .val (.long v12), .second, .val (.int v14), .val (.ref b15)] [(.int v14)])) _
      refine XS.ifYes Y21.here hx rfl (pc0 := 76) (pc' := 109) rfl (hb hby at_76) rfl ((if0 _ _).trans (feq hs76_23).2) (by decide) (by decide) ?_
      show Steps p.tables e below (T21.setTop (mkF m 109 #[.val (.long q0), .second, .val (.long q1), .second, .val (.long q2), .second, .val (.long q3), .second, .val (.int p4), .val (.long v4), .second, .val (.long v8), .second, .val (.long v12), .second, .val (.int v14), .val (.ref b15)] [])) _
      refine XS.aload Y21.here hx rfl (hb hby at_109) rfl rfl ?_
      show Steps p.tables e below (T21.setTop (mkF m 111 #[.val (.long q0), .second, .val (.long q1), .second, .val (.long q2), .second, .val (.long q3), .second, .val (.int p4), .val (.long v4), .second, .val (.long v8), .second, .val (.long v12), .second, .val (.int v14), .val (.ref b15)] [(.ref b15)])) _
      exact k
    obtain ⟨cq36, kq36, q36a, q36b, q36c⟩ := isOf hZ rfl c21_0
    obtain ⟨_, _, ⟨T36, L36, k36, n36⟩, -, X36, ⟨Lc36, hQ36, l36, y36, z36⟩, st36⟩ := Y21.virtualBack hx (y := (⟨"com/example/lean_throttle/leanthrottle/TimeRing", "dropOldest", "()V"⟩ : MethodName)) (z := (⟨"com/example/lean_throttle/leanthrottle/TimeRing", "dropOldest", "()V"⟩ : MethodName)) hown (mvT hZ (hw _ (List.mem_of_getElem? (i := 52) rfl))) (mvT hZ (hw _ (List.mem_of_getElem? (i := 53) rfl))) (notFace_of_selects (args := #[]) (mvT hZ (hw _ (List.mem_of_getElem? (i := 55) rfl)))) (mvT hZ (hw _ (List.mem_of_getElem? (i := 55) rfl))) (mvT hZ (hw _ (List.mem_of_getElem? (i := 54) rfl))) (by decide) (backOf (W := 0) (rm10_0_2_2 l Z a0 hw [] b15 n1_21 n2_21 (0 : Int64) (updF (updF (fun _ => (0 : Int64)) 0 q3) 1 (q3 + (1 : Int64))) (updF (updF (fun _ => (0 : Int64)) 0 ((0 : Int64) + v4)) 1 (((0 : Int64) + v4) + v8)) T21.heap n0 (Nat.le_trans Z0 K21.1) c21_0 c21_1 c21_2 c21_3 c21_4 c21_5 c21_9 c21_10 ne21_b15_n1_21 ne21_b15_n2_21 c21_8 ge15) hZ (hw _ (List.mem_of_getElem? (i := 56) rfl)) (hw _ (List.mem_of_getElem? (i := 8) rfl)) (by decide) (by decide)) q36a q36c (g := (mkF m 111 #[.val (.long q0), .second, .val (.long q1), .second, .val (.long q2), .second, .val (.long q3), .second, .val (.int p4), .val (.long v4), .second, .val (.long v8), .second, .val (.long v12), .second, .val (.int v14), .val (.ref b15)] [(.ref b15)])) rfl (by rw [hml]; rfl) (Steps.refl _) (argsL := []) (rest := []) (lenOf pd__28__29_V rfl) rfl (by show 2 * 0 + _ ≤ _; exact Nat.le_of_eq rfl) (hb hby at_111) (fun _ _ => ⟨rfl, rfl, (by decide : 5 + 0 ≤ _), (by decide : 11 + 0 ≤ _)⟩)
    dsimp only [Pt.U, Pt.locs, Pt.cells, Pt.slots] at X36 l36 y36 z36 st36 hQ36
    subst l36 y36 z36
    obtain ⟨rfl, N36q, K36c, c36_0, c36_1, c36_2, c36_3, c36_4, c36_5⟩ := hQ36
    have N36 := Fr.app N21 N36q
    have K36 : Keep h0 T36.heap [] := K21.trans K36c (allS (Or.inr sz15) all0)
    obtain ⟨M36, Y36, N36⟩ : ∃ M, Stand p l e room_1 s m #[(.long q0), (.long q1), (.long q2), (.long q3), (.int p4)] below meth c T36 M 5 11 ∧ Fr n0 M := ⟨_, X36, N36⟩
    have pre36 : Lead p e below G (T36.setTop (mkF m 114 #[.val (.long q0), .second, .val (.long q1), .second, .val (.long q2), .second, .val (.long q3), .second, .val (.int p4), .val (.long v4), .second, .val (.long v8), .second, .val (.long v12), .second, .val (.int v14), .val (.ref b15)] [])) := fun t k => pre35 t (st36.trans k)
    have pre37 : Lead p e below G (T36.setTop (mkF m 125 #[.val (.long q0), .second, .val (.long q1), .second, .val (.long q2), .second, .val (.long q3), .second, .val (.int p4), .val (.long v4), .second, .val (.long v8), .second, .val (.long v12), .second, .val (.int v14), .val (.ref b15)] [(.int (2 : Int32)), (.long v12), (.long (q3 + (2 : Int64))), (.ref b15)])) := fun t k => by
      refine pre36 t ?_
      show Steps p.tables e below (T36.setTop (mkF m 114 #[.val (.long q0), .second, .val (.long q1), .second, .val (.long q2), .second, .val (.long q3), .second, .val (.int p4), .val (.long v4), .second, .val (.long v8), .second, .val (.long v12), .second, .val (.int v14), .val (.ref b15)] [])) _
      refine XS.aload Y36.here hx rfl (hb hby at_114) rfl rfl ?_
      show Steps p.tables e below (T36.setTop (mkF m 116 #[.val (.long q0), .second, .val (.long q1), .second, .val (.long q2), .second, .val (.long q3), .second, .val (.int p4), .val (.long v4), .second, .val (.long v8), .second, .val (.long v12), .second, .val (.int v14), .val (.ref b15)] [(.ref b15)])) _
      refine XS.lload Y36.here hx rfl (hb hby at_116) rfl ?_
      show Steps p.tables e below (T36.setTop (mkF m 118 #[.val (.long q0), .second, .val (.long q1), .second, .val (.long q2), .second, .val (.long q3), .second, .val (.int p4), .val (.long v4), .second, .val (.long v8), .second, .val (.long v12), .second, .val (.int v14), .val (.ref b15)] [(.long q3), (.ref b15)])) _
      refine Y36.ldc2Long hx hown (mvT hZ (hw _ (List.mem_of_getElem? (i := 57) rfl))) (g := (mkF m 118 #[.val (.long q0), .second, .val (.long q1), .second, .val (.long q2), .second, .val (.long q3), .second, .val (.int p4), .val (.long v4), .second, .val (.long v8), .second, .val (.long v12), .second, .val (.int v14), .val (.ref b15)] [(.long q3), (.ref b15)])) rfl (hb hby at_118) _ ?_
      show Steps p.tables e below (T36.setTop (mkF m 121 #[.val (.long q0), .second, .val (.long q1), .second, .val (.long q2), .second, .val (.long q3), .second, .val (.int p4), .val (.long v4), .second, .val (.long v8), .second, .val (.long v12), .second, .val (.int v14), .val (.ref b15)] [(.long (2 : Int64)), (.long q3), (.ref b15)])) _
      refine XS.ladd Y36.here hx rfl (hb hby at_121) rfl ?_
      show Steps p.tables e below (T36.setTop (mkF m 122 #[.val (.long q0), .second, .val (.long q1), .second, .val (.long q2), .second, .val (.long q3), .second, .val (.int p4), .val (.long v4), .second, .val (.long v8), .second, .val (.long v12), .second, .val (.int v14), .val (.ref b15)] [(.long (q3 + (2 : Int64))), (.ref b15)])) _
      refine XS.lload Y36.here hx rfl (hb hby at_122) rfl ?_
      show Steps p.tables e below (T36.setTop (mkF m 124 #[.val (.long q0), .second, .val (.long q1), .second, .val (.long q2), .second, .val (.long q3), .second, .val (.int p4), .val (.long v4), .second, .val (.long v8), .second, .val (.long v12), .second, .val (.int v14), .val (.ref b15)] [(.long v12), (.long (q3 + (2 : Int64))), (.ref b15)])) _
      refine XS.iconst Y36.here hx rfl (hb hby at_124) ?_
      show Steps p.tables e below (T36.setTop (mkF m 125 #[.val (.long q0), .second, .val (.long q1), .second, .val (.long q2), .second, .val (.long q3), .second, .val (.int p4), .val (.long v4), .second, .val (.long v8), .second, .val (.long v12), .second, .val (.int v14), .val (.ref b15)] [(.int (2 : Int32)), (.long v12), (.long (q3 + (2 : Int64))), (.ref b15)])) _
      exact k
    have f39 : JV Value.long Z T36.heap n1_21 .long (2 : Int32) (updF (updF (fun _ => (0 : Int64)) 0 q3) 1 (q3 + (1 : Int64))) := (c21_9.keep K36c (ninS (Ne.symm ne21_b15_n1_21) nin0))
    have f40 : JV Value.long Z T36.heap n2_21 .long (2 : Int32) (updF (updF (fun _ => (0 : Int64)) 0 ((0 : Int64) + v4)) 1 (((0 : Int64) + v4) + v8)) := (c21_10.keep K36c (ninS (Ne.symm ne21_b15_n2_21) nin0))
    obtain ⟨cq38, kq38, q38a, q38b, q38c⟩ := isOf hZ rfl c36_0
    obtain ⟨_, _, ⟨T38, L38, k38, n38⟩, -, X38, ⟨Lc38, hQ38, l38, y38, z38⟩, st38⟩ := Y36.virtualBack hx (y := (⟨"com/example/lean_throttle/leanthrottle/TimeRing", "add", "(JJI)V"⟩ : MethodName)) (z := (⟨"com/example/lean_throttle/leanthrottle/TimeRing", "add", "(JJI)V"⟩ : MethodName)) hown (mvT hZ (hw _ (List.mem_of_getElem? (i := 20) rfl))) (mvT hZ (hw _ (List.mem_of_getElem? (i := 21) rfl))) (notFace_of_selects (args := #[]) (mvT hZ (hw _ (List.mem_of_getElem? (i := 23) rfl)))) (mvT hZ (hw _ (List.mem_of_getElem? (i := 23) rfl))) (mvT hZ (hw _ (List.mem_of_getElem? (i := 22) rfl))) (by decide) (backOf (W := 0) (rm4_1_1_2_2 l Z a0 hw [] b15 (q3 + (2 : Int64)) v12 n1_21 n2_21 ((0 : Int64) + v4) (updF (updF (fun _ => (0 : Int64)) 0 q3) 1 (q3 + (1 : Int64))) (updF (updF (fun _ => (0 : Int64)) 0 ((0 : Int64) + v4)) 1 (((0 : Int64) + v4) + v8)) T36.heap n0 (Nat.le_trans Z0 K36.1) c36_0 c36_1 c36_2 c36_3 c36_4 c36_5 f39 f40 ne21_b15_n1_21 ne21_b15_n2_21 c21_8 ge15 gen1_21 gen2_21) hZ (hw _ (List.mem_of_getElem? (i := 24) rfl)) (hw _ (List.mem_of_getElem? (i := 8) rfl)) (by decide) (by decide)) q38a q38c (g := (mkF m 125 #[.val (.long q0), .second, .val (.long q1), .second, .val (.long q2), .second, .val (.long q3), .second, .val (.int p4), .val (.long v4), .second, .val (.long v8), .second, .val (.long v12), .second, .val (.int v14), .val (.ref b15)] [(.int (2 : Int32)), (.long v12), (.long (q3 + (2 : Int64))), (.ref b15)])) rfl (by rw [hml]; rfl) (Steps.refl _) (argsL := [(.long (q3 + (2 : Int64))), (.long v12), (.int (2 : Int32))]) (rest := []) (lenOf pd__28_JJI_29_V rfl) rfl (by show 2 * 0 + _ ≤ _; exact Nat.le_of_eq rfl) (hb hby at_125) (fun _ _ => ⟨rfl, rfl, (by decide : 5 + 0 ≤ _), (by decide : 11 + 0 ≤ _)⟩)
    dsimp only [Pt.U, Pt.locs, Pt.cells, Pt.slots] at X38 l38 y38 z38 st38 hQ38
    subst l38 y38 z38
    obtain ⟨rfl, N38q, K38c, c38_0, c38_1, c38_2, c38_3, c38_4, c38_5, c38_6, c38_7⟩ := hQ38
    have N38 := Fr.app N36 N38q
    have K38 : Keep h0 T38.heap [] := K36.trans K38c (allS (Or.inr sz15) (allS (Or.inr szn1_21) (allS (Or.inr szn2_21) all0)))
    obtain ⟨M38, Y38, N38⟩ : ∃ M, Stand p l e room_1 s m #[(.long q0), (.long q1), (.long q2), (.long q3), (.int p4)] below meth c T38 M 5 11 ∧ Fr n0 M := ⟨_, X38, N38⟩
    have pre38 : Lead p e below G (T38.setTop (mkF m 128 #[.val (.long q0), .second, .val (.long q1), .second, .val (.long q2), .second, .val (.long q3), .second, .val (.int p4), .val (.long v4), .second, .val (.long v8), .second, .val (.long v12), .second, .val (.int v14), .val (.ref b15)] [])) := fun t k => pre37 t (st38.trans k)
    have pre41 : Lead p e below G (T38.setTop (mkF m 131 #[.val (.long q0), .second, .val (.long q1), .second, .val (.long q2), .second, .val (.long q3), .second, .val (.int p4), .val (.long v4), .second, .val (.long v8), .second, .val (.long v12), .second, .val (.int v14), .val (.ref b15)] [(.int (1 : Int32)), (.int v14)])) := fun t k => by
      refine pre38 t ?_
      show Steps p.tables e below (T38.setTop (mkF m 128 #[.val (.long q0), .second, .val (.long q1), .second, .val (.long q2), .second, .val (.long q3), .second, .val (.int p4), .val (.long v4), .second, .val (.long v8), .second, .val (.long v12), .second, .val (.int v14), .val (.ref b15)] [])) _
      refine XS.iload Y38.here hx rfl (hb hby at_128) rfl ?_
      show Steps p.tables e below (T38.setTop (mkF m 130 #[.val (.long q0), .second, .val (.long q1), .second, .val (.long q2), .second, .val (.long q3), .second, .val (.int p4), .val (.long v4), .second, .val (.long v8), .second, .val (.long v12), .second, .val (.int v14), .val (.ref b15)] [(.int v14)])) _
      refine XS.iconst Y38.here hx rfl (hb hby at_130) ?_
      show Steps p.tables e below (T38.setTop (mkF m 131 #[.val (.long q0), .second, .val (.long q1), .second, .val (.long q2), .second, .val (.long q3), .second, .val (.int p4), .val (.long v4), .second, .val (.long v8), .second, .val (.long v12), .second, .val (.int v14), .val (.ref b15)] [(.int (1 : Int32)), (.int v14)])) _
      exact k
    by_cases hs131_42 : v14 = (1 : Int32)
    · have pre43 : Lead p e below G (T38.setTop (mkF m 137 #[.val (.long q0), .second, .val (.long q1), .second, .val (.long q2), .second, .val (.long q3), .second, .val (.int p4), .val (.long v4), .second, .val (.long v8), .second, .val (.long v12), .second, .val (.int v14), .val (.ref b15)] [(.int (0 : Int32)), (.ref b15)])) := fun t k => by
        refine pre41 t ?_
        show Steps p.tables e below (T38.setTop (mkF m 131 #[.val (.long q0), .second, .val (.long q1), .second, .val (.long q2), .second, .val (.long q3), .second, .val (.int p4), .val (.long v4), .second, .val (.long v8), .second, .val (.long v12), .second, .val (.int v14), .val (.ref b15)] [(.int (1 : Int32)), (.int v14)])) _
        refine XS.icmpNo Y38.here hx rfl (hb hby at_131) rfl (teq hs131_42).2 ?_
        show Steps p.tables e below (T38.setTop (mkF m 134 #[.val (.long q0), .second, .val (.long q1), .second, .val (.long q2), .second, .val (.long q3), .second, .val (.int p4), .val (.long v4), .second, .val (.long v8), .second, .val (.long v12), .second, .val (.int v14), .val (.ref b15)] [])) _
        refine XS.aload Y38.here hx rfl (hb hby at_134) rfl rfl ?_
        show Steps p.tables e below (T38.setTop (mkF m 136 #[.val (.long q0), .second, .val (.long q1), .second, .val (.long q2), .second, .val (.long q3), .second, .val (.int p4), .val (.long v4), .second, .val (.long v8), .second, .val (.long v12), .second, .val (.int v14), .val (.ref b15)] [(.ref b15)])) _
        refine XS.iconst Y38.here hx rfl (hb hby at_136) ?_
        show Steps p.tables e below (T38.setTop (mkF m 137 #[.val (.long q0), .second, .val (.long q1), .second, .val (.long q2), .second, .val (.long q3), .second, .val (.int p4), .val (.long v4), .second, .val (.long v8), .second, .val (.long v12), .second, .val (.int v14), .val (.ref b15)] [(.int (0 : Int32)), (.ref b15)])) _
        exact k
      obtain ⟨cq44, kq44, q44a, q44b, q44c⟩ := isOf hZ rfl c38_0
      obtain ⟨_, _, ⟨T44, L44, k44, n44⟩, -, X44, ⟨Lc44, hQ44, l44, y44, z44⟩, st44⟩ := Y38.virtualBack hx (y := (⟨"com/example/lean_throttle/leanthrottle/TimeRing", "unitsOf", "(I)J"⟩ : MethodName)) (z := (⟨"com/example/lean_throttle/leanthrottle/TimeRing", "unitsOf", "(I)J"⟩ : MethodName)) hown (mvT hZ (hw _ (List.mem_of_getElem? (i := 47) rfl))) (mvT hZ (hw _ (List.mem_of_getElem? (i := 48) rfl))) (notFace_of_selects (args := #[]) (mvT hZ (hw _ (List.mem_of_getElem? (i := 50) rfl)))) (mvT hZ (hw _ (List.mem_of_getElem? (i := 50) rfl))) (mvT hZ (hw _ (List.mem_of_getElem? (i := 49) rfl))) (by decide) (backOf (W := 0) (rm9_1_2_2_0 l Z a0 hw [] b15 n1_21 n2_21 ((0 : Int64) + v4) (updF (updF (updF (fun _ => (0 : Int64)) 0 q3) 1 (q3 + (1 : Int64))) 0 (q3 + (2 : Int64))) (updF (updF (updF (fun _ => (0 : Int64)) 0 ((0 : Int64) + v4)) 1 (((0 : Int64) + v4) + v8)) 0 ((((0 : Int64) + v4) + v8) + v12)) T38.heap n0 (Nat.le_trans Z0 K38.1) c38_0 c38_1 c38_2 c38_3 c38_4 c38_5 c38_6 c38_7 ne21_b15_n1_21 ne21_b15_n2_21 c21_8) hZ (hw _ (List.mem_of_getElem? (i := 51) rfl)) (hw _ (List.mem_of_getElem? (i := 8) rfl)) (by decide) (by decide)) q44a q44c (g := (mkF m 137 #[.val (.long q0), .second, .val (.long q1), .second, .val (.long q2), .second, .val (.long q3), .second, .val (.int p4), .val (.long v4), .second, .val (.long v8), .second, .val (.long v12), .second, .val (.int v14), .val (.ref b15)] [(.int (0 : Int32)), (.ref b15)])) rfl (by rw [hml]; rfl) (Steps.refl _) (argsL := [(.int (0 : Int32))]) (rest := []) (lenOf pd__28_I_29_J rfl) rfl (by show 2 * 0 + _ ≤ _; exact Nat.le_of_eq rfl) (hb hby at_137) (fun _ _ => ⟨rfl, rfl, (by decide : 5 + 0 ≤ _), (by decide : 11 + 0 ≤ _)⟩)
      dsimp only [Pt.U, Pt.locs, Pt.cells, Pt.slots] at X44 l44 y44 z44 st44 hQ44
      subst l44 y44 z44
      obtain ⟨rfl, N44q, e44⟩ := hQ44
      have N44 := Fr.app N38 N44q
      obtain ⟨M44, Y44, N44⟩ : ∃ M, Stand p l e room_1 s m #[(.long q0), (.long q1), (.long q2), (.long q3), (.int p4)] below meth c T44 M 5 11 ∧ Fr n0 M := ⟨_, X44, N44⟩
      have pre44 : Lead p e below G (T44.setTop (mkF m 140 #[.val (.long q0), .second, .val (.long q1), .second, .val (.long q2), .second, .val (.long q3), .second, .val (.int p4), .val (.long v4), .second, .val (.long v8), .second, .val (.long v12), .second, .val (.int v14), .val (.ref b15)] [(.long ((((0 : Int64) + v4) + v8) - ((0 : Int64) + v4)))])) := fun t k => pre43 t (st44.trans k)
      have pre46 : Lead p e below G (T44.setTop (mkF m 143 #[.val (.long q0), .second, .val (.long q1), .second, .val (.long q2), .second, .val (.long q3), .second, .val (.int p4), .val (.long v4), .second, .val (.long v8), .second, .val (.long v12), .second, .val (.int v14), .val (.ref b15)] [(.int (lcmpW ((((0 : Int64) + v4) + v8) - ((0 : Int64) + v4)) v8))])) := fun t k => by
        refine pre44 t ?_
        show Steps p.tables e below (T44.setTop (mkF m 140 #[.val (.long q0), .second, .val (.long q1), .second, .val (.long q2), .second, .val (.long q3), .second, .val (.int p4), .val (.long v4), .second, .val (.long v8), .second, .val (.long v12), .second, .val (.int v14), .val (.ref b15)] [(.long ((((0 : Int64) + v4) + v8) - ((0 : Int64) + v4)))])) _
        refine XS.lload Y44.here hx rfl (hb hby at_140) rfl ?_
        show Steps p.tables e below (T44.setTop (mkF m 142 #[.val (.long q0), .second, .val (.long q1), .second, .val (.long q2), .second, .val (.long q3), .second, .val (.int p4), .val (.long v4), .second, .val (.long v8), .second, .val (.long v12), .second, .val (.int v14), .val (.ref b15)] [(.long v8), (.long ((((0 : Int64) + v4) + v8) - ((0 : Int64) + v4)))])) _
        refine XS.lcmp Y44.here hx rfl (hb hby at_142) rfl ?_
        show Steps p.tables e below (T44.setTop (mkF m 143 #[.val (.long q0), .second, .val (.long q1), .second, .val (.long q2), .second, .val (.long q3), .second, .val (.int p4), .val (.long v4), .second, .val (.long v8), .second, .val (.long v12), .second, .val (.int v14), .val (.ref b15)] [(.int (lcmpW ((((0 : Int64) + v4) + v8) - ((0 : Int64) + v4)) v8))])) _
        exact k
      by_cases hs143_47 : ((((0 : Int64) + v4) + v8) - ((0 : Int64) + v4)) = v8
      · have pre48 : Lead p e below G (T44.setTop (mkF m 149 #[.val (.long q0), .second, .val (.long q1), .second, .val (.long q2), .second, .val (.long q3), .second, .val (.int p4), .val (.long v4), .second, .val (.long v8), .second, .val (.long v12), .second, .val (.int v14), .val (.ref b15)] [(.int (1 : Int32)), (.ref b15)])) := fun t k => by
          refine pre46 t ?_
          show Steps p.tables e below (T44.setTop (mkF m 143 #[.val (.long q0), .second, .val (.long q1), .second, .val (.long q2), .second, .val (.long q3), .second, .val (.int p4), .val (.long v4), .second, .val (.long v8), .second, .val (.long v12), .second, .val (.int v14), .val (.ref b15)] [(.int (lcmpW ((((0 : Int64) + v4) + v8) - ((0 : Int64) + v4)) v8))])) _
          refine XS.ifNo Y44.here hx rfl (hb hby at_143) rfl ((if0 _ _).trans (teq (own_lc_eq.mpr hs143_47)).2) ?_
          show Steps p.tables e below (T44.setTop (mkF m 146 #[.val (.long q0), .second, .val (.long q1), .second, .val (.long q2), .second, .val (.long q3), .second, .val (.int p4), .val (.long v4), .second, .val (.long v8), .second, .val (.long v12), .second, .val (.int v14), .val (.ref b15)] [])) _
          refine XS.aload Y44.here hx rfl (hb hby at_146) rfl rfl ?_
          show Steps p.tables e below (T44.setTop (mkF m 148 #[.val (.long q0), .second, .val (.long q1), .second, .val (.long q2), .second, .val (.long q3), .second, .val (.int p4), .val (.long v4), .second, .val (.long v8), .second, .val (.long v12), .second, .val (.int v14), .val (.ref b15)] [(.ref b15)])) _
          refine XS.iconst Y44.here hx rfl (hb hby at_148) ?_
          show Steps p.tables e below (T44.setTop (mkF m 149 #[.val (.long q0), .second, .val (.long q1), .second, .val (.long q2), .second, .val (.long q3), .second, .val (.int p4), .val (.long v4), .second, .val (.long v8), .second, .val (.long v12), .second, .val (.int v14), .val (.ref b15)] [(.int (1 : Int32)), (.ref b15)])) _
          exact k
        obtain ⟨cq49, kq49, q49a, q49b, q49c⟩ := isOf hZ e44 c38_0
        obtain ⟨_, _, ⟨T49, L49, k49, n49⟩, -, X49, ⟨Lc49, hQ49, l49, y49, z49⟩, st49⟩ := Y44.virtualBack hx (y := (⟨"com/example/lean_throttle/leanthrottle/TimeRing", "unitsOf", "(I)J"⟩ : MethodName)) (z := (⟨"com/example/lean_throttle/leanthrottle/TimeRing", "unitsOf", "(I)J"⟩ : MethodName)) hown (mvT hZ (hw _ (List.mem_of_getElem? (i := 47) rfl))) (mvT hZ (hw _ (List.mem_of_getElem? (i := 48) rfl))) (notFace_of_selects (args := #[]) (mvT hZ (hw _ (List.mem_of_getElem? (i := 50) rfl)))) (mvT hZ (hw _ (List.mem_of_getElem? (i := 50) rfl))) (mvT hZ (hw _ (List.mem_of_getElem? (i := 49) rfl))) (by decide) (backOf (W := 0) (rm9_1_2_2_1 l Z a0 hw [] b15 n1_21 n2_21 ((0 : Int64) + v4) (updF (updF (updF (fun _ => (0 : Int64)) 0 q3) 1 (q3 + (1 : Int64))) 0 (q3 + (2 : Int64))) (updF (updF (updF (fun _ => (0 : Int64)) 0 ((0 : Int64) + v4)) 1 (((0 : Int64) + v4) + v8)) 0 ((((0 : Int64) + v4) + v8) + v12)) T38.heap n0 (Nat.le_trans Z0 K38.1) c38_0 c38_1 c38_2 c38_3 c38_4 c38_5 c38_6 c38_7 ne21_b15_n1_21 ne21_b15_n2_21 c21_8) hZ (hw _ (List.mem_of_getElem? (i := 51) rfl)) (hw _ (List.mem_of_getElem? (i := 8) rfl)) (by decide) (by decide)) q49a q49c (g := (mkF m 149 #[.val (.long q0), .second, .val (.long q1), .second, .val (.long q2), .second, .val (.long q3), .second, .val (.int p4), .val (.long v4), .second, .val (.long v8), .second, .val (.long v12), .second, .val (.int v14), .val (.ref b15)] [(.int (1 : Int32)), (.ref b15)])) rfl (by rw [hml]; rfl) (Steps.refl _) (argsL := [(.int (1 : Int32))]) (rest := []) (lenOf pd__28_I_29_J rfl) rfl (by show 2 * 0 + _ ≤ _; exact Nat.le_of_eq rfl) (hb hby at_149) (fun _ _ => ⟨rfl, e44, (by decide : 5 + 0 ≤ _), (by decide : 11 + 0 ≤ _)⟩)
        dsimp only [Pt.U, Pt.locs, Pt.cells, Pt.slots] at X49 l49 y49 z49 st49 hQ49
        subst l49 y49 z49
        obtain ⟨rfl, N49q, e49⟩ := hQ49
        have N49 := Fr.app N44 N49q
        obtain ⟨M49, Y49, N49⟩ : ∃ M, Stand p l e room_1 s m #[(.long q0), (.long q1), (.long q2), (.long q3), (.int p4)] below meth c T49 M 5 11 ∧ Fr n0 M := ⟨_, X49, N49⟩
        have pre49 : Lead p e below G (T49.setTop (mkF m 152 #[.val (.long q0), .second, .val (.long q1), .second, .val (.long q2), .second, .val (.long q3), .second, .val (.int p4), .val (.long v4), .second, .val (.long v8), .second, .val (.long v12), .second, .val (.int v14), .val (.ref b15)] [(.long (((((0 : Int64) + v4) + v8) + v12) - (((0 : Int64) + v4) + v8)))])) := fun t k => pre48 t (st49.trans k)
        have pre52 : Lead p e below G (T49.setTop (mkF m 163 #[.val (.long q0), .second, .val (.long q1), .second, .val (.long q2), .second, .val (.long q3), .second, .val (.int p4), .val (.long v4), .second, .val (.long v8), .second, .val (.long v12), .second, .val (.int v14), .val (.ref b15)] [(.int (if (((((0 : Int64) + v4) + v8) + v12) - (((0 : Int64) + v4) + v8)) = v12 then (1 : Int32) else (0 : Int32)))])) := fun t k => by
          refine pre49 t ?_
          show Steps p.tables e below (T49.setTop (mkF m 152 #[.val (.long q0), .second, .val (.long q1), .second, .val (.long q2), .second, .val (.long q3), .second, .val (.int p4), .val (.long v4), .second, .val (.long v8), .second, .val (.long v12), .second, .val (.int v14), .val (.ref b15)] [(.long (((((0 : Int64) + v4) + v8) + v12) - (((0 : Int64) + v4) + v8)))])) _
          refine XS.lload Y49.here hx rfl (hb hby at_152) rfl ?_
          show Steps p.tables e below (T49.setTop (mkF m 154 #[.val (.long q0), .second, .val (.long q1), .second, .val (.long q2), .second, .val (.long q3), .second, .val (.int p4), .val (.long v4), .second, .val (.long v8), .second, .val (.long v12), .second, .val (.int v14), .val (.ref b15)] [(.long v12), (.long (((((0 : Int64) + v4) + v8) + v12) - (((0 : Int64) + v4) + v8)))])) _
          refine XS.lcmp Y49.here hx rfl (hb hby at_154) rfl ?_
          show Steps p.tables e below (T49.setTop (mkF m 155 #[.val (.long q0), .second, .val (.long q1), .second, .val (.long q2), .second, .val (.long q3), .second, .val (.int p4), .val (.long v4), .second, .val (.long v8), .second, .val (.long v12), .second, .val (.int v14), .val (.ref b15)] [(.int (lcmpW (((((0 : Int64) + v4) + v8) + v12) - (((0 : Int64) + v4) + v8)) v12))])) _
          have j51 : ∀ t, Steps p.tables e below (T49.setTop (mkF m 163 #[.val (.long q0), .second, .val (.long q1), .second, .val (.long q2), .second, .val (.long q3), .second, .val (.int p4), .val (.long v4), .second, .val (.long v8), .second, .val (.long v12), .second, .val (.int v14), .val (.ref b15)] [(.int (if (((((0 : Int64) + v4) + v8) + v12) - (((0 : Int64) + v4) + v8)) = v12 then (1 : Int32) else (0 : Int32)))])) t → Steps p.tables e below (T49.setTop (mkF m 155 #[.val (.long q0), .second, .val (.long q1), .second, .val (.long q2), .second, .val (.long q3), .second, .val (.int p4), .val (.long v4), .second, .val (.long v8), .second, .val (.long v12), .second, .val (.int v14), .val (.ref b15)] [(.int (lcmpW (((((0 : Int64) + v4) + v8) + v12) - (((0 : Int64) + v4) + v8)) v12))])) t := fun t k => by
            by_cases hc155_50 : (((((0 : Int64) + v4) + v8) + v12) - (((0 : Int64) + v4) + v8)) = v12
            · simp only [if_pos hc155_50] at k
              refine XS.ifNo Y49.here hx rfl (hb hby at_155) rfl ((if0 _ _).trans (teq (own_lc_eq.mpr hc155_50)).2) ?_
              show Steps p.tables e below (T49.setTop (mkF m 158 #[.val (.long q0), .second, .val (.long q1), .second, .val (.long q2), .second, .val (.long q3), .second, .val (.int p4), .val (.long v4), .second, .val (.long v8), .second, .val (.long v12), .second, .val (.int v14), .val (.ref b15)] [])) _
              refine XS.iconst Y49.here hx rfl (hb hby at_158) ?_
              show Steps p.tables e below (T49.setTop (mkF m 159 #[.val (.long q0), .second, .val (.long q1), .second, .val (.long q2), .second, .val (.long q3), .second, .val (.int p4), .val (.long v4), .second, .val (.long v8), .second, .val (.long v12), .second, .val (.int v14), .val (.ref b15)] [(.int (1 : Int32))])) _
              refine XS.goto Y49.here hx rfl (pc0 := 159) (pc' := 163) rfl (hb hby at_159) (by decide) (by decide) ?_
              show Steps p.tables e below (T49.setTop (mkF m 163 #[.val (.long q0), .second, .val (.long q1), .second, .val (.long q2), .second, .val (.long q3), .second, .val (.int p4), .val (.long v4), .second, .val (.long v8), .second, .val (.long v12), .second, .val (.int v14), .val (.ref b15)] [(.int (1 : Int32))])) _
              exact k
            · simp only [if_neg hc155_50] at k
              refine XS.ifYes Y49.here hx rfl (pc0 := 155) (pc' := 162) rfl (hb hby at_155) rfl ((if0 _ _).trans (feq (fun q => hc155_50 (own_lc_eq.mp q))).2) (by decide) (by decide) ?_
              show Steps p.tables e below (T49.setTop (mkF m 162 #[.val (.long q0), .second, .val (.long q1), .second, .val (.long q2), .second, .val (.long q3), .second, .val (.int p4), .val (.long v4), .second, .val (.long v8), .second, .val (.long v12), .second, .val (.int v14), .val (.ref b15)] [])) _
              refine XS.iconst Y49.here hx rfl (hb hby at_162) ?_
              show Steps p.tables e below (T49.setTop (mkF m 163 #[.val (.long q0), .second, .val (.long q1), .second, .val (.long q2), .second, .val (.long q3), .second, .val (.int p4), .val (.long v4), .second, .val (.long v8), .second, .val (.long v12), .second, .val (.int v14), .val (.ref b15)] [(.int (0 : Int32))])) _
              exact k
          refine j51 _ ?_
          show Steps p.tables e below (T49.setTop (mkF m 163 #[.val (.long q0), .second, .val (.long q1), .second, .val (.long q2), .second, .val (.long q3), .second, .val (.int p4), .val (.long v4), .second, .val (.long v8), .second, .val (.long v12), .second, .val (.int v14), .val (.ref b15)] [(.int (if (((((0 : Int64) + v4) + v8) + v12) - (((0 : Int64) + v4) + v8)) = v12 then (1 : Int32) else (0 : Int32)))])) _
          exact k
        obtain ⟨v53, hv53⟩ : ∃ z : Int32, z = (if (((((0 : Int64) + v4) + v8) + v12) - (((0 : Int64) + v4) + v8)) = v12 then (1 : Int32) else (0 : Int32)) := ⟨_, rfl⟩
        have pre53 : Lead p e below G (T49.setTop (mkF m 163 #[.val (.long q0), .second, .val (.long q1), .second, .val (.long q2), .second, .val (.long q3), .second, .val (.int p4), .val (.long v4), .second, .val (.long v8), .second, .val (.long v12), .second, .val (.int v14), .val (.ref b15)] [(.int v53)])) := by rw [hv53]; exact pre52
        obtain ⟨fs, hr, hrun, hended, hW, hsame⟩ := Y49.leave (v := some (.int (nar .boolean v53))) (fun h => by rw [Bd.returns] at h; cases h)
        subst hG
        refine ⟨_, _, pre53 _ ?_, hrun, hended, _, _, rfl, ?_, ⟨_, rfl⟩, hW, hsame.mono (by decide) (by decide)⟩
        · show Steps p.tables e below (T49.setTop (mkF m 163 #[.val (.long q0), .second, .val (.long q1), .second, .val (.long q2), .second, .val (.long q3), .second, .val (.int p4), .val (.long v4), .second, .val (.long v8), .second, .val (.long v12), .second, .val (.int v14), .val (.ref b15)] [(.int v53)])) _
          exact retN Y49 hx (t := .boolean) Bd.returns (by simp) (hb hby at_163) hr
        · show Q0 Z q0 q1 q2 q3 p4 h0 n0 _ T49.heap _
          refine ⟨congrArg (fun z => some (Value.int z)) (Eq.trans (?_ : (nar .boolean v53) = F0 q0 q1 q2 q3 p4) (own_law q0 q1 q2 q3 p4)), N49⟩
          subst hv53 hv14 hv12 hv8 hv4
          refine Eq.symm ?_; unfold F0; refine Eq.trans (if_neg hs76_23) ?_; refine Eq.trans (if_pos hs131_42) ?_; refine Eq.trans (if_pos hs143_47) ?_; rfl
      · obtain ⟨fs, hr, hrun, hended, hW, hsame⟩ := Y44.leave (v := some (.int (nar .boolean (0 : Int32)))) (fun h => by rw [Bd.returns] at h; cases h)
        subst hG
        refine ⟨_, _, pre46 _ ?_, hrun, hended, _, _, rfl, ?_, ⟨_, rfl⟩, hW, hsame.mono (by decide) (by decide)⟩
        · show Steps p.tables e below (T44.setTop (mkF m 143 #[.val (.long q0), .second, .val (.long q1), .second, .val (.long q2), .second, .val (.long q3), .second, .val (.int p4), .val (.long v4), .second, .val (.long v8), .second, .val (.long v12), .second, .val (.int v14), .val (.ref b15)] [(.int (lcmpW ((((0 : Int64) + v4) + v8) - ((0 : Int64) + v4)) v8))])) _
          refine XS.ifYes Y44.here hx rfl (pc0 := 143) (pc' := 162) rfl (hb hby at_143) rfl ((if0 _ _).trans (feq (fun q => hs143_47 (own_lc_eq.mp q))).2) (by decide) (by decide) ?_
          show Steps p.tables e below (T44.setTop (mkF m 162 #[.val (.long q0), .second, .val (.long q1), .second, .val (.long q2), .second, .val (.long q3), .second, .val (.int p4), .val (.long v4), .second, .val (.long v8), .second, .val (.long v12), .second, .val (.int v14), .val (.ref b15)] [])) _
          refine XS.iconst Y44.here hx rfl (hb hby at_162) ?_
          show Steps p.tables e below (T44.setTop (mkF m 163 #[.val (.long q0), .second, .val (.long q1), .second, .val (.long q2), .second, .val (.long q3), .second, .val (.int p4), .val (.long v4), .second, .val (.long v8), .second, .val (.long v12), .second, .val (.int v14), .val (.ref b15)] [(.int (0 : Int32))])) _
          exact retN Y44 hx (t := .boolean) Bd.returns (by simp) (hb hby at_163) hr
        · show Q0 Z q0 q1 q2 q3 p4 h0 n0 _ T44.heap _
          refine ⟨congrArg (fun z => some (Value.int z)) (Eq.trans (?_ : (nar .boolean (0 : Int32)) = F0 q0 q1 q2 q3 p4) (own_law q0 q1 q2 q3 p4)), N44⟩
          subst hv14 hv12 hv8 hv4
          refine Eq.symm ?_; unfold F0; refine Eq.trans (if_neg hs76_23) ?_; refine Eq.trans (if_pos hs131_42) ?_; refine Eq.trans (if_neg hs143_47) ?_; rfl
    · have pre54 : Lead p e below G (T38.setTop (mkF m 166 #[.val (.long q0), .second, .val (.long q1), .second, .val (.long q2), .second, .val (.long q3), .second, .val (.int p4), .val (.long v4), .second, .val (.long v8), .second, .val (.long v12), .second, .val (.int v14), .val (.ref b15)] [(.ref b15)])) := fun t k => by
        refine pre41 t ?_
        show Steps p.tables e below (T38.setTop (mkF m 131 #[.val (.long q0), .second, .val (.long q1), .second, .val (.long q2), .second, .val (.long q3), .second, .val (.int p4), .val (.long v4), .second, .val (.long v8), .second, .val (.long v12), .second, .val (.int v14), .val (.ref b15)] [(.int (1 : Int32)), (.int v14)])) _
        refine XS.icmpYes Y38.here hx rfl (pc0 := 131) (pc' := 164) rfl (hb hby at_131) rfl (feq hs131_42).2 (by decide) (by decide) ?_
        show Steps p.tables e below (T38.setTop (mkF m 164 #[.val (.long q0), .second, .val (.long q1), .second, .val (.long q2), .second, .val (.long q3), .second, .val (.int p4), .val (.long v4), .second, .val (.long v8), .second, .val (.long v12), .second, .val (.int v14), .val (.ref b15)] [])) _
        refine XS.aload Y38.here hx rfl (hb hby at_164) rfl rfl ?_
        show Steps p.tables e below (T38.setTop (mkF m 166 #[.val (.long q0), .second, .val (.long q1), .second, .val (.long q2), .second, .val (.long q3), .second, .val (.int p4), .val (.long v4), .second, .val (.long v8), .second, .val (.long v12), .second, .val (.int v14), .val (.ref b15)] [(.ref b15)])) _
        exact k
      obtain ⟨cq55, kq55, q55a, q55b, q55c⟩ := isOf hZ rfl c38_0
      obtain ⟨_, _, ⟨T55, L55, k55, n55⟩, -, X55, ⟨Lc55, hQ55, l55, y55, z55⟩, st55⟩ := Y38.virtualBack hx (y := (⟨"com/example/lean_throttle/leanthrottle/TimeRing", "dropOldest", "()V"⟩ : MethodName)) (z := (⟨"com/example/lean_throttle/leanthrottle/TimeRing", "dropOldest", "()V"⟩ : MethodName)) hown (mvT hZ (hw _ (List.mem_of_getElem? (i := 52) rfl))) (mvT hZ (hw _ (List.mem_of_getElem? (i := 53) rfl))) (notFace_of_selects (args := #[]) (mvT hZ (hw _ (List.mem_of_getElem? (i := 55) rfl)))) (mvT hZ (hw _ (List.mem_of_getElem? (i := 55) rfl))) (mvT hZ (hw _ (List.mem_of_getElem? (i := 54) rfl))) (by decide) (backOf (W := 0) (rm10_1_2_2 l Z a0 hw [] b15 n1_21 n2_21 ((0 : Int64) + v4) (updF (updF (updF (fun _ => (0 : Int64)) 0 q3) 1 (q3 + (1 : Int64))) 0 (q3 + (2 : Int64))) (updF (updF (updF (fun _ => (0 : Int64)) 0 ((0 : Int64) + v4)) 1 (((0 : Int64) + v4) + v8)) 0 ((((0 : Int64) + v4) + v8) + v12)) T38.heap n0 (Nat.le_trans Z0 K38.1) c38_0 c38_1 c38_2 c38_3 c38_4 c38_5 c38_6 c38_7 ne21_b15_n1_21 ne21_b15_n2_21 c21_8 ge15) hZ (hw _ (List.mem_of_getElem? (i := 56) rfl)) (hw _ (List.mem_of_getElem? (i := 8) rfl)) (by decide) (by decide)) q55a q55c (g := (mkF m 166 #[.val (.long q0), .second, .val (.long q1), .second, .val (.long q2), .second, .val (.long q3), .second, .val (.int p4), .val (.long v4), .second, .val (.long v8), .second, .val (.long v12), .second, .val (.int v14), .val (.ref b15)] [(.ref b15)])) rfl (by rw [hml]; rfl) (Steps.refl _) (argsL := []) (rest := []) (lenOf pd__28__29_V rfl) rfl (by show 2 * 0 + _ ≤ _; exact Nat.le_of_eq rfl) (hb hby at_166) (fun _ _ => ⟨rfl, rfl, (by decide : 5 + 0 ≤ _), (by decide : 11 + 0 ≤ _)⟩)
      dsimp only [Pt.U, Pt.locs, Pt.cells, Pt.slots] at X55 l55 y55 z55 st55 hQ55
      subst l55 y55 z55
      obtain ⟨rfl, N55q, K55c, c55_0, c55_1, c55_2, c55_3, c55_4, c55_5⟩ := hQ55
      have N55 := Fr.app N38 N55q
      have K55 : Keep h0 T55.heap [] := K38.trans K55c (allS (Or.inr sz15) all0)
      obtain ⟨M55, Y55, N55⟩ : ∃ M, Stand p l e room_1 s m #[(.long q0), (.long q1), (.long q2), (.long q3), (.int p4)] below meth c T55 M 5 11 ∧ Fr n0 M := ⟨_, X55, N55⟩
      have pre55 : Lead p e below G (T55.setTop (mkF m 169 #[.val (.long q0), .second, .val (.long q1), .second, .val (.long q2), .second, .val (.long q3), .second, .val (.int p4), .val (.long v4), .second, .val (.long v8), .second, .val (.long v12), .second, .val (.int v14), .val (.ref b15)] [])) := fun t k => pre54 t (st55.trans k)
      have pre56 : Lead p e below G (T55.setTop (mkF m 172 #[.val (.long q0), .second, .val (.long q1), .second, .val (.long q2), .second, .val (.long q3), .second, .val (.int p4), .val (.long v4), .second, .val (.long v8), .second, .val (.long v12), .second, .val (.int v14), .val (.ref b15)] [(.int (0 : Int32)), (.ref b15)])) := fun t k => by
        refine pre55 t ?_
        show Steps p.tables e below (T55.setTop (mkF m 169 #[.val (.long q0), .second, .val (.long q1), .second, .val (.long q2), .second, .val (.long q3), .second, .val (.int p4), .val (.long v4), .second, .val (.long v8), .second, .val (.long v12), .second, .val (.int v14), .val (.ref b15)] [])) _
        refine XS.aload Y55.here hx rfl (hb hby at_169) rfl rfl ?_
        show Steps p.tables e below (T55.setTop (mkF m 171 #[.val (.long q0), .second, .val (.long q1), .second, .val (.long q2), .second, .val (.long q3), .second, .val (.int p4), .val (.long v4), .second, .val (.long v8), .second, .val (.long v12), .second, .val (.int v14), .val (.ref b15)] [(.ref b15)])) _
        refine XS.iconst Y55.here hx rfl (hb hby at_171) ?_
        show Steps p.tables e below (T55.setTop (mkF m 172 #[.val (.long q0), .second, .val (.long q1), .second, .val (.long q2), .second, .val (.long q3), .second, .val (.int p4), .val (.long v4), .second, .val (.long v8), .second, .val (.long v12), .second, .val (.int v14), .val (.ref b15)] [(.int (0 : Int32)), (.ref b15)])) _
        exact k
      have f58 : JV Value.long Z T55.heap n1_21 .long (2 : Int32) (updF (updF (updF (fun _ => (0 : Int64)) 0 q3) 1 (q3 + (1 : Int64))) 0 (q3 + (2 : Int64))) := (c38_6.keep K55c (ninS (Ne.symm ne21_b15_n1_21) nin0))
      have f59 : JV Value.long Z T55.heap n2_21 .long (2 : Int32) (updF (updF (updF (fun _ => (0 : Int64)) 0 ((0 : Int64) + v4)) 1 (((0 : Int64) + v4) + v8)) 0 ((((0 : Int64) + v4) + v8) + v12)) := (c38_7.keep K55c (ninS (Ne.symm ne21_b15_n2_21) nin0))
      obtain ⟨cq57, kq57, q57a, q57b, q57c⟩ := isOf hZ rfl c55_0
      obtain ⟨_, _, ⟨T57, L57, k57, n57⟩, -, X57, ⟨Lc57, hQ57, l57, y57, z57⟩, st57⟩ := Y55.virtualBack hx (y := (⟨"com/example/lean_throttle/leanthrottle/TimeRing", "unitsOf", "(I)J"⟩ : MethodName)) (z := (⟨"com/example/lean_throttle/leanthrottle/TimeRing", "unitsOf", "(I)J"⟩ : MethodName)) hown (mvT hZ (hw _ (List.mem_of_getElem? (i := 47) rfl))) (mvT hZ (hw _ (List.mem_of_getElem? (i := 48) rfl))) (notFace_of_selects (args := #[]) (mvT hZ (hw _ (List.mem_of_getElem? (i := 50) rfl)))) (mvT hZ (hw _ (List.mem_of_getElem? (i := 50) rfl))) (mvT hZ (hw _ (List.mem_of_getElem? (i := 49) rfl))) (by decide) (backOf (W := 0) (rm9_0_1_2_0 l Z a0 hw [] b15 n1_21 n2_21 (((0 : Int64) + v4) + v8) (updF (updF (updF (fun _ => (0 : Int64)) 0 q3) 1 (q3 + (1 : Int64))) 0 (q3 + (2 : Int64))) (updF (updF (updF (fun _ => (0 : Int64)) 0 ((0 : Int64) + v4)) 1 (((0 : Int64) + v4) + v8)) 0 ((((0 : Int64) + v4) + v8) + v12)) T55.heap n0 (Nat.le_trans Z0 K55.1) c55_0 c55_1 c55_2 c55_3 c55_4 c55_5 f58 f59 ne21_b15_n1_21 ne21_b15_n2_21 c21_8) hZ (hw _ (List.mem_of_getElem? (i := 51) rfl)) (hw _ (List.mem_of_getElem? (i := 8) rfl)) (by decide) (by decide)) q57a q57c (g := (mkF m 172 #[.val (.long q0), .second, .val (.long q1), .second, .val (.long q2), .second, .val (.long q3), .second, .val (.int p4), .val (.long v4), .second, .val (.long v8), .second, .val (.long v12), .second, .val (.int v14), .val (.ref b15)] [(.int (0 : Int32)), (.ref b15)])) rfl (by rw [hml]; rfl) (Steps.refl _) (argsL := [(.int (0 : Int32))]) (rest := []) (lenOf pd__28_I_29_J rfl) rfl (by show 2 * 0 + _ ≤ _; exact Nat.le_of_eq rfl) (hb hby at_172) (fun _ _ => ⟨rfl, rfl, (by decide : 5 + 0 ≤ _), (by decide : 11 + 0 ≤ _)⟩)
      dsimp only [Pt.U, Pt.locs, Pt.cells, Pt.slots] at X57 l57 y57 z57 st57 hQ57
      subst l57 y57 z57
      obtain ⟨rfl, N57q, e57⟩ := hQ57
      have N57 := Fr.app N55 N57q
      obtain ⟨M57, Y57, N57⟩ : ∃ M, Stand p l e room_1 s m #[(.long q0), (.long q1), (.long q2), (.long q3), (.int p4)] below meth c T57 M 5 11 ∧ Fr n0 M := ⟨_, X57, N57⟩
      have pre57 : Lead p e below G (T57.setTop (mkF m 175 #[.val (.long q0), .second, .val (.long q1), .second, .val (.long q2), .second, .val (.long q3), .second, .val (.int p4), .val (.long v4), .second, .val (.long v8), .second, .val (.long v12), .second, .val (.int v14), .val (.ref b15)] [(.long (((((0 : Int64) + v4) + v8) + v12) - (((0 : Int64) + v4) + v8)))])) := fun t k => pre56 t (st57.trans k)
      have pre62 : Lead p e below G (T57.setTop (mkF m 186 #[.val (.long q0), .second, .val (.long q1), .second, .val (.long q2), .second, .val (.long q3), .second, .val (.int p4), .val (.long v4), .second, .val (.long v8), .second, .val (.long v12), .second, .val (.int v14), .val (.ref b15)] [(.int (if (((((0 : Int64) + v4) + v8) + v12) - (((0 : Int64) + v4) + v8)) = v12 then (1 : Int32) else (0 : Int32)))])) := fun t k => by
        refine pre57 t ?_
        show Steps p.tables e below (T57.setTop (mkF m 175 #[.val (.long q0), .second, .val (.long q1), .second, .val (.long q2), .second, .val (.long q3), .second, .val (.int p4), .val (.long v4), .second, .val (.long v8), .second, .val (.long v12), .second, .val (.int v14), .val (.ref b15)] [(.long (((((0 : Int64) + v4) + v8) + v12) - (((0 : Int64) + v4) + v8)))])) _
        refine XS.lload Y57.here hx rfl (hb hby at_175) rfl ?_
        show Steps p.tables e below (T57.setTop (mkF m 177 #[.val (.long q0), .second, .val (.long q1), .second, .val (.long q2), .second, .val (.long q3), .second, .val (.int p4), .val (.long v4), .second, .val (.long v8), .second, .val (.long v12), .second, .val (.int v14), .val (.ref b15)] [(.long v12), (.long (((((0 : Int64) + v4) + v8) + v12) - (((0 : Int64) + v4) + v8)))])) _
        refine XS.lcmp Y57.here hx rfl (hb hby at_177) rfl ?_
        show Steps p.tables e below (T57.setTop (mkF m 178 #[.val (.long q0), .second, .val (.long q1), .second, .val (.long q2), .second, .val (.long q3), .second, .val (.int p4), .val (.long v4), .second, .val (.long v8), .second, .val (.long v12), .second, .val (.int v14), .val (.ref b15)] [(.int (lcmpW (((((0 : Int64) + v4) + v8) + v12) - (((0 : Int64) + v4) + v8)) v12))])) _
        have j61 : ∀ t, Steps p.tables e below (T57.setTop (mkF m 186 #[.val (.long q0), .second, .val (.long q1), .second, .val (.long q2), .second, .val (.long q3), .second, .val (.int p4), .val (.long v4), .second, .val (.long v8), .second, .val (.long v12), .second, .val (.int v14), .val (.ref b15)] [(.int (if (((((0 : Int64) + v4) + v8) + v12) - (((0 : Int64) + v4) + v8)) = v12 then (1 : Int32) else (0 : Int32)))])) t → Steps p.tables e below (T57.setTop (mkF m 178 #[.val (.long q0), .second, .val (.long q1), .second, .val (.long q2), .second, .val (.long q3), .second, .val (.int p4), .val (.long v4), .second, .val (.long v8), .second, .val (.long v12), .second, .val (.int v14), .val (.ref b15)] [(.int (lcmpW (((((0 : Int64) + v4) + v8) + v12) - (((0 : Int64) + v4) + v8)) v12))])) t := fun t k => by
          by_cases hc178_60 : (((((0 : Int64) + v4) + v8) + v12) - (((0 : Int64) + v4) + v8)) = v12
          · simp only [if_pos hc178_60] at k
            refine XS.ifNo Y57.here hx rfl (hb hby at_178) rfl ((if0 _ _).trans (teq (own_lc_eq.mpr hc178_60)).2) ?_
            show Steps p.tables e below (T57.setTop (mkF m 181 #[.val (.long q0), .second, .val (.long q1), .second, .val (.long q2), .second, .val (.long q3), .second, .val (.int p4), .val (.long v4), .second, .val (.long v8), .second, .val (.long v12), .second, .val (.int v14), .val (.ref b15)] [])) _
            refine XS.iconst Y57.here hx rfl (hb hby at_181) ?_
            show Steps p.tables e below (T57.setTop (mkF m 182 #[.val (.long q0), .second, .val (.long q1), .second, .val (.long q2), .second, .val (.long q3), .second, .val (.int p4), .val (.long v4), .second, .val (.long v8), .second, .val (.long v12), .second, .val (.int v14), .val (.ref b15)] [(.int (1 : Int32))])) _
            refine XS.goto Y57.here hx rfl (pc0 := 182) (pc' := 186) rfl (hb hby at_182) (by decide) (by decide) ?_
            show Steps p.tables e below (T57.setTop (mkF m 186 #[.val (.long q0), .second, .val (.long q1), .second, .val (.long q2), .second, .val (.long q3), .second, .val (.int p4), .val (.long v4), .second, .val (.long v8), .second, .val (.long v12), .second, .val (.int v14), .val (.ref b15)] [(.int (1 : Int32))])) _
            exact k
          · simp only [if_neg hc178_60] at k
            refine XS.ifYes Y57.here hx rfl (pc0 := 178) (pc' := 185) rfl (hb hby at_178) rfl ((if0 _ _).trans (feq (fun q => hc178_60 (own_lc_eq.mp q))).2) (by decide) (by decide) ?_
            show Steps p.tables e below (T57.setTop (mkF m 185 #[.val (.long q0), .second, .val (.long q1), .second, .val (.long q2), .second, .val (.long q3), .second, .val (.int p4), .val (.long v4), .second, .val (.long v8), .second, .val (.long v12), .second, .val (.int v14), .val (.ref b15)] [])) _
            refine XS.iconst Y57.here hx rfl (hb hby at_185) ?_
            show Steps p.tables e below (T57.setTop (mkF m 186 #[.val (.long q0), .second, .val (.long q1), .second, .val (.long q2), .second, .val (.long q3), .second, .val (.int p4), .val (.long v4), .second, .val (.long v8), .second, .val (.long v12), .second, .val (.int v14), .val (.ref b15)] [(.int (0 : Int32))])) _
            exact k
        refine j61 _ ?_
        show Steps p.tables e below (T57.setTop (mkF m 186 #[.val (.long q0), .second, .val (.long q1), .second, .val (.long q2), .second, .val (.long q3), .second, .val (.int p4), .val (.long v4), .second, .val (.long v8), .second, .val (.long v12), .second, .val (.int v14), .val (.ref b15)] [(.int (if (((((0 : Int64) + v4) + v8) + v12) - (((0 : Int64) + v4) + v8)) = v12 then (1 : Int32) else (0 : Int32)))])) _
        exact k
      obtain ⟨v63, hv63⟩ : ∃ z : Int32, z = (if (((((0 : Int64) + v4) + v8) + v12) - (((0 : Int64) + v4) + v8)) = v12 then (1 : Int32) else (0 : Int32)) := ⟨_, rfl⟩
      have pre63 : Lead p e below G (T57.setTop (mkF m 186 #[.val (.long q0), .second, .val (.long q1), .second, .val (.long q2), .second, .val (.long q3), .second, .val (.int p4), .val (.long v4), .second, .val (.long v8), .second, .val (.long v12), .second, .val (.int v14), .val (.ref b15)] [(.int v63)])) := by rw [hv63]; exact pre62
      obtain ⟨fs, hr, hrun, hended, hW, hsame⟩ := Y57.leave (v := some (.int (nar .boolean v63))) (fun h => by rw [Bd.returns] at h; cases h)
      subst hG
      refine ⟨_, _, pre63 _ ?_, hrun, hended, _, _, rfl, ?_, ⟨_, rfl⟩, hW, hsame.mono (by decide) (by decide)⟩
      · show Steps p.tables e below (T57.setTop (mkF m 186 #[.val (.long q0), .second, .val (.long q1), .second, .val (.long q2), .second, .val (.long q3), .second, .val (.int p4), .val (.long v4), .second, .val (.long v8), .second, .val (.long v12), .second, .val (.int v14), .val (.ref b15)] [(.int v63)])) _
        exact retN Y57 hx (t := .boolean) Bd.returns (by simp) (hb hby at_186) hr
      · show Q0 Z q0 q1 q2 q3 p4 h0 n0 _ T57.heap _
        refine ⟨congrArg (fun z => some (Value.int z)) (Eq.trans (?_ : (nar .boolean v63) = F0 q0 q1 q2 q3 p4) (own_law q0 q1 q2 q3 p4)), N57⟩
        subst hv63 hv14 hv12 hv8 hv4
        refine Eq.symm ?_; unfold F0; refine Eq.trans (if_neg hs76_23) ?_; refine Eq.trans (if_neg hs131_42) ?_; rfl
set_option maxRecDepth 65536 in
set_option maxHeartbeats 40000000 in
theorem comes_1 {Post : Tables → Env → Array Value → State → Outcome → State → Prop} (hpost : ∀ tb e args s v u, (limb_1_1.after args s (.returned v) u = true ∧ limb_1_2.after args s (.returned v) u = true ∧ True) → FrameEnd s (.returned v) u (Jvm.fieldLocs frame_1_writes args s ++ Jvm.arrayLocs frame_1_arrays args s ++ Jvm.staticLocs frame_1_statics s) 24 128 → Post tb e args s (.returned v) u) :
    ArmFor flags0 classFile x code maxLocals ret World_1 tables_1 room_1 Calls_1 rest_1 Pre_1 Post := by
  intro l hfl _ _ p e ha hc hk s m args below hf hA hF happ hP
  obtain ⟨hcalls, hrest, hpre⟩ := hP
  obtain ⟨-, -, -, hnamed, -, -, -, hat⟩ := (Spec.applies_iff hf).mp happ
  obtain ⟨hg, hn⟩ := and_e (Cond.before_iff.mp (show (Jvm.Cond.and given_1 narrow_1).before args s = true from hpre))
  obtain ⟨g1, g2⟩ := and_e hg
  obtain ⟨g3, g4⟩ := and_e g2
  obtain ⟨g5, g6⟩ := and_e g4
  obtain ⟨g7, g8⟩ := and_e g6
  obtain ⟨g9, g10⟩ := and_e g8
  obtain ⟨w0, w1, w2, w3, w4, rfl⟩ : ∃ w0 w1 w2 w3 w4 : Value, args = #[w0, w1, w2, w3, w4] := by
    have hs : args.size = 5 := by simpa [Cond.value, given_1] using g1
    obtain ⟨L⟩ := args
    match L, hs with
    | [w0, w1, w2, w3, w4], _ => exact ⟨w0, w1, w2, w3, w4, rfl⟩
  have hw := fun d (hd : d ∈ tables_1) => atoms_spec (ws := Jvm.Cond.code x code maxLocals ret :: tables_1) hat d (List.mem_cons_of_mem _ hd)
  obtain ⟨i0, ei0⟩ := isL_v g3
  obtain rfl : w0 = (.long i0) := Option.some.inj ei0
  obtain ⟨i1, ei1⟩ := isL_v g5
  obtain rfl : w1 = (.long i1) := Option.some.inj ei1
  obtain ⟨i2, ei2⟩ := isL_v g7
  obtain rfl : w2 = (.long i2) := Option.some.inj ei2
  obtain ⟨i3, ei3⟩ := isL_v g9
  obtain rfl : w3 = (.long i3) := Option.some.inj ei3
  obtain ⟨i4, ei4⟩ := is_v g10
  obtain rfl : w4 = (.int i4) := Option.some.inj ei4
  obtain ⟨n, o, h1, h2, h3, _, L, rfl, ⟨rfl, N⟩, hq⟩ := rm0 l s _ hw tables_1 i0 i1 i2 i3 i4 s.heap s.heap.size (Nat.le_refl _) p e ha hc hk s m _ below hf ((Spec.applies_iff_loose hf).mp happ).1 ⟨rfl, State.Warmed39.refl s, rfl⟩ trivial
  refine ⟨n, _, h1, h2, h3, hpost _ _ _ _ _ _ ⟨Cond.after_iff.mpr rfl, Cond.after_iff.mpr (eq_i res_at (Term.int_eval (1)) rfl), trivial⟩ ⟨hq.1, hq.2.1, (hq.2.2.sift fun y hy => Or.inr (N y hy)).mono (by decide) (by decide)⟩⟩
theorem main_1_1 : Claimed_1_1 := comes_1 fun _ _ _ _ _ _ h hF => ⟨h.1, hF⟩
theorem main_1_2 : Claimed_1_2 := comes_1 fun _ _ _ _ _ _ h hF => ⟨h.2.1, hF⟩
end Jvm.Pilot.@@N@@
namespace Jvm.Pilot.@@N@@
open Jvm Jvm.ClassFile Sem Op Lib Jvm.Free Jvm.Stand Jvm.Pilot.@@N@@.Jvm.D
/-! MADE BY PROGRAM (witnessworld.py) out of the Statement's table words and the real class files: 12 classes; the members and pool entries that the words name. The judged class is class 1, her method 1. -/
namespace start1
open Jvm.ClassFile
def u (s : String) : CpInfo := .utf8 (stringToUtf16 s)
/-- a pool by its gaps: so many unusable entries, then the entry; so many at the end -/
def gap : Nat → List CpInfo → List CpInfo
  | 0, r => r
  | n + 1, r => .unusable :: gap n r
def poolList (es : List (Nat × CpInfo)) (last : Nat) : List CpInfo := es.foldr (fun e r => gap e.1 (e.2 :: r)) (gap last [])
def pool (es : List (Nat × CpInfo)) (last : Nat) : Array CpInfo := ⟨poolList es last⟩
def fileOf (pool : Array CpInfo) (this : Nat) (attrs : Array Attribute := #[]) (ms : Array MethodInfo := #[]) (fl : Nat := 33) (sup : Nat := 0) (ifs : Array Nat := #[]) (fds : Array FieldInfo := #[]) : ClassFile where
  minorVersion := 0
  majorVersion := 65
  constantPool := pool
  accessFlags := fl
  thisClass := this
  superClass := sup
  interfaces := ifs
  fields := fds
  methods := ms
  attributes := attrs
def plain (name : String) (sup : Option ClassId) : Class where
  name := name
  kind := .ordinary
  loader := none
  accessFlags := 33
  super := sup
  interfaces := #[]
  cf := none
  fields := #[]
  methods := #[]
  instanceTypes := #[]
  staticTypes := #[]
  resolved := #[]
  callSites := []
  init := .initialized
  statics := none
  mirror := none

def pool0 : Array CpInfo := pool [(5, u "<init>"), (0, u "()V"), (1, .class_ 10), (1, u "java/lang/Object")] 113

def k0c0 : Code := { maxStack := 0, maxLocals := 1, code := object_method_1_code, exceptionTable := #[], attributes := #[] }
def k0m0 : Method := { name := "<init>", desc := "()V", sig := { parameters := [], returnType := none }, accessFlags := 1, code := some k0c0 }
/-- java/lang/Object -/
def k0 : Class := { plain "java/lang/Object" none with
  accessFlags := 33
  interfaces := #[]
  cf := some (fileOf pool0 8 #[] #[{ accessFlags := 1, nameIndex := 5, descriptorIndex := 6, attributes := #[] }] 33 0 #[] #[])
  fields := #[]
  methods := #[k0m0]
  instanceTypes := #[]
  staticTypes := #[]
  resolved := Array.replicate 124 none
  statics := none }

def pool1 : Array CpInfo := pool [(2, .class_ 4), (0, .nameAndType 5 6), (0, u "java/lang/Object"), (0, u "<init>"), (0, u "()V"), (2, .long 9223372036854775807), (1, .methodref 12 13), (0, .class_ 14), (0, .nameAndType 15 16), (0, u "java/lang/Math"), (0, u "max"), (0, u "(JJ)J"), (0, .integer 2147483647), (0, .class_ 19), (0, u "com/example/lean_throttle/leanthrottle/TimeRing"), (0, .methodref 18 3), (0, .methodref 18 22), (0, .nameAndType 23 24), (0, u "add"), (0, u "(JJI)V"), (0, .methodref 18 26), (0, .nameAndType 27 28), (0, u "unitsOf"), (0, u "(I)J"), (0, .methodref 18 30), (0, .nameAndType 31 6), (0, u "dropOldest"), (0, .long 2), (1, .class_ 35), (0, u "com/example/lean_throttle/leanthrottle/TimeRingUnitsOfPinLaw"), (2, u "law"), (0, u "(JJJJI)Z")] 3

def k1m0 : Method := { name := "<init>", desc := "()V", sig := { parameters := [], returnType := none }, accessFlags := 2, code := none }
def k1c1 : Code := { maxStack := 6, maxLocals := 17, code := code, exceptionTable := #[], attributes := #[] }
def k1m1 : Method := { name := "law", desc := "(JJJJI)Z", sig := { parameters := [.long, .long, .long, .long, .int], returnType := some .boolean }, accessFlags := 9, code := some k1c1 }
/-- com/example/lean_throttle/leanthrottle/TimeRingUnitsOfPinLaw -/
def k1 : Class := { plain "com/example/lean_throttle/leanthrottle/TimeRingUnitsOfPinLaw" (some 0) with
  accessFlags := 49
  interfaces := #[]
  cf := some (fileOf pool1 34 #[] #[{ accessFlags := 2, nameIndex := 5, descriptorIndex := 6, attributes := #[] }, { accessFlags := 9, nameIndex := 38, descriptorIndex := 39, attributes := #[] }] 49 2 #[] #[])
  fields := #[]
  methods := #[k1m0, k1m1]
  instanceTypes := #[]
  staticTypes := #[]
  resolved := Array.replicate 43 none
  statics := none }

def pool2 : Array CpInfo := pool [(1, .class_ 2), (0, u "java/lang/Math"), (1, .class_ 6), (1, u "java/lang/Object"), (0, u "<init>"), (0, u "()V"), (89, .class_ 100), (1, u "java/lang/Math$RandomNumberGeneratorHolder"), (20, u "(JJ)J"), (50, u "negativeZeroFloatBits"), (0, u "J"), (2, u "negativeZeroDoubleBits"), (21, u "max"), (2, u "min"), (43, u "$assertionsDisabled"), (0, u "Z"), (91, u "twoToTheDoubleScaleDown"), (0, u "D"), (4, u "twoToTheDoubleScaleUp"), (9, u "E"), (3, u "PI"), (2, u "TAU"), (2, u "DEGREES_TO_RADIANS"), (0, u "RADIANS_TO_DEGREES")] 94

def k2m0 : Method := { name := "<init>", desc := "()V", sig := { parameters := [], returnType := none }, accessFlags := 2, code := none }
def k2c1 : Code := { maxStack := 4, maxLocals := 4, code := jdk_29_method_66_code, exceptionTable := #[], attributes := #[] }
def k2m1 : Method := { name := "max", desc := "(JJ)J", sig := { parameters := [.long, .long], returnType := some .long }, accessFlags := 9, code := some k2c1 }
def k2c2 : Code := { maxStack := 4, maxLocals := 4, code := jdk_29_method_70_code, exceptionTable := #[], attributes := #[] }
def k2m2 : Method := { name := "min", desc := "(JJ)J", sig := { parameters := [.long, .long], returnType := some .long }, accessFlags := 9, code := some k2c2 }
/-- java/lang/Math -/
def k2 : Class := { plain "java/lang/Math" (some 0) with
  accessFlags := 49
  interfaces := #[]
  cf := some (fileOf pool2 1 #[.nestMembers #[98]] #[{ accessFlags := 2, nameIndex := 7, descriptorIndex := 8, attributes := #[] }, { accessFlags := 9, nameIndex := 198, descriptorIndex := 121, attributes := #[] }, { accessFlags := 9, nameIndex := 201, descriptorIndex := 121, attributes := #[] }] 49 4 #[] #[{ accessFlags := 25, nameIndex := 354, descriptorIndex := 339, attributes := #[] }, { accessFlags := 25, nameIndex := 358, descriptorIndex := 339, attributes := #[] }, { accessFlags := 25, nameIndex := 361, descriptorIndex := 339, attributes := #[] }, { accessFlags := 26, nameIndex := 364, descriptorIndex := 339, attributes := #[] }, { accessFlags := 26, nameIndex := 365, descriptorIndex := 339, attributes := #[] }, { accessFlags := 26, nameIndex := 172, descriptorIndex := 173, attributes := #[] }, { accessFlags := 26, nameIndex := 176, descriptorIndex := 173, attributes := #[] }, { accessFlags := 8, nameIndex := 344, descriptorIndex := 339, attributes := #[] }, { accessFlags := 8, nameIndex := 338, descriptorIndex := 339, attributes := #[] }, { accessFlags := 4120, nameIndex := 245, descriptorIndex := 246, attributes := #[] }])
  fields := #[{ name := "E", type := .double, accessFlags := 25, slot := 0, constantValue := 0 }, { name := "PI", type := .double, accessFlags := 25, slot := 1, constantValue := 0 }, { name := "TAU", type := .double, accessFlags := 25, slot := 2, constantValue := 0 }, { name := "DEGREES_TO_RADIANS", type := .double, accessFlags := 26, slot := 3, constantValue := 0 }, { name := "RADIANS_TO_DEGREES", type := .double, accessFlags := 26, slot := 4, constantValue := 0 }, { name := "negativeZeroFloatBits", type := .long, accessFlags := 26, slot := 5, constantValue := 0 }, { name := "negativeZeroDoubleBits", type := .long, accessFlags := 26, slot := 6, constantValue := 0 }, { name := "twoToTheDoubleScaleUp", type := .double, accessFlags := 8, slot := 7, constantValue := 0 }, { name := "twoToTheDoubleScaleDown", type := .double, accessFlags := 8, slot := 8, constantValue := 0 }, { name := "$assertionsDisabled", type := .boolean, accessFlags := 4120, slot := 9, constantValue := 0 }]
  methods := #[k2m0, k2m1, k2m2]
  instanceTypes := #[]
  staticTypes := #[.double, .double, .double, .double, .double, .long, .long, .double, .double, .boolean]
  resolved := Array.replicate 460 none
  statics := none }

def pool3 : Array CpInfo := pool [(1, .methodref 2 3), (0, .class_ 4), (0, .nameAndType 5 6), (0, u "java/lang/Object"), (0, u "<init>"), (0, u "()V"), (0, .fieldref 8 9), (0, .class_ 10), (0, .nameAndType 11 12), (0, u "com/example/lean_throttle/leanthrottle/TimeRing"), (0, u "times"), (0, u "[J"), (0, .fieldref 8 14), (0, .nameAndType 15 12), (0, u "totals"), (0, .fieldref 8 17), (0, .nameAndType 18 19), (0, u "size"), (0, u "I"), (0, .fieldref 8 21), (0, .nameAndType 22 19), (0, u "first"), (0, .methodref 8 24), (0, .nameAndType 25 26), (0, u "at"), (0, u "(I)I"), (0, .methodref 8 28), (0, .nameAndType 29 30), (0, u "newestTotal"), (0, u "()J"), (0, .fieldref 8 32), (0, .nameAndType 33 34), (0, u "totalBefore"), (0, u "J"), (1, .class_ 38), (1, u "java/lang/Math"), (1, u "(JJ)J"), (0, .long 2), (1, .methodref 36 44), (0, .nameAndType 45 40), (0, u "min"), (0, .methodref 8 47), (0, .nameAndType 48 49), (0, u "unwrapped"), (0, u "([JI)[J"), (6, u "(I)J"), (1, u "unitsOf"), (3, u "dropOldest"), (0, u "add"), (0, u "(JJI)V")] 3

def k3c0 : Code := { maxStack := 2, maxLocals := 1, code := prog_21_method_1_code, exceptionTable := #[], attributes := #[] }
def k3m0 : Method := { name := "<init>", desc := "()V", sig := { parameters := [], returnType := none }, accessFlags := 0, code := some k3c0 }
def k3c1 : Code := { maxStack := 4, maxLocals := 4, code := prog_21_method_7_code, exceptionTable := #[], attributes := #[] }
def k3m1 : Method := { name := "unitsOf", desc := "(I)J", sig := { parameters := [.int], returnType := some .long }, accessFlags := 0, code := some k3c1 }
def k3c2 : Code := { maxStack := 3, maxLocals := 1, code := prog_21_method_9_code, exceptionTable := #[], attributes := #[] }
def k3m2 : Method := { name := "dropOldest", desc := "()V", sig := { parameters := [], returnType := none }, accessFlags := 0, code := some k3c2 }
def k3c3 : Code := { maxStack := 6, maxLocals := 11, code := prog_21_method_10_code, exceptionTable := #[], attributes := #[] }
def k3m3 : Method := { name := "add", desc := "(JJI)V", sig := { parameters := [.long, .long, .int], returnType := none }, accessFlags := 0, code := some k3c3 }
def k3c4 : Code := { maxStack := 4, maxLocals := 1, code := prog_21_method_11_code, exceptionTable := #[], attributes := #[] }
def k3m4 : Method := { name := "newestTotal", desc := "()J", sig := { parameters := [], returnType := some .long }, accessFlags := 2, code := some k3c4 }
def k3c5 : Code := { maxStack := 5, maxLocals := 5, code := prog_21_method_12_code, exceptionTable := #[], attributes := #[] }
def k3m5 : Method := { name := "unwrapped", desc := "([JI)[J", sig := { parameters := [(.array .long), .int], returnType := some (.array .long) }, accessFlags := 2, code := some k3c5 }
def k3c6 : Code := { maxStack := 2, maxLocals := 3, code := prog_21_method_13_code, exceptionTable := #[], attributes := #[] }
def k3m6 : Method := { name := "at", desc := "(I)I", sig := { parameters := [.int], returnType := some .int }, accessFlags := 2, code := some k3c6 }
/-- com/example/lean_throttle/leanthrottle/TimeRing -/
def k3 : Class := { plain "com/example/lean_throttle/leanthrottle/TimeRing" (some 0) with
  accessFlags := 32
  interfaces := #[]
  cf := some (fileOf pool3 8 #[] #[{ accessFlags := 0, nameIndex := 5, descriptorIndex := 6, attributes := #[] }, { accessFlags := 0, nameIndex := 58, descriptorIndex := 56, attributes := #[] }, { accessFlags := 0, nameIndex := 62, descriptorIndex := 6, attributes := #[] }, { accessFlags := 0, nameIndex := 63, descriptorIndex := 64, attributes := #[] }, { accessFlags := 2, nameIndex := 29, descriptorIndex := 30, attributes := #[] }, { accessFlags := 2, nameIndex := 48, descriptorIndex := 49, attributes := #[] }, { accessFlags := 2, nameIndex := 25, descriptorIndex := 26, attributes := #[] }] 32 2 #[] #[{ accessFlags := 2, nameIndex := 11, descriptorIndex := 12, attributes := #[] }, { accessFlags := 2, nameIndex := 15, descriptorIndex := 12, attributes := #[] }, { accessFlags := 2, nameIndex := 22, descriptorIndex := 19, attributes := #[] }, { accessFlags := 2, nameIndex := 18, descriptorIndex := 19, attributes := #[] }, { accessFlags := 2, nameIndex := 33, descriptorIndex := 34, attributes := #[] }])
  fields := #[{ name := "times", type := (.array .long), accessFlags := 2, slot := 0, constantValue := 0 }, { name := "totals", type := (.array .long), accessFlags := 2, slot := 1, constantValue := 0 }, { name := "first", type := .int, accessFlags := 2, slot := 2, constantValue := 0 }, { name := "size", type := .int, accessFlags := 2, slot := 3, constantValue := 0 }, { name := "totalBefore", type := .long, accessFlags := 2, slot := 4, constantValue := 0 }]
  methods := #[k3m0, k3m1, k3m2, k3m3, k3m4, k3m5, k3m6]
  instanceTypes := #[(.array .long), (.array .long), .int, .int, .long]
  staticTypes := #[]
  resolved := Array.replicate 68 none
  statics := none }

def pool4 : Array CpInfo := pool [(1, u "java/lang/Cloneable"), (0, .class_ 1), (0, u "java/lang/Object"), (0, .class_ 3)] 3

/-- java/lang/Cloneable -/
def k4 : Class := { plain "java/lang/Cloneable" (some 0) with
  accessFlags := 1537
  interfaces := #[]
  cf := some (fileOf pool4 2 #[] #[] 1537 4 #[] #[])
  fields := #[]
  methods := #[]
  instanceTypes := #[]
  staticTypes := #[]
  resolved := Array.replicate 8 none
  statics := none }

def pool5 : Array CpInfo := pool [(1, u "java/io/Serializable"), (0, .class_ 1), (0, u "java/lang/Object"), (0, .class_ 3)] 3

/-- java/io/Serializable -/
def k5 : Class := { plain "java/io/Serializable" (some 0) with
  accessFlags := 1537
  interfaces := #[]
  cf := some (fileOf pool5 2 #[] #[] 1537 4 #[] #[])
  fields := #[]
  methods := #[]
  instanceTypes := #[]
  staticTypes := #[]
  resolved := Array.replicate 8 none
  statics := none }

/-- the primitive byte -/
def k6 : Class := { plain "byte" none with kind := .primitive 'B', accessFlags := 0x411 }
/-- [B -/
def k7 : Class := { plain "[B" (some 0) with kind := .array 6 .byte, interfaces := #[4, 5], accessFlags := 1041 }

/-- the primitive int -/
def k8 : Class := { plain "int" none with kind := .primitive 'I', accessFlags := 0x411 }
/-- [I -/
def k9 : Class := { plain "[I" (some 0) with kind := .array 8 .int, interfaces := #[4, 5], accessFlags := 1041 }

/-- the primitive long -/
def k10 : Class := { plain "long" none with kind := .primitive 'J', accessFlags := 0x411 }
/-- [J -/
def k11 : Class := { plain "[J" (some 0) with kind := .array 10 .long, interfaces := #[4, 5], accessFlags := 1041 }

def heap : Heap := #[]
def classes : Array Class := #[k0, k1, k2, k3, k4, k5, k6, k7, k8, k9, k10, k11]
def interned : List (Array UInt16 × Addr) := []
def slotsUsed : Nat := 0
def theMethod : MethodId := ⟨1, 1⟩
def args0 : Array Value := #[.long 5, .long 9, .long 9, .long 9, .int 9]
def aboutOver (below : List Frame) : State where
  vm := { classes := classes, interned := interned.toArray }
  heap := heap
  slotsUsed := slotsUsed
  threads := #[{ frames := .invoking theMethod args0 :: below }]
def below0 : List Frame := [.native { method := ⟨0, 0⟩, args := #[] }]
def about1 : State := aboutOver below0
def p0 : Program := .bare "" "" ""
def e0 : Env := launch0.env 0 0 0
theorem w_frames : about1.frames = Frame.invoking theMethod args0 :: below0 := rfl
set_option maxRecDepth 65536 in
theorem w_args : argsFit about1.vm theMethod args0 = true := by decide +kernel
set_option maxRecDepth 65536 in
theorem w_heap : heapFits about1 = true := by decide +kernel
set_option maxRecDepth 65536 in
theorem w_runnable : about1.curStatus? = some .runnable := by decide +kernel
set_option maxRecDepth 65536 in
theorem w_alone : about1.alone = true := by decide +kernel
set_option maxRecDepth 65536 in
theorem w_named : about1.methodNamed? x = some theMethod := by decide +kernel
set_option maxRecDepth 65536 in
theorem w_hears : about1.hears theMethod below0 = true := by decide +kernel
set_option maxRecDepth 65536 in
theorem w_ripe : about1.ripe theMethod args0 below0 = true := by decide +kernel
theorem w_running : about1.status = .running := rfl
set_option maxRecDepth 65536 in
theorem w_room : about1.hasRoom e0.platform room_1 = true :=
  launch0.hasRoom_least _ room_1 (by decide +kernel) (by decide +kernel) (by decide +kernel) (by decide +kernel) (by decide +kernel) (by decide +kernel)
theorem allAtoms_all (ts : List Jvm.Cond) (a : Array Jvm.Value) (st : Jvm.State) : (allAtoms ts).before a st = ts.all (fun c => c.before a st) := by
  induction ts with
  | nil => rfl
  | cons c t ih =>
    show (Jvm.Cond.and c (allAtoms t)).before a st = _
    rw [Jvm.Cond.before_and, ih, List.all_cons]
def words1 : List Jvm.Cond := Jvm.Cond.code x code maxLocals ret :: tables_1
/-- a 'code' word, met by the world's own term for the bytes: nothing is compared byte by byte -/
theorem code_word {y : MethodName} {bytes : ByteArray} {mx : Nat} {rt : Option FieldType} {a : Array Value} {s : State} {m : MethodId} {meth : Method} {c : Code} (h1 : s.methodNamed? y = some m) (h2 : s.vm.method? m = some meth) (h3 : meth.code = some c) (h4 : c.code = bytes)
    (h5 : (c.maxLocals == mx && c.exceptionTable.isEmpty && decide (c.maxStack ≤ mostOperands) && decide (meth.sig.returnType = rt) && !meth.locks && decide (parseMethodDescriptor y.desc = some meth.sig)) = true) : (Jvm.Cond.code y bytes mx rt).before a s = true := by
  simp only [Bool.and_eq_true, beq_iff_eq, Bool.not_eq_true', decide_eq_true_eq] at h5
  obtain ⟨⟨⟨⟨⟨g1, g2⟩, g3⟩, g4⟩, g5⟩, g6⟩ := h5
  simp [Cond.before, Cond.holds, Cond.value, h1, h2, h3, h4, g1, g2, g3, g4, g5, g6]
def isCode : Jvm.Cond → Bool
  | .code _ _ _ _ => true
  | _ => false
theorem all_split {L : List Jvm.Cond} {P : Jvm.Cond → Bool} (h1 : L.all (fun c => isCode c || P c) = true) (h2 : ∀ c ∈ L.filter isCode, P c = true) : L.all P = true := by
  refine List.all_eq_true.mpr fun c hc => ?_
  have h := List.all_eq_true.mp h1 c hc
  rcases Bool.eq_false_or_eq_true (isCode c) with hi | hi
  · exact h2 c (List.mem_filter.mpr ⟨hc, hi⟩)
  · simpa [hi] using h
set_option maxRecDepth 65536 in
theorem w_c0 : (Jvm.Cond.code x code maxLocals ret).before args0 about1 = true := code_word (m := ⟨1, 1⟩) (meth := k1m1) (c := k1c1) (by decide +kernel) rfl rfl rfl (by decide +kernel)
set_option maxRecDepth 65536 in
theorem w_c1 : (Jvm.Cond.code ({ cls := "java/lang/Math", name := "max", desc := "(JJ)J" } : Jvm.MethodName) jdk_29_method_66_code (4 : Nat) (Option.some Jvm.ClassFile.FieldType.long)).before args0 about1 = true := code_word (m := ⟨2, 1⟩) (meth := k2m1) (c := k2c1) (by decide +kernel) rfl rfl rfl (by decide +kernel)
set_option maxRecDepth 65536 in
theorem w_c2 : (Jvm.Cond.code ({ cls := "com/example/lean_throttle/leanthrottle/TimeRing", name := "<init>", desc := "()V" } : Jvm.MethodName) prog_21_method_1_code (1 : Nat) (Option.none : Option Jvm.ClassFile.FieldType)).before args0 about1 = true := code_word (m := ⟨3, 0⟩) (meth := k3m0) (c := k3c0) (by decide +kernel) rfl rfl rfl (by decide +kernel)
set_option maxRecDepth 65536 in
theorem w_c3 : (Jvm.Cond.code ({ cls := "java/lang/Object", name := "<init>", desc := "()V" } : Jvm.MethodName) object_method_1_code (1 : Nat) (Option.none : Option Jvm.ClassFile.FieldType)).before args0 about1 = true := code_word (m := ⟨0, 0⟩) (meth := k0m0) (c := k0c0) (by decide +kernel) rfl rfl rfl (by decide +kernel)
set_option maxRecDepth 65536 in
theorem w_c4 : (Jvm.Cond.code ({ cls := "com/example/lean_throttle/leanthrottle/TimeRing", name := "add", desc := "(JJI)V" } : Jvm.MethodName) prog_21_method_10_code (11 : Nat) (Option.none : Option Jvm.ClassFile.FieldType)).before args0 about1 = true := code_word (m := ⟨3, 3⟩) (meth := k3m3) (c := k3c3) (by decide +kernel) rfl rfl rfl (by decide +kernel)
set_option maxRecDepth 65536 in
theorem w_c5 : (Jvm.Cond.code ({ cls := "com/example/lean_throttle/leanthrottle/TimeRing", name := "newestTotal", desc := "()J" } : Jvm.MethodName) prog_21_method_11_code (1 : Nat) (Option.some Jvm.ClassFile.FieldType.long)).before args0 about1 = true := code_word (m := ⟨3, 4⟩) (meth := k3m4) (c := k3c4) (by decide +kernel) rfl rfl rfl (by decide +kernel)
set_option maxRecDepth 65536 in
theorem w_c6 : (Jvm.Cond.code ({ cls := "com/example/lean_throttle/leanthrottle/TimeRing", name := "at", desc := "(I)I" } : Jvm.MethodName) prog_21_method_13_code (3 : Nat) (Option.some Jvm.ClassFile.FieldType.int)).before args0 about1 = true := code_word (m := ⟨3, 6⟩) (meth := k3m6) (c := k3c6) (by decide +kernel) rfl rfl rfl (by decide +kernel)
set_option maxRecDepth 65536 in
theorem w_c7 : (Jvm.Cond.code ({ cls := "java/lang/Math", name := "min", desc := "(JJ)J" } : Jvm.MethodName) jdk_29_method_70_code (4 : Nat) (Option.some Jvm.ClassFile.FieldType.long)).before args0 about1 = true := code_word (m := ⟨2, 2⟩) (meth := k2m2) (c := k2c2) (by decide +kernel) rfl rfl rfl (by decide +kernel)
set_option maxRecDepth 65536 in
theorem w_c8 : (Jvm.Cond.code ({ cls := "com/example/lean_throttle/leanthrottle/TimeRing", name := "unwrapped", desc := "([JI)[J" } : Jvm.MethodName) prog_21_method_12_code (5 : Nat) (Option.some (Jvm.ClassFile.FieldType.array Jvm.ClassFile.FieldType.long))).before args0 about1 = true := code_word (m := ⟨3, 5⟩) (meth := k3m5) (c := k3c5) (by decide +kernel) rfl rfl rfl (by decide +kernel)
set_option maxRecDepth 65536 in
theorem w_c9 : (Jvm.Cond.code ({ cls := "com/example/lean_throttle/leanthrottle/TimeRing", name := "unitsOf", desc := "(I)J" } : Jvm.MethodName) prog_21_method_7_code (4 : Nat) (Option.some Jvm.ClassFile.FieldType.long)).before args0 about1 = true := code_word (m := ⟨3, 1⟩) (meth := k3m1) (c := k3c1) (by decide +kernel) rfl rfl rfl (by decide +kernel)
set_option maxRecDepth 65536 in
theorem w_c10 : (Jvm.Cond.code ({ cls := "com/example/lean_throttle/leanthrottle/TimeRing", name := "dropOldest", desc := "()V" } : Jvm.MethodName) prog_21_method_9_code (1 : Nat) (Option.none : Option Jvm.ClassFile.FieldType)).before args0 about1 = true := code_word (m := ⟨3, 2⟩) (meth := k3m2) (c := k3c2) (by decide +kernel) rfl rfl rfl (by decide +kernel)
def codes1 : List Jvm.Cond := [Jvm.Cond.code x code maxLocals ret, Jvm.Cond.code ({ cls := "java/lang/Math", name := "max", desc := "(JJ)J" } : Jvm.MethodName) jdk_29_method_66_code (4 : Nat) (Option.some Jvm.ClassFile.FieldType.long), Jvm.Cond.code ({ cls := "com/example/lean_throttle/leanthrottle/TimeRing", name := "<init>", desc := "()V" } : Jvm.MethodName) prog_21_method_1_code (1 : Nat) (Option.none : Option Jvm.ClassFile.FieldType), Jvm.Cond.code ({ cls := "java/lang/Object", name := "<init>", desc := "()V" } : Jvm.MethodName) object_method_1_code (1 : Nat) (Option.none : Option Jvm.ClassFile.FieldType), Jvm.Cond.code ({ cls := "com/example/lean_throttle/leanthrottle/TimeRing", name := "add", desc := "(JJI)V" } : Jvm.MethodName) prog_21_method_10_code (11 : Nat) (Option.none : Option Jvm.ClassFile.FieldType), Jvm.Cond.code ({ cls := "com/example/lean_throttle/leanthrottle/TimeRing", name := "newestTotal", desc := "()J" } : Jvm.MethodName) prog_21_method_11_code (1 : Nat) (Option.some Jvm.ClassFile.FieldType.long), Jvm.Cond.code ({ cls := "com/example/lean_throttle/leanthrottle/TimeRing", name := "at", desc := "(I)I" } : Jvm.MethodName) prog_21_method_13_code (3 : Nat) (Option.some Jvm.ClassFile.FieldType.int), Jvm.Cond.code ({ cls := "java/lang/Math", name := "min", desc := "(JJ)J" } : Jvm.MethodName) jdk_29_method_70_code (4 : Nat) (Option.some Jvm.ClassFile.FieldType.long), Jvm.Cond.code ({ cls := "com/example/lean_throttle/leanthrottle/TimeRing", name := "unwrapped", desc := "([JI)[J" } : Jvm.MethodName) prog_21_method_12_code (5 : Nat) (Option.some (Jvm.ClassFile.FieldType.array Jvm.ClassFile.FieldType.long)), Jvm.Cond.code ({ cls := "com/example/lean_throttle/leanthrottle/TimeRing", name := "unitsOf", desc := "(I)J" } : Jvm.MethodName) prog_21_method_7_code (4 : Nat) (Option.some Jvm.ClassFile.FieldType.long), Jvm.Cond.code ({ cls := "com/example/lean_throttle/leanthrottle/TimeRing", name := "dropOldest", desc := "()V" } : Jvm.MethodName) prog_21_method_9_code (1 : Nat) (Option.none : Option Jvm.ClassFile.FieldType)]
set_option maxRecDepth 65536 in
theorem codes_eq : words1.filter isCode = codes1 := rfl
theorem w_codes : ∀ c ∈ words1.filter isCode, c.before args0 about1 = true := by
  rw [codes_eq]
  intro c hc
  simp only [codes1, List.mem_cons, List.not_mem_nil, or_false] at hc
  rcases hc with rfl | rfl | rfl | rfl | rfl | rfl | rfl | rfl | rfl | rfl | rfl
  · exact w_c0
  · exact w_c1
  · exact w_c2
  · exact w_c3
  · exact w_c4
  · exact w_c5
  · exact w_c6
  · exact w_c7
  · exact w_c8
  · exact w_c9
  · exact w_c10
set_option maxRecDepth 65536 in
theorem w_t1 : (words1.take 24).all (fun c => isCode c || c.before args0 about1) = true := by decide +kernel
set_option maxRecDepth 65536 in
theorem w_t2 : ((words1.drop 24).take 24).all (fun c => isCode c || c.before args0 about1) = true := by decide +kernel
set_option maxRecDepth 65536 in
theorem w_t3 : ((words1.drop 24).drop 24).all (fun c => isCode c || c.before args0 about1) = true := by decide +kernel
theorem w_tables : (allAtoms (Jvm.Cond.code x code maxLocals ret :: tables_1)).before args0 about1 = true := by
  rw [allAtoms_all]
  show words1.all (fun c => c.before args0 about1) = true
  refine all_split ?_ w_codes
  rw [← List.take_append_drop 24 words1, List.all_append, w_t1, ← List.take_append_drop 24 (words1.drop 24), List.all_append, w_t2, w_t3]
  rfl
set_option maxRecDepth 65536 in
theorem w_case : (Jvm.Cond.and given_1 narrow_1).before args0 about1 = true := by decide +kernel
theorem w_applies : (headSpec (Jvm.Cond.code x code maxLocals ret :: tables_1) room_1).applies x e0.platform about1 = true :=
  (Spec.applies_iff w_frames).mpr ⟨w_running, w_runnable, w_alone, w_named, w_hears, w_ripe, w_room, w_tables⟩
theorem atStart : AtStart classFile x code maxLocals ret World_1 tables_1 room_1 Calls_1 rest_1 Pre_1 launch0 p0 e0 about1 theMethod args0 below0 :=
  ⟨lists_1, trivial, launch0.admits_env _ _ _, launch0.least_env, fairChoices_fair.cas, fairChoices_fair.clock, w_frames, w_args, w_heap, w_applies, trivial, trivial, w_case⟩
end start1
theorem witness_1 : WitnessClaimed_1 := ⟨start1.p0, start1.e0, start1.about1, start1.theMethod, start1.args0, start1.below0, start1.atStart⟩
end Jvm.Pilot.@@N@@

import JvmDerived
import JvmDerived.Pilot.@@N@@Statement
import JvmDerived.Pilot.@@N@@Code
set_option linter.unusedVariables false
set_option linter.unusedSimpArgs false
@@BLOCK:NumsL.lean.txt@@
@@BLOCK:Masks.lean.txt@@
namespace Jvm.RoadKit
open Sem ClassFile Op Lib Jvm.Stand Jvm.Free Jvm.LawKit
section New
variable {p : Program} {l : Launch} {e : Env} {R : Room} {s : State} {m : MethodId} {args : Array Value} {below : List Frame} {meth : Method} {c : Code} {T : State} {locs : List Loc} {cells slots : Nat}
theorem retI (X : Stand p l e R s m args below meth c T locs cells slots) (hx : p.tables.exec = Jvm.exec) {pc : Nat} {Ls : Array Slot} {z : Int32} {rest : List Value} (hret : meth.sig.returnType = some .int) (hd : decode c.code pc = .ok (.ireturn, 1)) {fs : List Frame}
    (hl : ∀ (f : JFrame) (acts : List Action), f.method = m → f.locked = none → f.entered = [] → (doReturn e (T.setTop f) acts (some (.int z))).1 = T.setFrames fs) : Steps p.tables e below (T.setTop (mkF m pc Ls (.int z :: rest))) (T.setFrames fs) := by
  have hm' : T.vm.method? m = some meth := X.method'
  have hn : narrow .int (.int z) = .int z := rfl
  show Steps p.tables e below (T.setTop { method := m, pc := pc, locals := Ls, stack := _ :: rest, locked := none }) _
  jvm_step X.here [X.here.top, hx, hd, hm', hret, hn]
  first | (intro acts; rw [hl _ acts rfl rfl rfl]) | rw [hl _ _ rfl rfl rfl]
  exact Steps.refl _
theorem retJ (X : Stand p l e R s m args below meth c T locs cells slots) (hx : p.tables.exec = Jvm.exec) {pc : Nat} {Ls : Array Slot} {z : Int64} {rest : List Value} (hret : meth.sig.returnType = some .long) (hd : decode c.code pc = .ok (.lreturn, 1)) {fs : List Frame}
    (hl : ∀ (f : JFrame) (acts : List Action), f.method = m → f.locked = none → f.entered = [] → (doReturn e (T.setTop f) acts (some (.long z))).1 = T.setFrames fs) : Steps p.tables e below (T.setTop (mkF m pc Ls (.long z :: rest))) (T.setFrames fs) := by
  have hm' : T.vm.method? m = some meth := X.method'
  have hn : narrow .long (.long z) = .long z := rfl
  show Steps p.tables e below (T.setTop { method := m, pc := pc, locals := Ls, stack := _ :: rest, locked := none }) _
  jvm_step X.here [X.here.top, hx, hd, hm', hret, hn]
  first | (intro acts; rw [hl _ acts rfl rfl rfl]) | rw [hl _ _ rfl rfl rfl]
  exact Steps.refl _
end New
theorem own_ite {α : Type} {P : Prop} [Decidable P] {f : α → Prop} {a b : α} (ha : f a) (hb : f b) : f (if P then a else b) := by split <;> assumption
theorem own_lc_eq {x y : Int64} : lcmpW x y = 0 ↔ x = y := by rw [lcW]; exact lc_eq x y
theorem own_lc_lt {x y : Int64} : lcmpW x y < 0 ↔ x < y := by rw [lcW]; exact lc_lt x y
theorem own_lc_gt {x y : Int64} : 0 < lcmpW x y ↔ y < x := by rw [lcW]; exact lc_gt x y
end Jvm.RoadKit
namespace Jvm.RoadKit
open Sem ClassFile Op Lib Jvm.Stand Jvm.Free Jvm.LawKit
section Own
variable {Z : State} {h h' : Heap} {a b : Addr} {ty : FieldType} {n j : Int32} {sl : Nat} {v : Value} {ws : List Addr} {α : Type} {mk : α → Value} {g : Nat → α} {w : α}
/-- an array: its kind, its length and, by a function, what it holds -/
def JV (mk : α → Value) (Z : State) (h : Heap) (a : Addr) (ty : FieldType) (n : Int32) (g : Nat → α) : Prop := ∃ c : Cell, Arr Z h a c ty ∧ c.slots.size = n.toNatClampNeg ∧ ¬ n < 0 ∧ ∀ i, i < c.slots.size → c.slots[i]? = some (mk (g i))
def updF (g : Nat → α) (k : Nat) (w : α) : Nat → α := fun i => if i = k then w else g i
theorem JV.lt (F : JV mk Z h a ty n g) : a < h.size := by obtain ⟨c, A, -⟩ := F; exact A.lt
theorem JV.ext (F : JV mk Z h a ty n g) (E : Ext h h') : JV mk Z h' a ty n g := by obtain ⟨c, A, r⟩ := F; exact ⟨c, A.ext E, r⟩
theorem JV.other (F : JV mk Z h b ty n g) (W : Wr h h' a sl v) (q : b ≠ a) : JV mk Z h' b ty n g := by obtain ⟨c, A, r⟩ := F; exact ⟨c, A.other W q, r⟩
theorem JV.keep (F : JV mk Z h a ty n g) (K : Keep h h' ws) (q : a ∉ ws) : JV mk Z h' a ty n g := by obtain ⟨c, A, r⟩ := F; exact ⟨c, ⟨K.2.1 a c A.1 q, A.2⟩, r⟩
theorem JV.new {k : ClassId} (A : Arr Z h a (newA k ty n) ty) (q : ¬ n < 0) (w : α) (hd : defaultValue ty = mk w) : JV mk Z h a ty n (fun _ => w) := by
  obtain ⟨c, A', -, S, N, H, -⟩ := Arv.new A q
  exact ⟨c, A', S, N, fun i hi => by rw [H i hi, hd]; rfl⟩
theorem JV.in (F : JV mk Z h a ty n g) (q : ¬ j < 0 ∧ j < n) : ∃ c : Cell, Arr Z h a c ty ∧ ¬ (j < 0 ∨ c.slots.size ≤ j.toNatClampNeg) ∧ c.slots[j.toNatClampNeg]? = some (mk (g j.toNatClampNeg)) := by
  obtain ⟨c, A, S, N, H⟩ := F
  have hin := inb_of S q
  exact ⟨c, A, hin, H _ (Nat.lt_of_not_le fun y => hin (Or.inr y))⟩
theorem JV.len (F : JV mk Z h a ty n g) : ∃ c : Cell, Arr Z h a c ty ∧ c.slots.size.toInt32 = n := by
  obtain ⟨c, A, S, N, H⟩ := F
  exact ⟨c, A, len_of S N⟩
theorem JV.nn (F : JV mk Z h a ty n g) : ¬ n < 0 := by obtain ⟨c, A, S, N, H⟩ := F; exact N
theorem JV.set (F : JV mk Z h a ty n g) (W : Wr h h' a j.toNatClampNeg (mk w)) : JV mk Z h' a ty n (updF g j.toNatClampNeg w) := by
  obtain ⟨c, A, S, N, H⟩ := F
  refine ⟨_, A.same W, ?_, N, ?_⟩
  · rw [← S]; simp [Cell.setSlot]
  · intro i hi
    have hi' : i < c.slots.size := by simpa [Cell.setSlot] using hi
    obtain ⟨cell, h1, -, h3, rfl⟩ := W
    cases A.1.symm.trans h1
    by_cases e : i = j.toNatClampNeg
    · subst e; simp [Cell.setSlot, updF, hi']
    · rw [show (c.setSlot j.toNatClampNeg (mk w)).slots[i]? = c.slots[i]? from by simp [Cell.setSlot, Array.getElem?_setIfInBounds, Ne.symm e], H i hi']
      simp [updF, e]
end Own
end Jvm.RoadKit
namespace Jvm.Pilot.@@N@@
open Jvm Jvm.ClassFile Sem Op Lib Jvm.Free Jvm.Stand Jvm.LawKit Jvm.RoadKit Bundle Jvm.Pilot.@@N@@.Jvm.D
def Lead (p : Program) (e : Env) (below : List Frame) (A B : State) : Prop := ∀ t, Steps p.tables e below B t → Steps p.tables e below A t
theorem d1_0 : decode prog_12_method_10_code 0 = .ok (.iload_n 0, 1) := by decide +kernel
theorem d1_1 : decode prog_12_method_10_code 1 = .ok (.iload_n 1, 1) := by decide +kernel
theorem d1_2 : decode prog_12_method_10_code 2 = .ok (.if_icmp .gt 21, 3) := by decide +kernel
theorem d1_5 : decode prog_12_method_10_code 5 = .ok (.iload_n 2, 1) := by decide +kernel
theorem d1_6 : decode prog_12_method_10_code 6 = .ok (.iload_n 0, 1) := by decide +kernel
theorem d1_7 : decode prog_12_method_10_code 7 = .ok (.if_icmp .le 8, 3) := by decide +kernel
theorem d1_10 : decode prog_12_method_10_code 10 = .ok (.iload_n 2, 1) := by decide +kernel
theorem d1_11 : decode prog_12_method_10_code 11 = .ok (.iload_n 1, 1) := by decide +kernel
theorem d1_12 : decode prog_12_method_10_code 12 = .ok (.if_icmp .le 7, 3) := by decide +kernel
theorem d1_15 : decode prog_12_method_10_code 15 = .ok (.iconst 1, 1) := by decide +kernel
theorem d1_16 : decode prog_12_method_10_code 16 = .ok (.goto 22, 3) := by decide +kernel
theorem d1_19 : decode prog_12_method_10_code 19 = .ok (.iconst 0, 1) := by decide +kernel
theorem d1_20 : decode prog_12_method_10_code 20 = .ok (.goto 18, 3) := by decide +kernel
theorem d1_23 : decode prog_12_method_10_code 23 = .ok (.iload_n 2, 1) := by decide +kernel
theorem d1_24 : decode prog_12_method_10_code 24 = .ok (.iload_n 0, 1) := by decide +kernel
theorem d1_25 : decode prog_12_method_10_code 25 = .ok (.if_icmp .gt 12, 3) := by decide +kernel
theorem d1_28 : decode prog_12_method_10_code 28 = .ok (.iload_n 2, 1) := by decide +kernel
theorem d1_29 : decode prog_12_method_10_code 29 = .ok (.iload_n 1, 1) := by decide +kernel
theorem d1_30 : decode prog_12_method_10_code 30 = .ok (.if_icmp .le 7, 3) := by decide +kernel
theorem d1_33 : decode prog_12_method_10_code 33 = .ok (.iconst 1, 1) := by decide +kernel
theorem d1_34 : decode prog_12_method_10_code 34 = .ok (.goto 4, 3) := by decide +kernel
theorem d1_37 : decode prog_12_method_10_code 37 = .ok (.iconst 0, 1) := by decide +kernel
theorem d1_38 : decode prog_12_method_10_code 38 = .ok (.ireturn, 1) := by decide +kernel
def F1 (p0 : Int32) (p1 : Int32) (p2 : Int32) : Int32 := let v12 : Int32 := (if p1 < p0 then (if p0 < p2 then (0 : Int32) else (if p1 < p2 then (1 : Int32) else (0 : Int32))) else (if p0 < p2 then (if p1 < p2 then (1 : Int32) else (0 : Int32)) else (1 : Int32))); (nar .boolean v12)
theorem pn_com_example_processionary_processionary_automata_IntSet : plainName "com/example/processionary/processionary/automata/IntSet" = true := by first | (simp [plainName, overriddenIn]; done) | decide +kernel
theorem ef_1 (m : MethodId) (p0 : Int32) (p1 : Int32) (p2 : Int32) : entryFrame m #[(.int p0), (.int p1), (.int p2)] 3 = mkF m 0 #[.val (.int p0), .val (.int p1), .val (.int p2)] [] := by first | (simp [entryFrame, mkF, argsToLocals, Value.category]; done) | rfl
def Q1 (Z : State) (p0 : Int32) (p1 : Int32) (p2 : Int32)  (h0 : Heap) (n0 : Nat) (v : Option Value) (h : Heap) (L : List Loc) : Prop := v = some (.int (F1 p0 p1 p2)) ∧ Fr n0 L ∧ h = h0
set_option maxRecDepth 65536 in
set_option maxHeartbeats 40000000 in
theorem rm1 (l : Launch) (Z : State) (a0 : Array Value) (hw : ∀ d ∈ tables_1, d.before a0 Z = true) (ws : List Jvm.Cond) (p0 : Int32) (p1 : Int32) (p2 : Int32)  (h0 : Heap) (n0 : Nat) (Z0 : n0 ≤ h0.size)  :
    MetFree l (⟨"com/example/processionary/processionary/automata/IntSet", "fillsGap", "(III)Z"⟩ : MethodName) (head1 (Jvm.Cond.code (⟨"com/example/processionary/processionary/automata/IntSet", "fillsGap", "(III)Z"⟩ : MethodName) prog_12_method_10_code 3 (some .boolean) :: ws) ({ frames := 0, cells := 0, slots := 0, locals := 0 } : Room)) (fun a U => a = #[(.int p0), (.int p1), (.int p2)] ∧ Z.Warmed39 U.vm ∧ U.heap = h0) (fun _ _ _ _ _ => True) (fun _ U o U' => ∃ v L, o = .returned v ∧ Q1 Z p0 p1 p2 h0 n0 v U'.heap L ∧ FrameEnd U o U' L ({ frames := 0, cells := 0, slots := 0, locals := 0 } : Room).cells ({ frames := 0, cells := 0, slots := 0, locals := 0 } : Room).slots) := by
  refine MetFree.of_bodySF (plainFor_of_name pn_com_example_processionary_processionary_automata_IntSet) hisR ?_
  intro p e s m args below meth c s₁ Bd hml0 hP hK
  obtain ⟨rfl, hZ, hh⟩ := hP
  have hx := Bd.exec
  have hby := Bd.bytes
  have hml : c.maxLocals = 3 := hml0
  have hown : s.vm.findClass "com/example/processionary/processionary/automata/IntSet" = some m.cls := findClass_of_methodNamed Bd.named
  have hnm := (name_of_methodNamed Bd.named Bd.method).1
  have X0 : Stand p l e ({ frames := 0, cells := 0, slots := 0, locals := 0 } : Room) s m #[(.int p0), (.int p1), (.int p2)] below meth c s₁ [] 0 0 := Stand.of_body Bd
  have e0 : s₁.heap = h0 := by rw [← hh, Bd.state]; rfl
  have N0 := Fr.nil n0
  obtain ⟨G, hG⟩ : ∃ z, z = s₁.setTop (entryFrame m #[(.int p0), (.int p1), (.int p2)] 3) := ⟨_, rfl⟩
  have pre0 : Lead p e below G (s₁.setTop (mkF m 0 #[.val (.int p0), .val (.int p1), .val (.int p2)] [])) := fun t k => by rw [hG]; exact castTop (ef_1 m p0 p1 p2) k
  have pre11 : Lead p e below G (s₁.setTop (mkF m 38 #[.val (.int p0), .val (.int p1), .val (.int p2)] [(.int (if p1 < p0 then (if p0 < p2 then (0 : Int32) else (if p1 < p2 then (1 : Int32) else (0 : Int32))) else (if p0 < p2 then (if p1 < p2 then (1 : Int32) else (0 : Int32)) else (1 : Int32))))])) := fun t k => by
    refine pre0 t ?_
    show Steps p.tables e below (s₁.setTop (mkF m 0 #[.val (.int p0), .val (.int p1), .val (.int p2)] [])) _
    refine XS.iloadN X0.here hx rfl (hb hby d1_0) rfl ?_
    show Steps p.tables e below (s₁.setTop (mkF m 1 #[.val (.int p0), .val (.int p1), .val (.int p2)] [(.int p0)])) _
    refine XS.iloadN X0.here hx rfl (hb hby d1_1) rfl ?_
    show Steps p.tables e below (s₁.setTop (mkF m 2 #[.val (.int p0), .val (.int p1), .val (.int p2)] [(.int p1), (.int p0)])) _
    have j10 : ∀ t, Steps p.tables e below (s₁.setTop (mkF m 38 #[.val (.int p0), .val (.int p1), .val (.int p2)] [(.int (if p1 < p0 then (if p0 < p2 then (0 : Int32) else (if p1 < p2 then (1 : Int32) else (0 : Int32))) else (if p0 < p2 then (if p1 < p2 then (1 : Int32) else (0 : Int32)) else (1 : Int32))))])) t → Steps p.tables e below (s₁.setTop (mkF m 2 #[.val (.int p0), .val (.int p1), .val (.int p2)] [(.int p1), (.int p0)])) t := fun t k => by
      by_cases hc2_1 : p1 < p0
      · simp only [if_pos hc2_1] at k
        refine XS.icmpYes X0.here hx rfl (pc0 := 2) (pc' := 23) rfl (hb hby d1_2) rfl (tlt hc2_1).2.2.1 (by decide) (by decide) ?_
        show Steps p.tables e below (s₁.setTop (mkF m 23 #[.val (.int p0), .val (.int p1), .val (.int p2)] [])) _
        refine XS.iloadN X0.here hx rfl (hb hby d1_23) rfl ?_
        show Steps p.tables e below (s₁.setTop (mkF m 24 #[.val (.int p0), .val (.int p1), .val (.int p2)] [(.int p2)])) _
        refine XS.iloadN X0.here hx rfl (hb hby d1_24) rfl ?_
        show Steps p.tables e below (s₁.setTop (mkF m 25 #[.val (.int p0), .val (.int p1), .val (.int p2)] [(.int p0), (.int p2)])) _
        have j5 : ∀ t, Steps p.tables e below (s₁.setTop (mkF m 38 #[.val (.int p0), .val (.int p1), .val (.int p2)] [(.int (if p0 < p2 then (0 : Int32) else (if p1 < p2 then (1 : Int32) else (0 : Int32))))])) t → Steps p.tables e below (s₁.setTop (mkF m 25 #[.val (.int p0), .val (.int p1), .val (.int p2)] [(.int p0), (.int p2)])) t := fun t k => by
          by_cases hc25_2 : p0 < p2
          · simp only [if_pos hc25_2] at k
            refine XS.icmpYes X0.here hx rfl (pc0 := 25) (pc' := 37) rfl (hb hby d1_25) rfl (tlt hc25_2).2.2.1 (by decide) (by decide) ?_
            show Steps p.tables e below (s₁.setTop (mkF m 37 #[.val (.int p0), .val (.int p1), .val (.int p2)] [])) _
            refine XS.iconst X0.here hx rfl (hb hby d1_37) ?_
            show Steps p.tables e below (s₁.setTop (mkF m 38 #[.val (.int p0), .val (.int p1), .val (.int p2)] [(.int (0 : Int32))])) _
            exact k
          · simp only [if_neg hc25_2] at k
            refine XS.icmpNo X0.here hx rfl (hb hby d1_25) rfl (flt hc25_2).2.2.1 ?_
            show Steps p.tables e below (s₁.setTop (mkF m 28 #[.val (.int p0), .val (.int p1), .val (.int p2)] [])) _
            refine XS.iloadN X0.here hx rfl (hb hby d1_28) rfl ?_
            show Steps p.tables e below (s₁.setTop (mkF m 29 #[.val (.int p0), .val (.int p1), .val (.int p2)] [(.int p2)])) _
            refine XS.iloadN X0.here hx rfl (hb hby d1_29) rfl ?_
            show Steps p.tables e below (s₁.setTop (mkF m 30 #[.val (.int p0), .val (.int p1), .val (.int p2)] [(.int p1), (.int p2)])) _
            have j4 : ∀ t, Steps p.tables e below (s₁.setTop (mkF m 38 #[.val (.int p0), .val (.int p1), .val (.int p2)] [(.int (if p1 < p2 then (1 : Int32) else (0 : Int32)))])) t → Steps p.tables e below (s₁.setTop (mkF m 30 #[.val (.int p0), .val (.int p1), .val (.int p2)] [(.int p1), (.int p2)])) t := fun t k => by
              by_cases hc30_3 : p1 < p2
              · simp only [if_pos hc30_3] at k
                refine XS.icmpNo X0.here hx rfl (hb hby d1_30) rfl (tlt hc30_3).2.2.2 ?_
                show Steps p.tables e below (s₁.setTop (mkF m 33 #[.val (.int p0), .val (.int p1), .val (.int p2)] [])) _
                refine XS.iconst X0.here hx rfl (hb hby d1_33) ?_
                show Steps p.tables e below (s₁.setTop (mkF m 34 #[.val (.int p0), .val (.int p1), .val (.int p2)] [(.int (1 : Int32))])) _
                refine XS.goto X0.here hx rfl (pc0 := 34) (pc' := 38) rfl (hb hby d1_34) (by decide) (by decide) ?_
                show Steps p.tables e below (s₁.setTop (mkF m 38 #[.val (.int p0), .val (.int p1), .val (.int p2)] [(.int (1 : Int32))])) _
                exact k
              · simp only [if_neg hc30_3] at k
                refine XS.icmpYes X0.here hx rfl (pc0 := 30) (pc' := 37) rfl (hb hby d1_30) rfl (flt hc30_3).2.2.2 (by decide) (by decide) ?_
                show Steps p.tables e below (s₁.setTop (mkF m 37 #[.val (.int p0), .val (.int p1), .val (.int p2)] [])) _
                refine XS.iconst X0.here hx rfl (hb hby d1_37) ?_
                show Steps p.tables e below (s₁.setTop (mkF m 38 #[.val (.int p0), .val (.int p1), .val (.int p2)] [(.int (0 : Int32))])) _
                exact k
            refine j4 _ ?_
            show Steps p.tables e below (s₁.setTop (mkF m 38 #[.val (.int p0), .val (.int p1), .val (.int p2)] [(.int (if p1 < p2 then (1 : Int32) else (0 : Int32)))])) _
            exact k
        refine j5 _ ?_
        show Steps p.tables e below (s₁.setTop (mkF m 38 #[.val (.int p0), .val (.int p1), .val (.int p2)] [(.int (if p0 < p2 then (0 : Int32) else (if p1 < p2 then (1 : Int32) else (0 : Int32))))])) _
        exact k
      · simp only [if_neg hc2_1] at k
        refine XS.icmpNo X0.here hx rfl (hb hby d1_2) rfl (flt hc2_1).2.2.1 ?_
        show Steps p.tables e below (s₁.setTop (mkF m 5 #[.val (.int p0), .val (.int p1), .val (.int p2)] [])) _
        refine XS.iloadN X0.here hx rfl (hb hby d1_5) rfl ?_
        show Steps p.tables e below (s₁.setTop (mkF m 6 #[.val (.int p0), .val (.int p1), .val (.int p2)] [(.int p2)])) _
        refine XS.iloadN X0.here hx rfl (hb hby d1_6) rfl ?_
        show Steps p.tables e below (s₁.setTop (mkF m 7 #[.val (.int p0), .val (.int p1), .val (.int p2)] [(.int p0), (.int p2)])) _
        have j9 : ∀ t, Steps p.tables e below (s₁.setTop (mkF m 38 #[.val (.int p0), .val (.int p1), .val (.int p2)] [(.int (if p0 < p2 then (if p1 < p2 then (1 : Int32) else (0 : Int32)) else (1 : Int32)))])) t → Steps p.tables e below (s₁.setTop (mkF m 7 #[.val (.int p0), .val (.int p1), .val (.int p2)] [(.int p0), (.int p2)])) t := fun t k => by
          by_cases hc7_6 : p0 < p2
          · simp only [if_pos hc7_6] at k
            refine XS.icmpNo X0.here hx rfl (hb hby d1_7) rfl (tlt hc7_6).2.2.2 ?_
            show Steps p.tables e below (s₁.setTop (mkF m 10 #[.val (.int p0), .val (.int p1), .val (.int p2)] [])) _
            refine XS.iloadN X0.here hx rfl (hb hby d1_10) rfl ?_
            show Steps p.tables e below (s₁.setTop (mkF m 11 #[.val (.int p0), .val (.int p1), .val (.int p2)] [(.int p2)])) _
            refine XS.iloadN X0.here hx rfl (hb hby d1_11) rfl ?_
            show Steps p.tables e below (s₁.setTop (mkF m 12 #[.val (.int p0), .val (.int p1), .val (.int p2)] [(.int p1), (.int p2)])) _
            have j8 : ∀ t, Steps p.tables e below (s₁.setTop (mkF m 38 #[.val (.int p0), .val (.int p1), .val (.int p2)] [(.int (if p1 < p2 then (1 : Int32) else (0 : Int32)))])) t → Steps p.tables e below (s₁.setTop (mkF m 12 #[.val (.int p0), .val (.int p1), .val (.int p2)] [(.int p1), (.int p2)])) t := fun t k => by
              by_cases hc12_7 : p1 < p2
              · simp only [if_pos hc12_7] at k
                refine XS.icmpNo X0.here hx rfl (hb hby d1_12) rfl (tlt hc12_7).2.2.2 ?_
                show Steps p.tables e below (s₁.setTop (mkF m 15 #[.val (.int p0), .val (.int p1), .val (.int p2)] [])) _
                refine XS.iconst X0.here hx rfl (hb hby d1_15) ?_
                show Steps p.tables e below (s₁.setTop (mkF m 16 #[.val (.int p0), .val (.int p1), .val (.int p2)] [(.int (1 : Int32))])) _
                refine XS.goto X0.here hx rfl (pc0 := 16) (pc' := 38) rfl (hb hby d1_16) (by decide) (by decide) ?_
                show Steps p.tables e below (s₁.setTop (mkF m 38 #[.val (.int p0), .val (.int p1), .val (.int p2)] [(.int (1 : Int32))])) _
                exact k
              · simp only [if_neg hc12_7] at k
                refine XS.icmpYes X0.here hx rfl (pc0 := 12) (pc' := 19) rfl (hb hby d1_12) rfl (flt hc12_7).2.2.2 (by decide) (by decide) ?_
                show Steps p.tables e below (s₁.setTop (mkF m 19 #[.val (.int p0), .val (.int p1), .val (.int p2)] [])) _
                refine XS.iconst X0.here hx rfl (hb hby d1_19) ?_
                show Steps p.tables e below (s₁.setTop (mkF m 20 #[.val (.int p0), .val (.int p1), .val (.int p2)] [(.int (0 : Int32))])) _
                refine XS.goto X0.here hx rfl (pc0 := 20) (pc' := 38) rfl (hb hby d1_20) (by decide) (by decide) ?_
                show Steps p.tables e below (s₁.setTop (mkF m 38 #[.val (.int p0), .val (.int p1), .val (.int p2)] [(.int (0 : Int32))])) _
                exact k
            refine j8 _ ?_
            show Steps p.tables e below (s₁.setTop (mkF m 38 #[.val (.int p0), .val (.int p1), .val (.int p2)] [(.int (if p1 < p2 then (1 : Int32) else (0 : Int32)))])) _
            exact k
          · simp only [if_neg hc7_6] at k
            refine XS.icmpYes X0.here hx rfl (pc0 := 7) (pc' := 15) rfl (hb hby d1_7) rfl (flt hc7_6).2.2.2 (by decide) (by decide) ?_
            show Steps p.tables e below (s₁.setTop (mkF m 15 #[.val (.int p0), .val (.int p1), .val (.int p2)] [])) _
            refine XS.iconst X0.here hx rfl (hb hby d1_15) ?_
            show Steps p.tables e below (s₁.setTop (mkF m 16 #[.val (.int p0), .val (.int p1), .val (.int p2)] [(.int (1 : Int32))])) _
            refine XS.goto X0.here hx rfl (pc0 := 16) (pc' := 38) rfl (hb hby d1_16) (by decide) (by decide) ?_
            show Steps p.tables e below (s₁.setTop (mkF m 38 #[.val (.int p0), .val (.int p1), .val (.int p2)] [(.int (1 : Int32))])) _
            exact k
        refine j9 _ ?_
        show Steps p.tables e below (s₁.setTop (mkF m 38 #[.val (.int p0), .val (.int p1), .val (.int p2)] [(.int (if p0 < p2 then (if p1 < p2 then (1 : Int32) else (0 : Int32)) else (1 : Int32)))])) _
        exact k
    refine j10 _ ?_
    show Steps p.tables e below (s₁.setTop (mkF m 38 #[.val (.int p0), .val (.int p1), .val (.int p2)] [(.int (if p1 < p0 then (if p0 < p2 then (0 : Int32) else (if p1 < p2 then (1 : Int32) else (0 : Int32))) else (if p0 < p2 then (if p1 < p2 then (1 : Int32) else (0 : Int32)) else (1 : Int32))))])) _
    exact k
  obtain ⟨v12, hv12⟩ : ∃ z : Int32, z = (if p1 < p0 then (if p0 < p2 then (0 : Int32) else (if p1 < p2 then (1 : Int32) else (0 : Int32))) else (if p0 < p2 then (if p1 < p2 then (1 : Int32) else (0 : Int32)) else (1 : Int32))) := ⟨_, rfl⟩
  have pre12 : Lead p e below G (s₁.setTop (mkF m 38 #[.val (.int p0), .val (.int p1), .val (.int p2)] [(.int v12)])) := by rw [hv12]; exact pre11
  obtain ⟨fs, hr, hrun, hended, hW, hsame⟩ := X0.leave (v := some (.int (nar .boolean v12))) (fun h => by rw [Bd.returns] at h; cases h)
  subst hG
  refine ⟨_, _, pre12 _ ?_, hrun, hended, _, _, rfl, ?_, ⟨_, rfl⟩, hW, hsame.mono (by decide) (by decide)⟩
  · show Steps p.tables e below (s₁.setTop (mkF m 38 #[.val (.int p0), .val (.int p1), .val (.int p2)] [(.int v12)])) _
    exact retN X0 hx (t := .boolean) Bd.returns (by simp) (hb hby d1_38) hr
  · show Q1 Z p0 p1 p2 h0 n0 _ s₁.heap _
    rw [e0]
    refine ⟨congrArg (fun z => some (Value.int z)) (?_ : (nar .boolean v12) = F1 p0 p1 p2), N0, rfl⟩
    subst hv12
    rfl
theorem pd__28_III_29_Z : parseMethodDescriptor "(III)Z" = some ⟨[.int, .int, .int], some .boolean⟩ := by decide +kernel
def F0 (p0 : Int32) (p1 : Int32) (p2 : Int32) (p3 : Int32) : Int32 := let v2 : Int32 := (p0 &&& (((1 : Int32) <<< ((p3 &&& (31 : Int32)) &&& 31)) - (1 : Int32))); let v4 : Int32 := (p1 &&& (((1 : Int32) <<< ((p3 &&& (31 : Int32)) &&& 31)) - (1 : Int32))); let v6 : Int32 := (p2 &&& (((1 : Int32) <<< ((p3 &&& (31 : Int32)) &&& 31)) - (1 : Int32))); let v8 : Int32 := ((v4 - v6) &&& (((1 : Int32) <<< ((p3 &&& (31 : Int32)) &&& 31)) - (1 : Int32))); let v10 : Int32 := ((v4 - v2) &&& (((1 : Int32) <<< ((p3 &&& (31 : Int32)) &&& 31)) - (1 : Int32))); let v14 : Int32 := (((1 : Int32) <<< ((p3 &&& (31 : Int32)) &&& 31)) - (1 : Int32)); let v15 : Int32 := (if v8 < v10 then (0 : Int32) else (1 : Int32)); (nar .boolean (if (F1 v2 v4 v6) = v15 then (1 : Int32) else (0 : Int32)))
theorem own_max (x : Int32) : (x &&& (2147483647 : Int32)).toInt = x.toInt % 2 ^ 31 := Jvm.Kit.i32_mask x _ (k := 31) (by decide) (by decide)
theorem own_rem (a k : Int32) (ha : 0 ≤ a.toInt) (hk : 0 < k.toInt) : (a - a / k * k).toInt = a.toInt % k.toInt := by
  have b1 := Int32.le_toInt a; have b2 := Int32.toInt_lt a
  have d : (a / k).toInt = a.toInt / k.toInt := by rw [Jvm.Kit.i32_div (by omega), Int.tdiv_eq_ediv_of_nonneg ha]
  have q0 : 0 ≤ a.toInt / k.toInt := Int.ediv_nonneg ha (by omega)
  have q1 : a.toInt / k.toInt * k.toInt ≤ a.toInt := Int.ediv_mul_le _ (by omega)
  have q2 : 0 ≤ a.toInt / k.toInt * k.toInt := Int.mul_nonneg q0 (by omega)
  have m : (a / k * k).toInt = a.toInt / k.toInt * k.toInt := by rw [Jvm.Kit.i32_mul, d] <;> rw [d] <;> omega
  rw [Jvm.Kit.i32_sub (by omega) (by omega), m, Int.emod_def, Int.mul_comm]
theorem own_nar0 : nar .boolean (0 : Int32) = 0 := by decide
theorem own_nar1 : nar .boolean (1 : Int32) = 1 := by decide
theorem own_nat {a : Int32} {k : Nat} (h : a.toInt ≤ k) : a.toNatClampNeg ≤ k := by
  show a.toInt.toNat ≤ k
  omega
theorem own_pow : ∀ k : Fin 32, (((1 : Int32) <<< (Int32.ofNat k.val &&& 31)) - 1).toBitVec.toNat = 2 ^ k.val - 1 := by decide +kernel
theorem own_mask (p3 : Int32) : ∃ k : Nat, k < 32 ∧ (((1 : Int32) <<< ((p3 &&& 31) &&& 31)) - 1).toBitVec.toNat = 2 ^ k - 1 := by
  have e : (p3 &&& 31).toInt = p3.toInt % 2 ^ 5 := Jvm.Kit.i32_mask p3 31 (k := 5) (by decide) (by decide)
  have hk : (p3.toInt % 2 ^ 5).toNat < 32 := by omega
  refine ⟨(p3.toInt % 2 ^ 5).toNat, hk, ?_⟩
  have : p3 &&& 31 = Int32.ofNat (p3.toInt % 2 ^ 5).toNat := Int32.toInt_inj.mp (by rw [e, Int32.toInt_ofNat_small (by omega)]; omega)
  rw [this]; exact own_pow ⟨_, hk⟩
theorem own_em {M x : Int} (h1 : -M ≤ x) (h2 : x < M) : x % M = if 0 ≤ x then x else x + M := by
  split
  · exact Int.emod_eq_of_lt (by assumption) h2
  · rw [← Int.add_emod_right x M]; exact Int.emod_eq_of_lt (by omega) (by omega)
theorem own_law (p0 p1 p2 p3 : Int32) : F0 p0 p1 p2 p3 = 1 := by
  simp only [F0, F1]
  obtain ⟨k, hk, hm⟩ := own_mask p3
  generalize (((1 : Int32) <<< ((p3 &&& 31) &&& 31)) - 1) = m at *
  have g1 := Jvm.Kit.i32_mask p0 m hk hm
  have g2 := Jvm.Kit.i32_mask p1 m hk hm
  have g3 := Jvm.Kit.i32_mask p2 m hk hm
  have hM : (0 : Int) < 2 ^ k := Int.pow_pos (by decide)
  have hM2 : (2 : Int) ^ k ≤ 2 ^ 31 := by exact_mod_cast Nat.pow_le_pow_right (n := 2) (by decide) (show k ≤ 31 by omega)
  have b1 := Int.emod_nonneg p0.toInt (Int.ne_of_gt hM); have b2 := Int.emod_lt_of_pos p0.toInt hM
  have b3 := Int.emod_nonneg p1.toInt (Int.ne_of_gt hM); have b4 := Int.emod_lt_of_pos p1.toInt hM
  have b5 := Int.emod_nonneg p2.toInt (Int.ne_of_gt hM); have b6 := Int.emod_lt_of_pos p2.toInt hM
  have d1 := Jvm.Kit.i32_mask ((p1 &&& m) - (p2 &&& m)) m hk hm
  have d2 := Jvm.Kit.i32_mask ((p1 &&& m) - (p0 &&& m)) m hk hm
  rw [Jvm.Kit.i32_sub (by omega) (by omega), own_em (by omega) (by omega)] at d1 d2
  generalize (((p1 &&& m) - (p2 &&& m)) &&& m) = x1 at *
  generalize (((p1 &&& m) - (p0 &&& m)) &&& m) = x2 at *
  generalize p0 &&& m = g at *
  generalize p1 &&& m = q at *
  generalize p2 &&& m = h at *
  simp only [Int32.lt_iff_toInt_lt]
  generalize g.toInt = G at *
  generalize q.toInt = Q at *
  generalize h.toInt = H at *
  generalize x1.toInt = X at *
  generalize x2.toInt = Y at *
  have key : (if Q < G then if G < H then (0 : Int32) else if Q < H then 1 else 0 else if G < H then if Q < H then 1 else 0 else 1) = (if X < Y then (0 : Int32) else 1) := by
    split at d1 <;> split at d2 <;> split <;> split <;> (try split) <;> (try split) <;> first | rfl | (exfalso; omega)
  rw [key]
  have e1 : nar .boolean (if X < Y then (0 : Int32) else 1) = (if X < Y then (0 : Int32) else 1) := by split <;> decide
  rw [e1, if_pos rfl]; decide

theorem pn_com_example_processionary_processionary_automata_IntSetFillsGapPinLaw : plainName "com/example/processionary/processionary/automata/IntSetFillsGapPinLaw" = true := by first | (simp [plainName, overriddenIn]; done) | decide +kernel
theorem ef_0 (m : MethodId) (p0 : Int32) (p1 : Int32) (p2 : Int32) (p3 : Int32) : entryFrame m #[(.int p0), (.int p1), (.int p2), (.int p3)] maxLocals = mkF m 0 #[.val (.int p0), .val (.int p1), .val (.int p2), .val (.int p3), .unset, .unset, .unset, .unset, .unset, .unset, .unset, .unset] [] := by first | (simp [entryFrame, mkF, argsToLocals, Value.category, maxLocals]; done) | rfl
def Q0 (Z : State) (p0 : Int32) (p1 : Int32) (p2 : Int32) (p3 : Int32)  (h0 : Heap) (n0 : Nat) (v : Option Value) (h : Heap) (L : List Loc) : Prop := v = some (.int (1 : Int32)) ∧ Fr n0 L
set_option maxRecDepth 65536 in
set_option maxHeartbeats 40000000 in
theorem rm0 (l : Launch) (Z : State) (a0 : Array Value) (hw : ∀ d ∈ tables_1, d.before a0 Z = true) (ws : List Jvm.Cond) (p0 : Int32) (p1 : Int32) (p2 : Int32) (p3 : Int32)  (h0 : Heap) (n0 : Nat) (Z0 : n0 ≤ h0.size)  :
    MetFree l x (head1 (Jvm.Cond.code x code maxLocals ret :: ws) room_1) (fun a U => a = #[(.int p0), (.int p1), (.int p2), (.int p3)] ∧ Z.Warmed39 U.vm ∧ U.heap = h0) (fun _ _ _ _ _ => True) (fun _ U o U' => ∃ v L, o = .returned v ∧ Q0 Z p0 p1 p2 p3 h0 n0 v U'.heap L ∧ FrameEnd U o U' L room_1.cells room_1.slots) := by
  refine MetFree.of_bodySF (plainFor_of_name pn_com_example_processionary_processionary_automata_IntSetFillsGapPinLaw) hisR ?_
  intro p e s m args below meth c s₁ Bd hml0 hP hK
  obtain ⟨rfl, hZ, hh⟩ := hP
  have hx := Bd.exec
  have hby := Bd.bytes
  have hml : c.maxLocals = 12 := hml0
  have hown : s.vm.findClass "com/example/processionary/processionary/automata/IntSetFillsGapPinLaw" = some m.cls := findClass_of_methodNamed Bd.named
  have hnm := (name_of_methodNamed Bd.named Bd.method).1
  have X0 : Stand p l e room_1 s m #[(.int p0), (.int p1), (.int p2), (.int p3)] below meth c s₁ [] 0 0 := Stand.of_body Bd
  have e0 : s₁.heap = h0 := by rw [← hh, Bd.state]; rfl
  have N0 := Fr.nil n0
  obtain ⟨G, hG⟩ : ∃ z, z = s₁.setTop (entryFrame m #[(.int p0), (.int p1), (.int p2), (.int p3)] maxLocals) := ⟨_, rfl⟩
  have pre0 : Lead p e below G (s₁.setTop (mkF m 0 #[.val (.int p0), .val (.int p1), .val (.int p2), .val (.int p3), .unset, .unset, .unset, .unset, .unset, .unset, .unset, .unset] [])) := fun t k => by rw [hG]; exact castTop (ef_0 m p0 p1 p2 p3) k
  have pre1 : Lead p e below G (s₁.setTop (mkF m 20 #[.val (.int p0), .val (.int p1), .val (.int p2), .val (.int p3), .val (.int (p3 &&& (31 : Int32))), .val (.int (((1 : Int32) <<< ((p3 &&& (31 : Int32)) &&& 31)) - (1 : Int32))), .val (.int (p0 &&& (((1 : Int32) <<< ((p3 &&& (31 : Int32)) &&& 31)) - (1 : Int32)))), .unset, .unset, .unset, .unset, .unset] [])) := fun t k => by
    refine pre0 t ?_
    show Steps p.tables e below (s₁.setTop (mkF m 0 #[.val (.int p0), .val (.int p1), .val (.int p2), .val (.int p3), .unset, .unset, .unset, .unset, .unset, .unset, .unset, .unset] [])) _
    refine XS.iloadN X0.here hx rfl (hb hby at_0) rfl ?_
    show Steps p.tables e below (s₁.setTop (mkF m 1 #[.val (.int p0), .val (.int p1), .val (.int p2), .val (.int p3), .unset, .unset, .unset, .unset, .unset, .unset, .unset, .unset] [(.int p3)])) _
    refine XS.bipush X0.here hx rfl (hb hby at_1) ?_
    show Steps p.tables e below (s₁.setTop (mkF m 3 #[.val (.int p0), .val (.int p1), .val (.int p2), .val (.int p3), .unset, .unset, .unset, .unset, .unset, .unset, .unset, .unset] [(.int (31 : Int32)), (.int p3)])) _
    refine XS.iand X0.here hx rfl (hb hby at_3) rfl ?_
    show Steps p.tables e below (s₁.setTop (mkF m 4 #[.val (.int p0), .val (.int p1), .val (.int p2), .val (.int p3), .unset, .unset, .unset, .unset, .unset, .unset, .unset, .unset] [(.int (p3 &&& (31 : Int32)))])) _
    refine XS.istore X0.here hx rfl (hb hby at_4) rfl (l' := #[.val (.int p0), .val (.int p1), .val (.int p2), .val (.int p3), .val (.int (p3 &&& (31 : Int32))), .unset, .unset, .unset, .unset, .unset, .unset, .unset]) rfl ?_
    show Steps p.tables e below (s₁.setTop (mkF m 6 #[.val (.int p0), .val (.int p1), .val (.int p2), .val (.int p3), .val (.int (p3 &&& (31 : Int32))), .unset, .unset, .unset, .unset, .unset, .unset, .unset] [])) _
    refine XS.iconst X0.here hx rfl (hb hby at_6) ?_
    show Steps p.tables e below (s₁.setTop (mkF m 7 #[.val (.int p0), .val (.int p1), .val (.int p2), .val (.int p3), .val (.int (p3 &&& (31 : Int32))), .unset, .unset, .unset, .unset, .unset, .unset, .unset] [(.int (1 : Int32))])) _
    refine XS.iload X0.here hx rfl (hb hby at_7) rfl ?_
    show Steps p.tables e below (s₁.setTop (mkF m 9 #[.val (.int p0), .val (.int p1), .val (.int p2), .val (.int p3), .val (.int (p3 &&& (31 : Int32))), .unset, .unset, .unset, .unset, .unset, .unset, .unset] [(.int (p3 &&& (31 : Int32))), (.int (1 : Int32))])) _
    refine XS.ishl X0.here hx rfl (hb hby at_9) rfl ?_
    show Steps p.tables e below (s₁.setTop (mkF m 10 #[.val (.int p0), .val (.int p1), .val (.int p2), .val (.int p3), .val (.int (p3 &&& (31 : Int32))), .unset, .unset, .unset, .unset, .unset, .unset, .unset] [(.int ((1 : Int32) <<< ((p3 &&& (31 : Int32)) &&& 31)))])) _
    refine XS.iconst X0.here hx rfl (hb hby at_10) ?_
    show Steps p.tables e below (s₁.setTop (mkF m 11 #[.val (.int p0), .val (.int p1), .val (.int p2), .val (.int p3), .val (.int (p3 &&& (31 : Int32))), .unset, .unset, .unset, .unset, .unset, .unset, .unset] [(.int (1 : Int32)), (.int ((1 : Int32) <<< ((p3 &&& (31 : Int32)) &&& 31)))])) _
    refine XS.isub X0.here hx rfl (hb hby at_11) rfl ?_
    show Steps p.tables e below (s₁.setTop (mkF m 12 #[.val (.int p0), .val (.int p1), .val (.int p2), .val (.int p3), .val (.int (p3 &&& (31 : Int32))), .unset, .unset, .unset, .unset, .unset, .unset, .unset] [(.int (((1 : Int32) <<< ((p3 &&& (31 : Int32)) &&& 31)) - (1 : Int32)))])) _
    refine XS.istore X0.here hx rfl (hb hby at_12) rfl (l' := #[.val (.int p0), .val (.int p1), .val (.int p2), .val (.int p3), .val (.int (p3 &&& (31 : Int32))), .val (.int (((1 : Int32) <<< ((p3 &&& (31 : Int32)) &&& 31)) - (1 : Int32))), .unset, .unset, .unset, .unset, .unset, .unset]) rfl ?_
    show Steps p.tables e below (s₁.setTop (mkF m 14 #[.val (.int p0), .val (.int p1), .val (.int p2), .val (.int p3), .val (.int (p3 &&& (31 : Int32))), .val (.int (((1 : Int32) <<< ((p3 &&& (31 : Int32)) &&& 31)) - (1 : Int32))), .unset, .unset, .unset, .unset, .unset, .unset] [])) _
    refine XS.iloadN X0.here hx rfl (hb hby at_14) rfl ?_
    show Steps p.tables e below (s₁.setTop (mkF m 15 #[.val (.int p0), .val (.int p1), .val (.int p2), .val (.int p3), .val (.int (p3 &&& (31 : Int32))), .val (.int (((1 : Int32) <<< ((p3 &&& (31 : Int32)) &&& 31)) - (1 : Int32))), .unset, .unset, .unset, .unset, .unset, .unset] [(.int p0)])) _
    refine XS.iload X0.here hx rfl (hb hby at_15) rfl ?_
    show Steps p.tables e below (s₁.setTop (mkF m 17 #[.val (.int p0), .val (.int p1), .val (.int p2), .val (.int p3), .val (.int (p3 &&& (31 : Int32))), .val (.int (((1 : Int32) <<< ((p3 &&& (31 : Int32)) &&& 31)) - (1 : Int32))), .unset, .unset, .unset, .unset, .unset, .unset] [(.int (((1 : Int32) <<< ((p3 &&& (31 : Int32)) &&& 31)) - (1 : Int32))), (.int p0)])) _
    refine XS.iand X0.here hx rfl (hb hby at_17) rfl ?_
    show Steps p.tables e below (s₁.setTop (mkF m 18 #[.val (.int p0), .val (.int p1), .val (.int p2), .val (.int p3), .val (.int (p3 &&& (31 : Int32))), .val (.int (((1 : Int32) <<< ((p3 &&& (31 : Int32)) &&& 31)) - (1 : Int32))), .unset, .unset, .unset, .unset, .unset, .unset] [(.int (p0 &&& (((1 : Int32) <<< ((p3 &&& (31 : Int32)) &&& 31)) - (1 : Int32))))])) _
    refine XS.istore X0.here hx rfl (hb hby at_18) rfl (l' := #[.val (.int p0), .val (.int p1), .val (.int p2), .val (.int p3), .val (.int (p3 &&& (31 : Int32))), .val (.int (((1 : Int32) <<< ((p3 &&& (31 : Int32)) &&& 31)) - (1 : Int32))), .val (.int (p0 &&& (((1 : Int32) <<< ((p3 &&& (31 : Int32)) &&& 31)) - (1 : Int32)))), .unset, .unset, .unset, .unset, .unset]) rfl ?_
    show Steps p.tables e below (s₁.setTop (mkF m 20 #[.val (.int p0), .val (.int p1), .val (.int p2), .val (.int p3), .val (.int (p3 &&& (31 : Int32))), .val (.int (((1 : Int32) <<< ((p3 &&& (31 : Int32)) &&& 31)) - (1 : Int32))), .val (.int (p0 &&& (((1 : Int32) <<< ((p3 &&& (31 : Int32)) &&& 31)) - (1 : Int32)))), .unset, .unset, .unset, .unset, .unset] [])) _
    exact k
  obtain ⟨v2, hv2⟩ : ∃ z : Int32, z = (p0 &&& (((1 : Int32) <<< ((p3 &&& (31 : Int32)) &&& 31)) - (1 : Int32))) := ⟨_, rfl⟩
  have pre2 : Lead p e below G (s₁.setTop (mkF m 20 #[.val (.int p0), .val (.int p1), .val (.int p2), .val (.int p3), .val (.int (p3 &&& (31 : Int32))), .val (.int (((1 : Int32) <<< ((p3 &&& (31 : Int32)) &&& 31)) - (1 : Int32))), .val (.int v2), .unset, .unset, .unset, .unset, .unset] [])) := by rw [hv2]; exact pre1
  have pre3 : Lead p e below G (s₁.setTop (mkF m 26 #[.val (.int p0), .val (.int p1), .val (.int p2), .val (.int p3), .val (.int (p3 &&& (31 : Int32))), .val (.int (((1 : Int32) <<< ((p3 &&& (31 : Int32)) &&& 31)) - (1 : Int32))), .val (.int v2), .val (.int (p1 &&& (((1 : Int32) <<< ((p3 &&& (31 : Int32)) &&& 31)) - (1 : Int32)))), .unset, .unset, .unset, .unset] [])) := fun t k => by
    refine pre2 t ?_
    show Steps p.tables e below (s₁.setTop (mkF m 20 #[.val (.int p0), .val (.int p1), .val (.int p2), .val (.int p3), .val (.int (p3 &&& (31 : Int32))), .val (.int (((1 : Int32) <<< ((p3 &&& (31 : Int32)) &&& 31)) - (1 : Int32))), .val (.int v2), .unset, .unset, .unset, .unset, .unset] [])) _
    refine XS.iloadN X0.here hx rfl (hb hby at_20) rfl ?_
    show Steps p.tables e below (s₁.setTop (mkF m 21 #[.val (.int p0), .val (.int p1), .val (.int p2), .val (.int p3), .val (.int (p3 &&& (31 : Int32))), .val (.int (((1 : Int32) <<< ((p3 &&& (31 : Int32)) &&& 31)) - (1 : Int32))), .val (.int v2), .unset, .unset, .unset, .unset, .unset] [(.int p1)])) _
    refine XS.iload X0.here hx rfl (hb hby at_21) rfl ?_
    show Steps p.tables e below (s₁.setTop (mkF m 23 #[.val (.int p0), .val (.int p1), .val (.int p2), .val (.int p3), .val (.int (p3 &&& (31 : Int32))), .val (.int (((1 : Int32) <<< ((p3 &&& (31 : Int32)) &&& 31)) - (1 : Int32))), .val (.int v2), .unset, .unset, .unset, .unset, .unset] [(.int (((1 : Int32) <<< ((p3 &&& (31 : Int32)) &&& 31)) - (1 : Int32))), (.int p1)])) _
    refine XS.iand X0.here hx rfl (hb hby at_23) rfl ?_
    show Steps p.tables e below (s₁.setTop (mkF m 24 #[.val (.int p0), .val (.int p1), .val (.int p2), .val (.int p3), .val (.int (p3 &&& (31 : Int32))), .val (.int (((1 : Int32) <<< ((p3 &&& (31 : Int32)) &&& 31)) - (1 : Int32))), .val (.int v2), .unset, .unset, .unset, .unset, .unset] [(.int (p1 &&& (((1 : Int32) <<< ((p3 &&& (31 : Int32)) &&& 31)) - (1 : Int32))))])) _
    refine XS.istore X0.here hx rfl (hb hby at_24) rfl (l' := #[.val (.int p0), .val (.int p1), .val (.int p2), .val (.int p3), .val (.int (p3 &&& (31 : Int32))), .val (.int (((1 : Int32) <<< ((p3 &&& (31 : Int32)) &&& 31)) - (1 : Int32))), .val (.int v2), .val (.int (p1 &&& (((1 : Int32) <<< ((p3 &&& (31 : Int32)) &&& 31)) - (1 : Int32)))), .unset, .unset, .unset, .unset]) rfl ?_
    show Steps p.tables e below (s₁.setTop (mkF m 26 #[.val (.int p0), .val (.int p1), .val (.int p2), .val (.int p3), .val (.int (p3 &&& (31 : Int32))), .val (.int (((1 : Int32) <<< ((p3 &&& (31 : Int32)) &&& 31)) - (1 : Int32))), .val (.int v2), .val (.int (p1 &&& (((1 : Int32) <<< ((p3 &&& (31 : Int32)) &&& 31)) - (1 : Int32)))), .unset, .unset, .unset, .unset] [])) _
    exact k
  obtain ⟨v4, hv4⟩ : ∃ z : Int32, z = (p1 &&& (((1 : Int32) <<< ((p3 &&& (31 : Int32)) &&& 31)) - (1 : Int32))) := ⟨_, rfl⟩
  have pre4 : Lead p e below G (s₁.setTop (mkF m 26 #[.val (.int p0), .val (.int p1), .val (.int p2), .val (.int p3), .val (.int (p3 &&& (31 : Int32))), .val (.int (((1 : Int32) <<< ((p3 &&& (31 : Int32)) &&& 31)) - (1 : Int32))), .val (.int v2), .val (.int v4), .unset, .unset, .unset, .unset] [])) := by rw [hv4]; exact pre3
  have pre5 : Lead p e below G (s₁.setTop (mkF m 32 #[.val (.int p0), .val (.int p1), .val (.int p2), .val (.int p3), .val (.int (p3 &&& (31 : Int32))), .val (.int (((1 : Int32) <<< ((p3 &&& (31 : Int32)) &&& 31)) - (1 : Int32))), .val (.int v2), .val (.int v4), .val (.int (p2 &&& (((1 : Int32) <<< ((p3 &&& (31 : Int32)) &&& 31)) - (1 : Int32)))), .unset, .unset, .unset] [])) := fun t k => by
    refine pre4 t ?_
    show Steps p.tables e below (s₁.setTop (mkF m 26 #[.val (.int p0), .val (.int p1), .val (.int p2), .val (.int p3), .val (.int (p3 &&& (31 : Int32))), .val (.int (((1 : Int32) <<< ((p3 &&& (31 : Int32)) &&& 31)) - (1 : Int32))), .val (.int v2), .val (.int v4), .unset, .unset, .unset, .unset] [])) _
    refine XS.iloadN X0.here hx rfl (hb hby at_26) rfl ?_
    show Steps p.tables e below (s₁.setTop (mkF m 27 #[.val (.int p0), .val (.int p1), .val (.int p2), .val (.int p3), .val (.int (p3 &&& (31 : Int32))), .val (.int (((1 : Int32) <<< ((p3 &&& (31 : Int32)) &&& 31)) - (1 : Int32))), .val (.int v2), .val (.int v4), .unset, .unset, .unset, .unset] [(.int p2)])) _
    refine XS.iload X0.here hx rfl (hb hby at_27) rfl ?_
    show Steps p.tables e below (s₁.setTop (mkF m 29 #[.val (.int p0), .val (.int p1), .val (.int p2), .val (.int p3), .val (.int (p3 &&& (31 : Int32))), .val (.int (((1 : Int32) <<< ((p3 &&& (31 : Int32)) &&& 31)) - (1 : Int32))), .val (.int v2), .val (.int v4), .unset, .unset, .unset, .unset] [(.int (((1 : Int32) <<< ((p3 &&& (31 : Int32)) &&& 31)) - (1 : Int32))), (.int p2)])) _
    refine XS.iand X0.here hx rfl (hb hby at_29) rfl ?_
    show Steps p.tables e below (s₁.setTop (mkF m 30 #[.val (.int p0), .val (.int p1), .val (.int p2), .val (.int p3), .val (.int (p3 &&& (31 : Int32))), .val (.int (((1 : Int32) <<< ((p3 &&& (31 : Int32)) &&& 31)) - (1 : Int32))), .val (.int v2), .val (.int v4), .unset, .unset, .unset, .unset] [(.int (p2 &&& (((1 : Int32) <<< ((p3 &&& (31 : Int32)) &&& 31)) - (1 : Int32))))])) _
    refine XS.istore X0.here hx rfl (hb hby at_30) rfl (l' := #[.val (.int p0), .val (.int p1), .val (.int p2), .val (.int p3), .val (.int (p3 &&& (31 : Int32))), .val (.int (((1 : Int32) <<< ((p3 &&& (31 : Int32)) &&& 31)) - (1 : Int32))), .val (.int v2), .val (.int v4), .val (.int (p2 &&& (((1 : Int32) <<< ((p3 &&& (31 : Int32)) &&& 31)) - (1 : Int32)))), .unset, .unset, .unset]) rfl ?_
    show Steps p.tables e below (s₁.setTop (mkF m 32 #[.val (.int p0), .val (.int p1), .val (.int p2), .val (.int p3), .val (.int (p3 &&& (31 : Int32))), .val (.int (((1 : Int32) <<< ((p3 &&& (31 : Int32)) &&& 31)) - (1 : Int32))), .val (.int v2), .val (.int v4), .val (.int (p2 &&& (((1 : Int32) <<< ((p3 &&& (31 : Int32)) &&& 31)) - (1 : Int32)))), .unset, .unset, .unset] [])) _
    exact k
  obtain ⟨v6, hv6⟩ : ∃ z : Int32, z = (p2 &&& (((1 : Int32) <<< ((p3 &&& (31 : Int32)) &&& 31)) - (1 : Int32))) := ⟨_, rfl⟩
  have pre6 : Lead p e below G (s₁.setTop (mkF m 32 #[.val (.int p0), .val (.int p1), .val (.int p2), .val (.int p3), .val (.int (p3 &&& (31 : Int32))), .val (.int (((1 : Int32) <<< ((p3 &&& (31 : Int32)) &&& 31)) - (1 : Int32))), .val (.int v2), .val (.int v4), .val (.int v6), .unset, .unset, .unset] [])) := by rw [hv6]; exact pre5
  have pre7 : Lead p e below G (s₁.setTop (mkF m 42 #[.val (.int p0), .val (.int p1), .val (.int p2), .val (.int p3), .val (.int (p3 &&& (31 : Int32))), .val (.int (((1 : Int32) <<< ((p3 &&& (31 : Int32)) &&& 31)) - (1 : Int32))), .val (.int v2), .val (.int v4), .val (.int v6), .val (.int ((v4 - v6) &&& (((1 : Int32) <<< ((p3 &&& (31 : Int32)) &&& 31)) - (1 : Int32)))), .unset, .unset] [])) := fun t k => by
    refine pre6 t ?_
    show Steps p.tables e below (s₁.setTop (mkF m 32 #[.val (.int p0), .val (.int p1), .val (.int p2), .val (.int p3), .val (.int (p3 &&& (31 : Int32))), .val (.int (((1 : Int32) <<< ((p3 &&& (31 : Int32)) &&& 31)) - (1 : Int32))), .val (.int v2), .val (.int v4), .val (.int v6), .unset, .unset, .unset] [])) _
    refine XS.iload X0.here hx rfl (hb hby at_32) rfl ?_
    show Steps p.tables e below (s₁.setTop (mkF m 34 #[.val (.int p0), .val (.int p1), .val (.int p2), .val (.int p3), .val (.int (p3 &&& (31 : Int32))), .val (.int (((1 : Int32) <<< ((p3 &&& (31 : Int32)) &&& 31)) - (1 : Int32))), .val (.int v2), .val (.int v4), .val (.int v6), .unset, .unset, .unset] [(.int v4)])) _
    refine XS.iload X0.here hx rfl (hb hby at_34) rfl ?_
    show Steps p.tables e below (s₁.setTop (mkF m 36 #[.val (.int p0), .val (.int p1), .val (.int p2), .val (.int p3), .val (.int (p3 &&& (31 : Int32))), .val (.int (((1 : Int32) <<< ((p3 &&& (31 : Int32)) &&& 31)) - (1 : Int32))), .val (.int v2), .val (.int v4), .val (.int v6), .unset, .unset, .unset] [(.int v6), (.int v4)])) _
    refine XS.isub X0.here hx rfl (hb hby at_36) rfl ?_
    show Steps p.tables e below (s₁.setTop (mkF m 37 #[.val (.int p0), .val (.int p1), .val (.int p2), .val (.int p3), .val (.int (p3 &&& (31 : Int32))), .val (.int (((1 : Int32) <<< ((p3 &&& (31 : Int32)) &&& 31)) - (1 : Int32))), .val (.int v2), .val (.int v4), .val (.int v6), .unset, .unset, .unset] [(.int (v4 - v6))])) _
    refine XS.iload X0.here hx rfl (hb hby at_37) rfl ?_
    show Steps p.tables e below (s₁.setTop (mkF m 39 #[.val (.int p0), .val (.int p1), .val (.int p2), .val (.int p3), .val (.int (p3 &&& (31 : Int32))), .val (.int (((1 : Int32) <<< ((p3 &&& (31 : Int32)) &&& 31)) - (1 : Int32))), .val (.int v2), .val (.int v4), .val (.int v6), .unset, .unset, .unset] [(.int (((1 : Int32) <<< ((p3 &&& (31 : Int32)) &&& 31)) - (1 : Int32))), (.int (v4 - v6))])) _
    refine XS.iand X0.here hx rfl (hb hby at_39) rfl ?_
    show Steps p.tables e below (s₁.setTop (mkF m 40 #[.val (.int p0), .val (.int p1), .val (.int p2), .val (.int p3), .val (.int (p3 &&& (31 : Int32))), .val (.int (((1 : Int32) <<< ((p3 &&& (31 : Int32)) &&& 31)) - (1 : Int32))), .val (.int v2), .val (.int v4), .val (.int v6), .unset, .unset, .unset] [(.int ((v4 - v6) &&& (((1 : Int32) <<< ((p3 &&& (31 : Int32)) &&& 31)) - (1 : Int32))))])) _
    refine XS.istore X0.here hx rfl (hb hby at_40) rfl (l' := #[.val (.int p0), .val (.int p1), .val (.int p2), .val (.int p3), .val (.int (p3 &&& (31 : Int32))), .val (.int (((1 : Int32) <<< ((p3 &&& (31 : Int32)) &&& 31)) - (1 : Int32))), .val (.int v2), .val (.int v4), .val (.int v6), .val (.int ((v4 - v6) &&& (((1 : Int32) <<< ((p3 &&& (31 : Int32)) &&& 31)) - (1 : Int32)))), .unset, .unset]) rfl ?_
    show Steps p.tables e below (s₁.setTop (mkF m 42 #[.val (.int p0), .val (.int p1), .val (.int p2), .val (.int p3), .val (.int (p3 &&& (31 : Int32))), .val (.int (((1 : Int32) <<< ((p3 &&& (31 : Int32)) &&& 31)) - (1 : Int32))), .val (.int v2), .val (.int v4), .val (.int v6), .val (.int ((v4 - v6) &&& (((1 : Int32) <<< ((p3 &&& (31 : Int32)) &&& 31)) - (1 : Int32)))), .unset, .unset] [])) _
    exact k
  obtain ⟨v8, hv8⟩ : ∃ z : Int32, z = ((v4 - v6) &&& (((1 : Int32) <<< ((p3 &&& (31 : Int32)) &&& 31)) - (1 : Int32))) := ⟨_, rfl⟩
  have pre8 : Lead p e below G (s₁.setTop (mkF m 42 #[.val (.int p0), .val (.int p1), .val (.int p2), .val (.int p3), .val (.int (p3 &&& (31 : Int32))), .val (.int (((1 : Int32) <<< ((p3 &&& (31 : Int32)) &&& 31)) - (1 : Int32))), .val (.int v2), .val (.int v4), .val (.int v6), .val (.int v8), .unset, .unset] [])) := by rw [hv8]; exact pre7
  have pre9 : Lead p e below G (s₁.setTop (mkF m 52 #[.val (.int p0), .val (.int p1), .val (.int p2), .val (.int p3), .val (.int (p3 &&& (31 : Int32))), .val (.int (((1 : Int32) <<< ((p3 &&& (31 : Int32)) &&& 31)) - (1 : Int32))), .val (.int v2), .val (.int v4), .val (.int v6), .val (.int v8), .val (.int ((v4 - v2) &&& (((1 : Int32) <<< ((p3 &&& (31 : Int32)) &&& 31)) - (1 : Int32)))), .unset] [])) := fun t k => by
    refine pre8 t ?_
    show Steps p.tables e below (s₁.setTop (mkF m 42 #[.val (.int p0), .val (.int p1), .val (.int p2), .val (.int p3), .val (.int (p3 &&& (31 : Int32))), .val (.int (((1 : Int32) <<< ((p3 &&& (31 : Int32)) &&& 31)) - (1 : Int32))), .val (.int v2), .val (.int v4), .val (.int v6), .val (.int v8), .unset, .unset] [])) _
    refine XS.iload X0.here hx rfl (hb hby at_42) rfl ?_
    show Steps p.tables e below (s₁.setTop (mkF m 44 #[.val (.int p0), .val (.int p1), .val (.int p2), .val (.int p3), .val (.int (p3 &&& (31 : Int32))), .val (.int (((1 : Int32) <<< ((p3 &&& (31 : Int32)) &&& 31)) - (1 : Int32))), .val (.int v2), .val (.int v4), .val (.int v6), .val (.int v8), .unset, .unset] [(.int v4)])) _
    refine XS.iload X0.here hx rfl (hb hby at_44) rfl ?_
    show Steps p.tables e below (s₁.setTop (mkF m 46 #[.val (.int p0), .val (.int p1), .val (.int p2), .val (.int p3), .val (.int (p3 &&& (31 : Int32))), .val (.int (((1 : Int32) <<< ((p3 &&& (31 : Int32)) &&& 31)) - (1 : Int32))), .val (.int v2), .val (.int v4), .val (.int v6), .val (.int v8), .unset, .unset] [(.int v2), (.int v4)])) _
    refine XS.isub X0.here hx rfl (hb hby at_46) rfl ?_
    show Steps p.tables e below (s₁.setTop (mkF m 47 #[.val (.int p0), .val (.int p1), .val (.int p2), .val (.int p3), .val (.int (p3 &&& (31 : Int32))), .val (.int (((1 : Int32) <<< ((p3 &&& (31 : Int32)) &&& 31)) - (1 : Int32))), .val (.int v2), .val (.int v4), .val (.int v6), .val (.int v8), .unset, .unset] [(.int (v4 - v2))])) _
    refine XS.iload X0.here hx rfl (hb hby at_47) rfl ?_
    show Steps p.tables e below (s₁.setTop (mkF m 49 #[.val (.int p0), .val (.int p1), .val (.int p2), .val (.int p3), .val (.int (p3 &&& (31 : Int32))), .val (.int (((1 : Int32) <<< ((p3 &&& (31 : Int32)) &&& 31)) - (1 : Int32))), .val (.int v2), .val (.int v4), .val (.int v6), .val (.int v8), .unset, .unset] [(.int (((1 : Int32) <<< ((p3 &&& (31 : Int32)) &&& 31)) - (1 : Int32))), (.int (v4 - v2))])) _
    refine XS.iand X0.here hx rfl (hb hby at_49) rfl ?_
    show Steps p.tables e below (s₁.setTop (mkF m 50 #[.val (.int p0), .val (.int p1), .val (.int p2), .val (.int p3), .val (.int (p3 &&& (31 : Int32))), .val (.int (((1 : Int32) <<< ((p3 &&& (31 : Int32)) &&& 31)) - (1 : Int32))), .val (.int v2), .val (.int v4), .val (.int v6), .val (.int v8), .unset, .unset] [(.int ((v4 - v2) &&& (((1 : Int32) <<< ((p3 &&& (31 : Int32)) &&& 31)) - (1 : Int32))))])) _
    refine XS.istore X0.here hx rfl (hb hby at_50) rfl (l' := #[.val (.int p0), .val (.int p1), .val (.int p2), .val (.int p3), .val (.int (p3 &&& (31 : Int32))), .val (.int (((1 : Int32) <<< ((p3 &&& (31 : Int32)) &&& 31)) - (1 : Int32))), .val (.int v2), .val (.int v4), .val (.int v6), .val (.int v8), .val (.int ((v4 - v2) &&& (((1 : Int32) <<< ((p3 &&& (31 : Int32)) &&& 31)) - (1 : Int32)))), .unset]) rfl ?_
    show Steps p.tables e below (s₁.setTop (mkF m 52 #[.val (.int p0), .val (.int p1), .val (.int p2), .val (.int p3), .val (.int (p3 &&& (31 : Int32))), .val (.int (((1 : Int32) <<< ((p3 &&& (31 : Int32)) &&& 31)) - (1 : Int32))), .val (.int v2), .val (.int v4), .val (.int v6), .val (.int v8), .val (.int ((v4 - v2) &&& (((1 : Int32) <<< ((p3 &&& (31 : Int32)) &&& 31)) - (1 : Int32)))), .unset] [])) _
    exact k
  obtain ⟨v10, hv10⟩ : ∃ z : Int32, z = ((v4 - v2) &&& (((1 : Int32) <<< ((p3 &&& (31 : Int32)) &&& 31)) - (1 : Int32))) := ⟨_, rfl⟩
  have pre10 : Lead p e below G (s₁.setTop (mkF m 52 #[.val (.int p0), .val (.int p1), .val (.int p2), .val (.int p3), .val (.int (p3 &&& (31 : Int32))), .val (.int (((1 : Int32) <<< ((p3 &&& (31 : Int32)) &&& 31)) - (1 : Int32))), .val (.int v2), .val (.int v4), .val (.int v6), .val (.int v8), .val (.int v10), .unset] [])) := by rw [hv10]; exact pre9
  have pre13 : Lead p e below G (s₁.setTop (mkF m 72 #[.val (.int p0), .val (.int p1), .val (.int p2), .val (.int p3), .val (.int (p3 &&& (31 : Int32))), .val (.int (((1 : Int32) <<< ((p3 &&& (31 : Int32)) &&& 31)) - (1 : Int32))), .val (.int v2), .val (.int v4), .val (.int v6), .val (.int v8), .val (.int v10), .val (.int (if v8 < v10 then (0 : Int32) else (1 : Int32)))] [(.int v6), (.int v4), (.int v2)])) := fun t k => by
    refine pre10 t ?_
    show Steps p.tables e below (s₁.setTop (mkF m 52 #[.val (.int p0), .val (.int p1), .val (.int p2), .val (.int p3), .val (.int (p3 &&& (31 : Int32))), .val (.int (((1 : Int32) <<< ((p3 &&& (31 : Int32)) &&& 31)) - (1 : Int32))), .val (.int v2), .val (.int v4), .val (.int v6), .val (.int v8), .val (.int v10), .unset] [])) _
    refine XS.iload X0.here hx rfl (hb hby at_52) rfl ?_
    show Steps p.tables e below (s₁.setTop (mkF m 54 #[.val (.int p0), .val (.int p1), .val (.int p2), .val (.int p3), .val (.int (p3 &&& (31 : Int32))), .val (.int (((1 : Int32) <<< ((p3 &&& (31 : Int32)) &&& 31)) - (1 : Int32))), .val (.int v2), .val (.int v4), .val (.int v6), .val (.int v8), .val (.int v10), .unset] [(.int v8)])) _
    refine XS.iload X0.here hx rfl (hb hby at_54) rfl ?_
    show Steps p.tables e below (s₁.setTop (mkF m 56 #[.val (.int p0), .val (.int p1), .val (.int p2), .val (.int p3), .val (.int (p3 &&& (31 : Int32))), .val (.int (((1 : Int32) <<< ((p3 &&& (31 : Int32)) &&& 31)) - (1 : Int32))), .val (.int v2), .val (.int v4), .val (.int v6), .val (.int v8), .val (.int v10), .unset] [(.int v10), (.int v8)])) _
    have j12 : ∀ t, Steps p.tables e below (s₁.setTop (mkF m 64 #[.val (.int p0), .val (.int p1), .val (.int p2), .val (.int p3), .val (.int (p3 &&& (31 : Int32))), .val (.int (((1 : Int32) <<< ((p3 &&& (31 : Int32)) &&& 31)) - (1 : Int32))), .val (.int v2), .val (.int v4), .val (.int v6), .val (.int v8), .val (.int v10), .unset] [(.int (if v8 < v10 then (0 : Int32) else (1 : Int32)))])) t → Steps p.tables e below (s₁.setTop (mkF m 56 #[.val (.int p0), .val (.int p1), .val (.int p2), .val (.int p3), .val (.int (p3 &&& (31 : Int32))), .val (.int (((1 : Int32) <<< ((p3 &&& (31 : Int32)) &&& 31)) - (1 : Int32))), .val (.int v2), .val (.int v4), .val (.int v6), .val (.int v8), .val (.int v10), .unset] [(.int v10), (.int v8)])) t := fun t k => by
      by_cases hc56_11 : v8 < v10
      · simp only [if_pos hc56_11] at k
        refine XS.icmpYes X0.here hx rfl (pc0 := 56) (pc' := 63) rfl (hb hby at_56) rfl (tlt hc56_11).1 (by decide) (by decide) ?_
        show Steps p.tables e below (s₁.setTop (mkF m 63 #[.val (.int p0), .val (.int p1), .val (.int p2), .val (.int p3), .val (.int (p3 &&& (31 : Int32))), .val (.int (((1 : Int32) <<< ((p3 &&& (31 : Int32)) &&& 31)) - (1 : Int32))), .val (.int v2), .val (.int v4), .val (.int v6), .val (.int v8), .val (.int v10), .unset] [])) _
        refine XS.iconst X0.here hx rfl (hb hby at_63) ?_
        show Steps p.tables e below (s₁.setTop (mkF m 64 #[.val (.int p0), .val (.int p1), .val (.int p2), .val (.int p3), .val (.int (p3 &&& (31 : Int32))), .val (.int (((1 : Int32) <<< ((p3 &&& (31 : Int32)) &&& 31)) - (1 : Int32))), .val (.int v2), .val (.int v4), .val (.int v6), .val (.int v8), .val (.int v10), .unset] [(.int (0 : Int32))])) _
        exact k
      · simp only [if_neg hc56_11] at k
        refine XS.icmpNo X0.here hx rfl (hb hby at_56) rfl (flt hc56_11).1 ?_
        show Steps p.tables e below (s₁.setTop (mkF m 59 #[.val (.int p0), .val (.int p1), .val (.int p2), .val (.int p3), .val (.int (p3 &&& (31 : Int32))), .val (.int (((1 : Int32) <<< ((p3 &&& (31 : Int32)) &&& 31)) - (1 : Int32))), .val (.int v2), .val (.int v4), .val (.int v6), .val (.int v8), .val (.int v10), .unset] [])) _
        refine XS.iconst X0.here hx rfl (hb hby at_59) ?_
        show Steps p.tables e below (s₁.setTop (mkF m 60 #[.val (.int p0), .val (.int p1), .val (.int p2), .val (.int p3), .val (.int (p3 &&& (31 : Int32))), .val (.int (((1 : Int32) <<< ((p3 &&& (31 : Int32)) &&& 31)) - (1 : Int32))), .val (.int v2), .val (.int v4), .val (.int v6), .val (.int v8), .val (.int v10), .unset] [(.int (1 : Int32))])) _
        refine XS.goto X0.here hx rfl (pc0 := 60) (pc' := 64) rfl (hb hby at_60) (by decide) (by decide) ?_
        show Steps p.tables e below (s₁.setTop (mkF m 64 #[.val (.int p0), .val (.int p1), .val (.int p2), .val (.int p3), .val (.int (p3 &&& (31 : Int32))), .val (.int (((1 : Int32) <<< ((p3 &&& (31 : Int32)) &&& 31)) - (1 : Int32))), .val (.int v2), .val (.int v4), .val (.int v6), .val (.int v8), .val (.int v10), .unset] [(.int (1 : Int32))])) _
        exact k
    refine j12 _ ?_
    show Steps p.tables e below (s₁.setTop (mkF m 64 #[.val (.int p0), .val (.int p1), .val (.int p2), .val (.int p3), .val (.int (p3 &&& (31 : Int32))), .val (.int (((1 : Int32) <<< ((p3 &&& (31 : Int32)) &&& 31)) - (1 : Int32))), .val (.int v2), .val (.int v4), .val (.int v6), .val (.int v8), .val (.int v10), .unset] [(.int (if v8 < v10 then (0 : Int32) else (1 : Int32)))])) _
    refine XS.istore X0.here hx rfl (hb hby at_64) rfl (l' := #[.val (.int p0), .val (.int p1), .val (.int p2), .val (.int p3), .val (.int (p3 &&& (31 : Int32))), .val (.int (((1 : Int32) <<< ((p3 &&& (31 : Int32)) &&& 31)) - (1 : Int32))), .val (.int v2), .val (.int v4), .val (.int v6), .val (.int v8), .val (.int v10), .val (.int (if v8 < v10 then (0 : Int32) else (1 : Int32)))]) rfl ?_
    show Steps p.tables e below (s₁.setTop (mkF m 66 #[.val (.int p0), .val (.int p1), .val (.int p2), .val (.int p3), .val (.int (p3 &&& (31 : Int32))), .val (.int (((1 : Int32) <<< ((p3 &&& (31 : Int32)) &&& 31)) - (1 : Int32))), .val (.int v2), .val (.int v4), .val (.int v6), .val (.int v8), .val (.int v10), .val (.int (if v8 < v10 then (0 : Int32) else (1 : Int32)))] [])) _
    refine XS.iload X0.here hx rfl (hb hby at_66) rfl ?_
    show Steps p.tables e below (s₁.setTop (mkF m 68 #[.val (.int p0), .val (.int p1), .val (.int p2), .val (.int p3), .val (.int (p3 &&& (31 : Int32))), .val (.int (((1 : Int32) <<< ((p3 &&& (31 : Int32)) &&& 31)) - (1 : Int32))), .val (.int v2), .val (.int v4), .val (.int v6), .val (.int v8), .val (.int v10), .val (.int (if v8 < v10 then (0 : Int32) else (1 : Int32)))] [(.int v2)])) _
    refine XS.iload X0.here hx rfl (hb hby at_68) rfl ?_
    show Steps p.tables e below (s₁.setTop (mkF m 70 #[.val (.int p0), .val (.int p1), .val (.int p2), .val (.int p3), .val (.int (p3 &&& (31 : Int32))), .val (.int (((1 : Int32) <<< ((p3 &&& (31 : Int32)) &&& 31)) - (1 : Int32))), .val (.int v2), .val (.int v4), .val (.int v6), .val (.int v8), .val (.int v10), .val (.int (if v8 < v10 then (0 : Int32) else (1 : Int32)))] [(.int v4), (.int v2)])) _
    refine XS.iload X0.here hx rfl (hb hby at_70) rfl ?_
    show Steps p.tables e below (s₁.setTop (mkF m 72 #[.val (.int p0), .val (.int p1), .val (.int p2), .val (.int p3), .val (.int (p3 &&& (31 : Int32))), .val (.int (((1 : Int32) <<< ((p3 &&& (31 : Int32)) &&& 31)) - (1 : Int32))), .val (.int v2), .val (.int v4), .val (.int v6), .val (.int v8), .val (.int v10), .val (.int (if v8 < v10 then (0 : Int32) else (1 : Int32)))] [(.int v6), (.int v4), (.int v2)])) _
    exact k
  obtain ⟨v14, hv14⟩ : ∃ z : Int32, z = (((1 : Int32) <<< ((p3 &&& (31 : Int32)) &&& 31)) - (1 : Int32)) := ⟨_, rfl⟩
  have pre14 : Lead p e below G (s₁.setTop (mkF m 72 #[.val (.int p0), .val (.int p1), .val (.int p2), .val (.int p3), .val (.int (p3 &&& (31 : Int32))), .val (.int v14), .val (.int v2), .val (.int v4), .val (.int v6), .val (.int v8), .val (.int v10), .val (.int (if v8 < v10 then (0 : Int32) else (1 : Int32)))] [(.int v6), (.int v4), (.int v2)])) := by rw [hv14]; exact pre13
  obtain ⟨v15, hv15⟩ : ∃ z : Int32, z = (if v8 < v10 then (0 : Int32) else (1 : Int32)) := ⟨_, rfl⟩
  have pre15 : Lead p e below G (s₁.setTop (mkF m 72 #[.val (.int p0), .val (.int p1), .val (.int p2), .val (.int p3), .val (.int (p3 &&& (31 : Int32))), .val (.int v14), .val (.int v2), .val (.int v4), .val (.int v6), .val (.int v8), .val (.int v10), .val (.int v15)] [(.int v6), (.int v4), (.int v2)])) := by rw [hv15]; exact pre14
  obtain ⟨_, _, ⟨T16, L16, k16, n16⟩, -, X16, ⟨Lc16, hQ16, l16, y16, z16⟩, st16⟩ := Jvm.LawKit.callS X0 hx (y := (⟨"com/example/processionary/processionary/automata/IntSet", "fillsGap", "(III)Z"⟩ : MethodName)) hown (mvT hZ (hw _ (List.mem_of_getElem? (i := 0) rfl))) (mvT hZ (hw _ (List.mem_of_getElem? (i := 1) rfl))) (mvT hZ (hw _ (List.mem_of_getElem? (i := 2) rfl))) (mvT hZ (hw _ (List.mem_of_getElem? (i := 3) rfl))) (by decide) (backOf (W := 0) (rm1 l Z a0 hw [] v2 v4 v6 h0 n0 Z0) hZ (hw _ (List.mem_of_getElem? (i := 3) rfl)) (hw _ (List.mem_of_getElem? (i := 2) rfl)) (by decide) (by decide)) (g := (mkF m 72 #[.val (.int p0), .val (.int p1), .val (.int p2), .val (.int p3), .val (.int (p3 &&& (31 : Int32))), .val (.int v14), .val (.int v2), .val (.int v4), .val (.int v6), .val (.int v8), .val (.int v10), .val (.int v15)] [(.int v6), (.int v4), (.int v2)])) rfl (by rw [hml]; rfl) (argsL := [(.int v2), (.int v4), (.int v6)]) (rest := []) (lenOf pd__28_III_29_Z rfl) rfl (by show 2 * 0 + _ ≤ _; exact Nat.le_of_eq rfl) (hb hby at_72) (fun _ _ => ⟨rfl, e0, (by decide : 0 + 0 ≤ _), (by decide : 0 + 0 ≤ _)⟩)
  dsimp only [Pt.U, Pt.locs, Pt.cells, Pt.slots] at X16 l16 y16 z16 st16 hQ16
  subst l16 y16 z16
  obtain ⟨rfl, N16q, e16⟩ := hQ16
  have N16 := Fr.app N0 N16q
  have pre16 : Lead p e below G (T16.setTop (mkF m 75 #[.val (.int p0), .val (.int p1), .val (.int p2), .val (.int p3), .val (.int (p3 &&& (31 : Int32))), .val (.int v14), .val (.int v2), .val (.int v4), .val (.int v6), .val (.int v8), .val (.int v10), .val (.int v15)] [(.int (F1 v2 v4 v6))])) := fun t k => pre15 t (st16 _ k)
  obtain ⟨fs, hr, hrun, hended, hW, hsame⟩ := X16.leave (v := some (.int (nar .boolean (if (F1 v2 v4 v6) = v15 then (1 : Int32) else (0 : Int32))))) (fun h => by rw [Bd.returns] at h; cases h)
  subst hG
  refine ⟨_, _, pre16 _ ?_, hrun, hended, _, _, rfl, ?_, ⟨_, rfl⟩, hW, hsame.mono (by decide) (by decide)⟩
  · show Steps p.tables e below (T16.setTop (mkF m 75 #[.val (.int p0), .val (.int p1), .val (.int p2), .val (.int p3), .val (.int (p3 &&& (31 : Int32))), .val (.int v14), .val (.int v2), .val (.int v4), .val (.int v6), .val (.int v8), .val (.int v10), .val (.int v15)] [(.int (F1 v2 v4 v6))])) _
    refine XS.iload X16.here hx rfl (hb hby at_75) rfl ?_
    show Steps p.tables e below (T16.setTop (mkF m 77 #[.val (.int p0), .val (.int p1), .val (.int p2), .val (.int p3), .val (.int (p3 &&& (31 : Int32))), .val (.int v14), .val (.int v2), .val (.int v4), .val (.int v6), .val (.int v8), .val (.int v10), .val (.int v15)] [(.int v15), (.int (F1 v2 v4 v6))])) _
    have j18 : ∀ t, Steps p.tables e below (T16.setTop (mkF m 85 #[.val (.int p0), .val (.int p1), .val (.int p2), .val (.int p3), .val (.int (p3 &&& (31 : Int32))), .val (.int v14), .val (.int v2), .val (.int v4), .val (.int v6), .val (.int v8), .val (.int v10), .val (.int v15)] [(.int (if (F1 v2 v4 v6) = v15 then (1 : Int32) else (0 : Int32)))])) t → Steps p.tables e below (T16.setTop (mkF m 77 #[.val (.int p0), .val (.int p1), .val (.int p2), .val (.int p3), .val (.int (p3 &&& (31 : Int32))), .val (.int v14), .val (.int v2), .val (.int v4), .val (.int v6), .val (.int v8), .val (.int v10), .val (.int v15)] [(.int v15), (.int (F1 v2 v4 v6))])) t := fun t k => by
      by_cases hc77_17 : (F1 v2 v4 v6) = v15
      · simp only [if_pos hc77_17] at k
        refine XS.icmpNo X16.here hx rfl (hb hby at_77) rfl (teq hc77_17).2 ?_
        show Steps p.tables e below (T16.setTop (mkF m 80 #[.val (.int p0), .val (.int p1), .val (.int p2), .val (.int p3), .val (.int (p3 &&& (31 : Int32))), .val (.int v14), .val (.int v2), .val (.int v4), .val (.int v6), .val (.int v8), .val (.int v10), .val (.int v15)] [])) _
        refine XS.iconst X16.here hx rfl (hb hby at_80) ?_
        show Steps p.tables e below (T16.setTop (mkF m 81 #[.val (.int p0), .val (.int p1), .val (.int p2), .val (.int p3), .val (.int (p3 &&& (31 : Int32))), .val (.int v14), .val (.int v2), .val (.int v4), .val (.int v6), .val (.int v8), .val (.int v10), .val (.int v15)] [(.int (1 : Int32))])) _
        refine XS.goto X16.here hx rfl (pc0 := 81) (pc' := 85) rfl (hb hby at_81) (by decide) (by decide) ?_
        show Steps p.tables e below (T16.setTop (mkF m 85 #[.val (.int p0), .val (.int p1), .val (.int p2), .val (.int p3), .val (.int (p3 &&& (31 : Int32))), .val (.int v14), .val (.int v2), .val (.int v4), .val (.int v6), .val (.int v8), .val (.int v10), .val (.int v15)] [(.int (1 : Int32))])) _
        exact k
      · simp only [if_neg hc77_17] at k
        refine XS.icmpYes X16.here hx rfl (pc0 := 77) (pc' := 84) rfl (hb hby at_77) rfl (feq hc77_17).2 (by decide) (by decide) ?_
        show Steps p.tables e below (T16.setTop (mkF m 84 #[.val (.int p0), .val (.int p1), .val (.int p2), .val (.int p3), .val (.int (p3 &&& (31 : Int32))), .val (.int v14), .val (.int v2), .val (.int v4), .val (.int v6), .val (.int v8), .val (.int v10), .val (.int v15)] [])) _
        refine XS.iconst X16.here hx rfl (hb hby at_84) ?_
        show Steps p.tables e below (T16.setTop (mkF m 85 #[.val (.int p0), .val (.int p1), .val (.int p2), .val (.int p3), .val (.int (p3 &&& (31 : Int32))), .val (.int v14), .val (.int v2), .val (.int v4), .val (.int v6), .val (.int v8), .val (.int v10), .val (.int v15)] [(.int (0 : Int32))])) _
        exact k
    refine j18 _ ?_
    show Steps p.tables e below (T16.setTop (mkF m 85 #[.val (.int p0), .val (.int p1), .val (.int p2), .val (.int p3), .val (.int (p3 &&& (31 : Int32))), .val (.int v14), .val (.int v2), .val (.int v4), .val (.int v6), .val (.int v8), .val (.int v10), .val (.int v15)] [(.int (if (F1 v2 v4 v6) = v15 then (1 : Int32) else (0 : Int32)))])) _
    exact retN X16 hx (t := .boolean) Bd.returns (by simp) (hb hby at_85) hr
  · show Q0 Z p0 p1 p2 p3 h0 n0 _ T16.heap _
    rw [e16]
    refine ⟨congrArg (fun z => some (Value.int z)) (Eq.trans (?_ : (nar .boolean (if (F1 v2 v4 v6) = v15 then (1 : Int32) else (0 : Int32))) = F0 p0 p1 p2 p3) (own_law p0 p1 p2 p3)), N16⟩
    subst hv15 hv14 hv10 hv8 hv6 hv4 hv2
    rfl
set_option maxRecDepth 65536 in
set_option maxHeartbeats 40000000 in
theorem comes_1 {Post : Tables → Env → Array Value → State → Outcome → State → Prop} (hpost : ∀ tb e args s v u, (limb_1_1.after args s (.returned v) u = true ∧ limb_1_2.after args s (.returned v) u = true ∧ True) → FrameEnd s (.returned v) u (Jvm.fieldLocs frame_1_writes args s ++ Jvm.arrayLocs frame_1_arrays args s ++ Jvm.staticLocs frame_1_statics s) 0 0 → Post tb e args s (.returned v) u) :
    ArmFor flags0 classFile x code maxLocals ret World_1 tables_1 room_1 Calls_1 rest_1 Pre_1 Post := by
  intro l hfl _ _ p e ha hc hk s m args below hf hA hF happ hP
  obtain ⟨hcalls, hrest, hpre⟩ := hP
  obtain ⟨-, -, -, hnamed, -, -, -, hat⟩ := (Spec.applies_iff hf).mp happ
  obtain ⟨hg, hn⟩ := and_e (Cond.before_iff.mp (show (Jvm.Cond.and given_1 narrow_1).before args s = true from hpre))
  obtain ⟨g1, g2⟩ := and_e hg
  obtain ⟨g3, g4⟩ := and_e g2
  obtain ⟨g5, g6⟩ := and_e g4
  obtain ⟨g7, g8⟩ := and_e g6
  obtain ⟨w0, w1, w2, w3, rfl⟩ : ∃ w0 w1 w2 w3 : Value, args = #[w0, w1, w2, w3] := by
    have hs : args.size = 4 := by simpa [Cond.value, given_1] using g1
    obtain ⟨L⟩ := args
    match L, hs with
    | [w0, w1, w2, w3], _ => exact ⟨w0, w1, w2, w3, rfl⟩
  have hw := fun d (hd : d ∈ tables_1) => atoms_spec (ws := Jvm.Cond.code x code maxLocals ret :: tables_1) hat d (List.mem_cons_of_mem _ hd)
  obtain ⟨i0, ei0⟩ := is_v g3
  obtain rfl : w0 = (.int i0) := Option.some.inj ei0
  obtain ⟨i1, ei1⟩ := is_v g5
  obtain rfl : w1 = (.int i1) := Option.some.inj ei1
  obtain ⟨i2, ei2⟩ := is_v g7
  obtain rfl : w2 = (.int i2) := Option.some.inj ei2
  obtain ⟨i3, ei3⟩ := is_v g8
  obtain rfl : w3 = (.int i3) := Option.some.inj ei3
  obtain ⟨n, o, h1, h2, h3, _, L, rfl, ⟨rfl, N⟩, hq⟩ := rm0 l s _ hw tables_1 i0 i1 i2 i3 s.heap s.heap.size (Nat.le_refl _) p e ha hc hk s m _ below hf ((Spec.applies_iff_loose hf).mp happ).1 ⟨rfl, State.Warmed39.refl s, rfl⟩ trivial
  refine ⟨n, _, h1, h2, h3, hpost _ _ _ _ _ _ ⟨Cond.after_iff.mpr rfl, Cond.after_iff.mpr (eq_i res_at (Term.int_eval (1)) rfl), trivial⟩ ⟨hq.1, hq.2.1, (hq.2.2.sift fun y hy => Or.inr (N y hy)).mono (by decide) (by decide)⟩⟩
theorem main_1_1 : Claimed_1_1 := comes_1 fun _ _ _ _ _ _ h hF => ⟨h.1, hF⟩
theorem main_1_2 : Claimed_1_2 := comes_1 fun _ _ _ _ _ _ h hF => ⟨h.2.1, hF⟩
end Jvm.Pilot.@@N@@
namespace Jvm.Pilot.@@N@@
open Jvm Jvm.ClassFile Sem Op Lib Jvm.Free Jvm.Stand Jvm.Pilot.@@N@@.Jvm.D
/-! MADE BY PROGRAM (witnessworld.py) out of the Statement's table words and the real class files: 9 classes; the members and pool entries that the words name. The judged class is class 1, her method 1. -/
namespace start1
open Jvm.ClassFile
def u (s : String) : CpInfo := .utf8 (stringToUtf16 s)
/-- a pool by its gaps: so many unusable entries, then the entry; so many at the end -/
def gap : Nat → List CpInfo → List CpInfo
  | 0, r => r
  | n + 1, r => .unusable :: gap n r
def poolList (es : List (Nat × CpInfo)) (last : Nat) : List CpInfo := es.foldr (fun e r => gap e.1 (e.2 :: r)) (gap last [])
def pool (es : List (Nat × CpInfo)) (last : Nat) : Array CpInfo := ⟨poolList es last⟩
def fileOf (pool : Array CpInfo) (this : Nat) (attrs : Array Attribute := #[]) (ms : Array MethodInfo := #[]) (fl : Nat := 33) (sup : Nat := 0) (ifs : Array Nat := #[]) (fds : Array FieldInfo := #[]) : ClassFile where
  minorVersion := 0
  majorVersion := 65
  constantPool := pool
  accessFlags := fl
  thisClass := this
  superClass := sup
  interfaces := ifs
  fields := fds
  methods := ms
  attributes := attrs
def plain (name : String) (sup : Option ClassId) : Class where
  name := name
  kind := .ordinary
  loader := none
  accessFlags := 33
  super := sup
  interfaces := #[]
  cf := none
  fields := #[]
  methods := #[]
  instanceTypes := #[]
  staticTypes := #[]
  resolved := #[]
  callSites := []
  init := .initialized
  statics := none
  mirror := none

def pool0 : Array CpInfo := pool [(5, u "<init>"), (0, u "()V"), (1, .class_ 10), (1, u "java/lang/Object")] 113

def k0m0 : Method := { name := "<init>", desc := "()V", sig := { parameters := [], returnType := none }, accessFlags := 1, code := none }
/-- java/lang/Object -/
def k0 : Class := { plain "java/lang/Object" none with
  accessFlags := 33
  interfaces := #[]
  cf := some (fileOf pool0 8 #[] #[{ accessFlags := 1, nameIndex := 5, descriptorIndex := 6, attributes := #[] }] 33 0 #[] #[])
  fields := #[]
  methods := #[k0m0]
  instanceTypes := #[]
  staticTypes := #[]
  resolved := Array.replicate 124 none
  statics := none }

def pool1 : Array CpInfo := pool [(2, .class_ 4), (1, u "java/lang/Object"), (0, u "<init>"), (0, u "()V"), (0, .methodref 8 9), (0, .class_ 10), (0, .nameAndType 11 12), (0, u "com/example/processionary/processionary/automata/IntSet"), (0, u "fillsGap"), (0, u "(III)Z"), (0, .class_ 14), (0, u "com/example/processionary/processionary/automata/IntSetFillsGapPinLaw"), (2, u "law"), (0, u "(IIII)Z")] 3

def k1m0 : Method := { name := "<init>", desc := "()V", sig := { parameters := [], returnType := none }, accessFlags := 2, code := none }
def k1c1 : Code := { maxStack := 3, maxLocals := 12, code := code, exceptionTable := #[], attributes := #[] }
def k1m1 : Method := { name := "law", desc := "(IIII)Z", sig := { parameters := [.int, .int, .int, .int], returnType := some .boolean }, accessFlags := 9, code := some k1c1 }
/-- com/example/processionary/processionary/automata/IntSetFillsGapPinLaw -/
def k1 : Class := { plain "com/example/processionary/processionary/automata/IntSetFillsGapPinLaw" (some 0) with
  accessFlags := 49
  interfaces := #[]
  cf := some (fileOf pool1 13 #[] #[{ accessFlags := 2, nameIndex := 5, descriptorIndex := 6, attributes := #[] }, { accessFlags := 9, nameIndex := 17, descriptorIndex := 18, attributes := #[] }] 49 2 #[] #[])
  fields := #[]
  methods := #[k1m0, k1m1]
  instanceTypes := #[]
  staticTypes := #[]
  resolved := Array.replicate 22 none
  statics := none }

def pool2 : Array CpInfo := pool [(2, .class_ 4), (1, u "java/lang/Object"), (0, u "<init>"), (0, u "()V"), (1, .class_ 10), (1, u "com/example/processionary/processionary/automata/IntSet"), (0, u "slots"), (0, u "[I"), (8, u "size"), (0, u "I"), (10, u "fillsGap"), (0, u "(III)Z"), (8, u "EMPTY")] 15

def k2m0 : Method := { name := "<init>", desc := "()V", sig := { parameters := [], returnType := none }, accessFlags := 0, code := none }
def k2c1 : Code := { maxStack := 2, maxLocals := 3, code := prog_12_method_10_code, exceptionTable := #[], attributes := #[] }
def k2m1 : Method := { name := "fillsGap", desc := "(III)Z", sig := { parameters := [.int, .int, .int], returnType := some .boolean }, accessFlags := 8, code := some k2c1 }
/-- com/example/processionary/processionary/automata/IntSet -/
def k2 : Class := { plain "com/example/processionary/processionary/automata/IntSet" (some 0) with
  accessFlags := 48
  interfaces := #[]
  cf := some (fileOf pool2 8 #[] #[{ accessFlags := 0, nameIndex := 5, descriptorIndex := 6, attributes := #[] }, { accessFlags := 8, nameIndex := 33, descriptorIndex := 34, attributes := #[] }] 48 2 #[] #[{ accessFlags := 26, nameIndex := 43, descriptorIndex := 22, attributes := #[] }, { accessFlags := 2, nameIndex := 11, descriptorIndex := 12, attributes := #[] }, { accessFlags := 2, nameIndex := 21, descriptorIndex := 22, attributes := #[] }])
  fields := #[{ name := "EMPTY", type := .int, accessFlags := 26, slot := 0, constantValue := 0 }, { name := "slots", type := (.array .int), accessFlags := 2, slot := 0, constantValue := 0 }, { name := "size", type := .int, accessFlags := 2, slot := 1, constantValue := 0 }]
  methods := #[k2m0, k2m1]
  instanceTypes := #[(.array .int), .int]
  staticTypes := #[.int]
  resolved := Array.replicate 59 none
  statics := none }

def pool3 : Array CpInfo := pool [(1, u "java/lang/Cloneable"), (0, .class_ 1), (0, u "java/lang/Object"), (0, .class_ 3)] 3

/-- java/lang/Cloneable -/
def k3 : Class := { plain "java/lang/Cloneable" (some 0) with
  accessFlags := 1537
  interfaces := #[]
  cf := some (fileOf pool3 2 #[] #[] 1537 4 #[] #[])
  fields := #[]
  methods := #[]
  instanceTypes := #[]
  staticTypes := #[]
  resolved := Array.replicate 8 none
  statics := none }

def pool4 : Array CpInfo := pool [(1, u "java/io/Serializable"), (0, .class_ 1), (0, u "java/lang/Object"), (0, .class_ 3)] 3

/-- java/io/Serializable -/
def k4 : Class := { plain "java/io/Serializable" (some 0) with
  accessFlags := 1537
  interfaces := #[]
  cf := some (fileOf pool4 2 #[] #[] 1537 4 #[] #[])
  fields := #[]
  methods := #[]
  instanceTypes := #[]
  staticTypes := #[]
  resolved := Array.replicate 8 none
  statics := none }

/-- the primitive byte -/
def k5 : Class := { plain "byte" none with kind := .primitive 'B', accessFlags := 0x411 }
/-- [B -/
def k6 : Class := { plain "[B" (some 0) with kind := .array 5 .byte, interfaces := #[3, 4], accessFlags := 1041 }

/-- the primitive int -/
def k7 : Class := { plain "int" none with kind := .primitive 'I', accessFlags := 0x411 }
/-- [I -/
def k8 : Class := { plain "[I" (some 0) with kind := .array 7 .int, interfaces := #[3, 4], accessFlags := 1041 }

def heap : Heap := #[]
def classes : Array Class := #[k0, k1, k2, k3, k4, k5, k6, k7, k8]
def interned : List (Array UInt16 × Addr) := []
def slotsUsed : Nat := 0
def theMethod : MethodId := ⟨1, 1⟩
def args0 : Array Value := #[.int 5, .int 9, .int 2, .int 7]
def aboutOver (below : List Frame) : State where
  vm := { classes := classes, interned := interned.toArray }
  heap := heap
  slotsUsed := slotsUsed
  threads := #[{ frames := .invoking theMethod args0 :: below }]
def below0 : List Frame := [.native { method := ⟨0, 0⟩, args := #[] }]
def about1 : State := aboutOver below0
def p0 : Program := .bare "" "" ""
def e0 : Env := launch0.env 0 0 0
theorem w_frames : about1.frames = Frame.invoking theMethod args0 :: below0 := rfl
set_option maxRecDepth 65536 in
theorem w_args : argsFit about1.vm theMethod args0 = true := by decide +kernel
set_option maxRecDepth 65536 in
theorem w_heap : heapFits about1 = true := by decide +kernel
set_option maxRecDepth 65536 in
theorem w_runnable : about1.curStatus? = some .runnable := by decide +kernel
set_option maxRecDepth 65536 in
theorem w_alone : about1.alone = true := by decide +kernel
set_option maxRecDepth 65536 in
theorem w_named : about1.methodNamed? x = some theMethod := by decide +kernel
set_option maxRecDepth 65536 in
theorem w_hears : about1.hears theMethod below0 = true := by decide +kernel
set_option maxRecDepth 65536 in
theorem w_ripe : about1.ripe theMethod args0 below0 = true := by decide +kernel
theorem w_running : about1.status = .running := rfl
set_option maxRecDepth 65536 in
theorem w_room : about1.hasRoom e0.platform room_1 = true :=
  launch0.hasRoom_least _ room_1 (by decide +kernel) (by decide +kernel) (by decide +kernel) (by decide +kernel) (by decide +kernel) (by decide +kernel)
theorem allAtoms_all (ts : List Jvm.Cond) (a : Array Jvm.Value) (st : Jvm.State) : (allAtoms ts).before a st = ts.all (fun c => c.before a st) := by
  induction ts with
  | nil => rfl
  | cons c t ih =>
    show (Jvm.Cond.and c (allAtoms t)).before a st = _
    rw [Jvm.Cond.before_and, ih, List.all_cons]
def words1 : List Jvm.Cond := Jvm.Cond.code x code maxLocals ret :: tables_1
/-- a 'code' word, met by the world's own term for the bytes: nothing is compared byte by byte -/
theorem code_word {y : MethodName} {bytes : ByteArray} {mx : Nat} {rt : Option FieldType} {a : Array Value} {s : State} {m : MethodId} {meth : Method} {c : Code} (h1 : s.methodNamed? y = some m) (h2 : s.vm.method? m = some meth) (h3 : meth.code = some c) (h4 : c.code = bytes)
    (h5 : (c.maxLocals == mx && c.exceptionTable.isEmpty && decide (c.maxStack ≤ mostOperands) && decide (meth.sig.returnType = rt) && !meth.locks && decide (parseMethodDescriptor y.desc = some meth.sig)) = true) : (Jvm.Cond.code y bytes mx rt).before a s = true := by
  simp only [Bool.and_eq_true, beq_iff_eq, Bool.not_eq_true', decide_eq_true_eq] at h5
  obtain ⟨⟨⟨⟨⟨g1, g2⟩, g3⟩, g4⟩, g5⟩, g6⟩ := h5
  simp [Cond.before, Cond.holds, Cond.value, h1, h2, h3, h4, g1, g2, g3, g4, g5, g6]
def isCode : Jvm.Cond → Bool
  | .code _ _ _ _ => true
  | _ => false
theorem all_split {L : List Jvm.Cond} {P : Jvm.Cond → Bool} (h1 : L.all (fun c => isCode c || P c) = true) (h2 : ∀ c ∈ L.filter isCode, P c = true) : L.all P = true := by
  refine List.all_eq_true.mpr fun c hc => ?_
  have h := List.all_eq_true.mp h1 c hc
  rcases Bool.eq_false_or_eq_true (isCode c) with hi | hi
  · exact h2 c (List.mem_filter.mpr ⟨hc, hi⟩)
  · simpa [hi] using h
set_option maxRecDepth 65536 in
theorem w_c0 : (Jvm.Cond.code x code maxLocals ret).before args0 about1 = true := code_word (m := ⟨1, 1⟩) (meth := k1m1) (c := k1c1) (by decide +kernel) rfl rfl rfl (by decide +kernel)
set_option maxRecDepth 65536 in
theorem w_c1 : (Jvm.Cond.code ({ cls := "com/example/processionary/processionary/automata/IntSet", name := "fillsGap", desc := "(III)Z" } : Jvm.MethodName) prog_12_method_10_code (3 : Nat) (Option.some Jvm.ClassFile.FieldType.boolean)).before args0 about1 = true := code_word (m := ⟨2, 1⟩) (meth := k2m1) (c := k2c1) (by decide +kernel) rfl rfl rfl (by decide +kernel)
def codes1 : List Jvm.Cond := [Jvm.Cond.code x code maxLocals ret, Jvm.Cond.code ({ cls := "com/example/processionary/processionary/automata/IntSet", name := "fillsGap", desc := "(III)Z" } : Jvm.MethodName) prog_12_method_10_code (3 : Nat) (Option.some Jvm.ClassFile.FieldType.boolean)]
set_option maxRecDepth 65536 in
theorem codes_eq : words1.filter isCode = codes1 := rfl
theorem w_codes : ∀ c ∈ words1.filter isCode, c.before args0 about1 = true := by
  rw [codes_eq]
  intro c hc
  simp only [codes1, List.mem_cons, List.not_mem_nil, or_false] at hc
  rcases hc with rfl | rfl
  · exact w_c0
  · exact w_c1
set_option maxRecDepth 65536 in
theorem w_t1 : words1.all (fun c => isCode c || c.before args0 about1) = true := by decide +kernel
theorem w_tables : (allAtoms (Jvm.Cond.code x code maxLocals ret :: tables_1)).before args0 about1 = true := by
  rw [allAtoms_all]
  show words1.all (fun c => c.before args0 about1) = true
  refine all_split ?_ w_codes
  rw [w_t1]
set_option maxRecDepth 65536 in
theorem w_case : (Jvm.Cond.and given_1 narrow_1).before args0 about1 = true := by decide +kernel
theorem w_applies : (headSpec (Jvm.Cond.code x code maxLocals ret :: tables_1) room_1).applies x e0.platform about1 = true :=
  (Spec.applies_iff w_frames).mpr ⟨w_running, w_runnable, w_alone, w_named, w_hears, w_ripe, w_room, w_tables⟩
theorem atStart : AtStart classFile x code maxLocals ret World_1 tables_1 room_1 Calls_1 rest_1 Pre_1 launch0 p0 e0 about1 theMethod args0 below0 :=
  ⟨lists_1, trivial, launch0.admits_env _ _ _, launch0.least_env, fairChoices_fair.cas, fairChoices_fair.clock, w_frames, w_args, w_heap, w_applies, trivial, trivial, w_case⟩
end start1
theorem witness_1 : WitnessClaimed_1 := ⟨start1.p0, start1.e0, start1.about1, start1.theMethod, start1.args0, start1.below0, start1.atStart⟩
end Jvm.Pilot.@@N@@

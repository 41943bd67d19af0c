import JvmDerived
import JvmDerived.Pilot.@@N@@Statement
import JvmDerived.Pilot.@@N@@Code
set_option linter.unusedVariables false
set_option linter.unusedSimpArgs false
@@BLOCK:NumsL.lean.txt@@
@@BLOCK:Masks.lean.txt@@
namespace Jvm.RoadKit
open Sem ClassFile Op Lib Jvm.Stand Jvm.Free Jvm.LawKit
section New
variable {p : Program} {l : Launch} {e : Env} {R : Room} {s : State} {m : MethodId} {args : Array Value} {below : List Frame} {meth : Method} {c : Code} {T : State} {locs : List Loc} {cells slots : Nat}
theorem retI (X : Stand p l e R s m args below meth c T locs cells slots) (hx : p.tables.exec = Jvm.exec) {pc : Nat} {Ls : Array Slot} {z : Int32} {rest : List Value} (hret : meth.sig.returnType = some .int) (hd : decode c.code pc = .ok (.ireturn, 1)) {fs : List Frame}
    (hl : ∀ (f : JFrame) (acts : List Action), f.method = m → f.locked = none → f.entered = [] → (doReturn e (T.setTop f) acts (some (.int z))).1 = T.setFrames fs) : Steps p.tables e below (T.setTop (mkF m pc Ls (.int z :: rest))) (T.setFrames fs) := by
  have hm' : T.vm.method? m = some meth := X.method'
  have hn : narrow .int (.int z) = .int z := rfl
  show Steps p.tables e below (T.setTop { method := m, pc := pc, locals := Ls, stack := _ :: rest, locked := none }) _
  jvm_step X.here [X.here.top, hx, hd, hm', hret, hn]
  first | (intro acts; rw [hl _ acts rfl rfl rfl]) | rw [hl _ _ rfl rfl rfl]
  exact Steps.refl _
theorem retJ (X : Stand p l e R s m args below meth c T locs cells slots) (hx : p.tables.exec = Jvm.exec) {pc : Nat} {Ls : Array Slot} {z : Int64} {rest : List Value} (hret : meth.sig.returnType = some .long) (hd : decode c.code pc = .ok (.lreturn, 1)) {fs : List Frame}
    (hl : ∀ (f : JFrame) (acts : List Action), f.method = m → f.locked = none → f.entered = [] → (doReturn e (T.setTop f) acts (some (.long z))).1 = T.setFrames fs) : Steps p.tables e below (T.setTop (mkF m pc Ls (.long z :: rest))) (T.setFrames fs) := by
  have hm' : T.vm.method? m = some meth := X.method'
  have hn : narrow .long (.long z) = .long z := rfl
  show Steps p.tables e below (T.setTop { method := m, pc := pc, locals := Ls, stack := _ :: rest, locked := none }) _
  jvm_step X.here [X.here.top, hx, hd, hm', hret, hn]
  first | (intro acts; rw [hl _ acts rfl rfl rfl]) | rw [hl _ _ rfl rfl rfl]
  exact Steps.refl _
end New
theorem own_ite {α : Type} {P : Prop} [Decidable P] {f : α → Prop} {a b : α} (ha : f a) (hb : f b) : f (if P then a else b) := by split <;> assumption
theorem own_lc_eq {x y : Int64} : lcmpW x y = 0 ↔ x = y := by rw [lcW]; exact lc_eq x y
theorem own_lc_lt {x y : Int64} : lcmpW x y < 0 ↔ x < y := by rw [lcW]; exact lc_lt x y
theorem own_lc_gt {x y : Int64} : 0 < lcmpW x y ↔ y < x := by rw [lcW]; exact lc_gt x y
end Jvm.RoadKit
namespace Jvm.RoadKit
open Sem ClassFile Op Lib Jvm.Stand Jvm.Free Jvm.LawKit
section Own
variable {Z : State} {h h' : Heap} {a b : Addr} {ty : FieldType} {n j : Int32} {sl : Nat} {v : Value} {ws : List Addr} {α : Type} {mk : α → Value} {g : Nat → α} {w : α}
/-- an array: its kind, its length and, by a function, what it holds -/
def JV (mk : α → Value) (Z : State) (h : Heap) (a : Addr) (ty : FieldType) (n : Int32) (g : Nat → α) : Prop := ∃ c : Cell, Arr Z h a c ty ∧ c.slots.size = n.toNatClampNeg ∧ ¬ n < 0 ∧ ∀ i, i < c.slots.size → c.slots[i]? = some (mk (g i))
def upd (g : Nat → α) (k : Nat) (w : α) : Nat → α := fun i => if i = k then w else g i
theorem JV.lt (F : JV mk Z h a ty n g) : a < h.size := by obtain ⟨c, A, -⟩ := F; exact A.lt
theorem JV.ext (F : JV mk Z h a ty n g) (E : Ext h h') : JV mk Z h' a ty n g := by obtain ⟨c, A, r⟩ := F; exact ⟨c, A.ext E, r⟩
theorem JV.other (F : JV mk Z h b ty n g) (W : Wr h h' a sl v) (q : b ≠ a) : JV mk Z h' b ty n g := by obtain ⟨c, A, r⟩ := F; exact ⟨c, A.other W q, r⟩
theorem JV.keep (F : JV mk Z h a ty n g) (K : Keep h h' ws) (q : a ∉ ws) : JV mk Z h' a ty n g := by obtain ⟨c, A, r⟩ := F; exact ⟨c, ⟨K.2.1 a c A.1 q, A.2⟩, r⟩
theorem JV.new {k : ClassId} (A : Arr Z h a (newA k ty n) ty) (q : ¬ n < 0) (w : α) (hd : defaultValue ty = mk w) : JV mk Z h a ty n (fun _ => w) := by
  obtain ⟨c, A', -, S, N, H, -⟩ := Arv.new A q
  exact ⟨c, A', S, N, fun i hi => by rw [H i hi, hd]; rfl⟩
theorem JV.in (F : JV mk Z h a ty n g) (q : ¬ j < 0 ∧ j < n) : ∃ c : Cell, Arr Z h a c ty ∧ ¬ (j < 0 ∨ c.slots.size ≤ j.toNatClampNeg) ∧ c.slots[j.toNatClampNeg]? = some (mk (g j.toNatClampNeg)) := by
  obtain ⟨c, A, S, N, H⟩ := F
  have hin := inb_of S q
  exact ⟨c, A, hin, H _ (Nat.lt_of_not_le fun y => hin (Or.inr y))⟩
theorem JV.len (F : JV mk Z h a ty n g) : ∃ c : Cell, Arr Z h a c ty ∧ c.slots.size.toInt32 = n := by
  obtain ⟨c, A, S, N, H⟩ := F
  exact ⟨c, A, len_of S N⟩
theorem JV.nn (F : JV mk Z h a ty n g) : ¬ n < 0 := by obtain ⟨c, A, S, N, H⟩ := F; exact N
theorem JV.set (F : JV mk Z h a ty n g) (W : Wr h h' a j.toNatClampNeg (mk w)) : JV mk Z h' a ty n (upd g j.toNatClampNeg w) := by
  obtain ⟨c, A, S, N, H⟩ := F
  refine ⟨_, A.same W, ?_, N, ?_⟩
  · rw [← S]; simp [Cell.setSlot]
  · intro i hi
    have hi' : i < c.slots.size := by simpa [Cell.setSlot] using hi
    obtain ⟨cell, h1, -, h3, rfl⟩ := W
    cases A.1.symm.trans h1
    by_cases e : i = j.toNatClampNeg
    · subst e; simp [Cell.setSlot, upd, hi']
    · rw [show (c.setSlot j.toNatClampNeg (mk w)).slots[i]? = c.slots[i]? from by simp [Cell.setSlot, Array.getElem?_setIfInBounds, Ne.symm e], H i hi']
      simp [upd, e]
end Own
end Jvm.RoadKit
namespace Jvm.Pilot.@@N@@
open Jvm Jvm.ClassFile Sem Op Lib Jvm.Free Jvm.Stand Jvm.LawKit Jvm.RoadKit Bundle Jvm.Pilot.@@N@@.Jvm.D
def Lead (p : Program) (e : Env) (below : List Frame) (A B : State) : Prop := ∀ t, Steps p.tables e below B t → Steps p.tables e below A t
theorem d1_0 : decode prog_31_method_2_code 0 = .ok (.iload_n 0, 1) := by decide +kernel
theorem d1_1 : decode prog_31_method_2_code 1 = .ok (.bipush 36, 2) := by decide +kernel
theorem d1_3 : decode prog_31_method_2_code 3 = .ok (.if_icmp .eq 9, 3) := by decide +kernel
theorem d1_6 : decode prog_31_method_2_code 6 = .ok (.iload_n 0, 1) := by decide +kernel
theorem d1_7 : decode prog_31_method_2_code 7 = .ok (.bipush 44, 2) := by decide +kernel
theorem d1_9 : decode prog_31_method_2_code 9 = .ok (.if_icmp .ne 8, 3) := by decide +kernel
theorem d1_12 : decode prog_31_method_2_code 12 = .ok (.iconst 2, 1) := by decide +kernel
theorem d1_13 : decode prog_31_method_2_code 13 = .ok (.istore_n 1, 1) := by decide +kernel
theorem d1_14 : decode prog_31_method_2_code 14 = .ok (.goto 5, 3) := by decide +kernel
theorem d1_17 : decode prog_31_method_2_code 17 = .ok (.iconst 1, 1) := by decide +kernel
theorem d1_18 : decode prog_31_method_2_code 18 = .ok (.istore_n 1, 1) := by decide +kernel
theorem d1_19 : decode prog_31_method_2_code 19 = .ok (.iload_n 1, 1) := by decide +kernel
theorem d1_20 : decode prog_31_method_2_code 20 = .ok (.bipush 8, 2) := by decide +kernel
theorem d1_22 : decode prog_31_method_2_code 22 = .ok (.imul, 1) := by decide +kernel
theorem d1_23 : decode prog_31_method_2_code 23 = .ok (.ireturn, 1) := by decide +kernel
def F1 (p0 : Int32) : Int32 := let v6 : Int32 := (if p0 = (36 : Int32) then (2 : Int32) else (if p0 = (44 : Int32) then (2 : Int32) else (1 : Int32))); (v6 * (8 : Int32))
theorem pn_com_example_quintet_quintet_card_PinCommands : plainName "com/example/quintet/quintet/card/PinCommands" = true := by first | (simp [plainName, overriddenIn]; done) | decide +kernel
theorem ef_1 (m : MethodId) (p0 : Int32) : entryFrame m #[(.int p0)] 2 = mkF m 0 #[.val (.int p0), .unset] [] := by first | (simp [entryFrame, mkF, argsToLocals, Value.category]; done) | rfl
def Q1 (Z : State) (p0 : Int32)  (h0 : Heap) (n0 : Nat) (v : Option Value) (h : Heap) (L : List Loc) : Prop := v = some (.int (F1 p0)) ∧ Fr n0 L ∧ h = h0
set_option maxRecDepth 65536 in
set_option maxHeartbeats 40000000 in
theorem rm1 (l : Launch) (Z : State) (a0 : Array Value) (hw : ∀ d ∈ tables_1, d.before a0 Z = true) (ws : List Jvm.Cond) (p0 : Int32)  (h0 : Heap) (n0 : Nat) (Z0 : n0 ≤ h0.size)  :
    MetFree l (⟨"com/example/quintet/quintet/card/PinCommands", "dataLength", "(I)I"⟩ : MethodName) (head1 (Jvm.Cond.code (⟨"com/example/quintet/quintet/card/PinCommands", "dataLength", "(I)I"⟩ : MethodName) prog_31_method_2_code 2 (some .int) :: ws) ({ frames := 0, cells := 0, slots := 0, locals := 0 } : Room)) (fun a U => a = #[(.int p0)] ∧ Z.Warmed39 U.vm ∧ U.heap = h0) (fun _ _ _ _ _ => True) (fun _ U o U' => ∃ v L, o = .returned v ∧ Q1 Z p0 h0 n0 v U'.heap L ∧ FrameEnd U o U' L ({ frames := 0, cells := 0, slots := 0, locals := 0 } : Room).cells ({ frames := 0, cells := 0, slots := 0, locals := 0 } : Room).slots) := by
  refine MetFree.of_bodySF (plainFor_of_name pn_com_example_quintet_quintet_card_PinCommands) hisR ?_
  intro p e s m args below meth c s₁ Bd hml0 hP hK
  obtain ⟨rfl, hZ, hh⟩ := hP
  have hx := Bd.exec
  have hby := Bd.bytes
  have hml : c.maxLocals = 2 := hml0
  have hown : s.vm.findClass "com/example/quintet/quintet/card/PinCommands" = some m.cls := findClass_of_methodNamed Bd.named
  have hnm := (name_of_methodNamed Bd.named Bd.method).1
  have X0 : Stand p l e ({ frames := 0, cells := 0, slots := 0, locals := 0 } : Room) s m #[(.int p0)] below meth c s₁ [] 0 0 := Stand.of_body Bd
  have e0 : s₁.heap = h0 := by rw [← hh, Bd.state]; rfl
  have N0 := Fr.nil n0
  obtain ⟨G, hG⟩ : ∃ z, z = s₁.setTop (entryFrame m #[(.int p0)] 2) := ⟨_, rfl⟩
  have pre0 : Lead p e below G (s₁.setTop (mkF m 0 #[.val (.int p0), .unset] [])) := fun t k => by rw [hG]; exact castTop (ef_1 m p0) k
  have pre5 : Lead p e below G (s₁.setTop (mkF m 19 #[.val (.int p0), .val (.int (if p0 = (36 : Int32) then (2 : Int32) else (if p0 = (44 : Int32) then (2 : Int32) else (1 : Int32))))] [])) := fun t k => by
    refine pre0 t ?_
    show Steps p.tables e below (s₁.setTop (mkF m 0 #[.val (.int p0), .unset] [])) _
    refine XS.iloadN X0.here hx rfl (hb hby d1_0) rfl ?_
    show Steps p.tables e below (s₁.setTop (mkF m 1 #[.val (.int p0), .unset] [(.int p0)])) _
    refine XS.bipush X0.here hx rfl (hb hby d1_1) ?_
    show Steps p.tables e below (s₁.setTop (mkF m 3 #[.val (.int p0), .unset] [(.int (36 : Int32)), (.int p0)])) _
    have j4 : ∀ t, Steps p.tables e below (s₁.setTop (mkF m 19 #[.val (.int p0), .val (.int (if p0 = (36 : Int32) then (2 : Int32) else (if p0 = (44 : Int32) then (2 : Int32) else (1 : Int32))))] [])) t → Steps p.tables e below (s₁.setTop (mkF m 3 #[.val (.int p0), .unset] [(.int (36 : Int32)), (.int p0)])) t := fun t k => by
      by_cases hc3_1 : p0 = (36 : Int32)
      · simp only [if_pos hc3_1] at k
        refine XS.icmpYes X0.here hx rfl (pc0 := 3) (pc' := 12) rfl (hb hby d1_3) rfl (teq hc3_1).1 (by decide) (by decide) ?_
        show Steps p.tables e below (s₁.setTop (mkF m 12 #[.val (.int p0), .unset] [])) _
        refine XS.iconst X0.here hx rfl (hb hby d1_12) ?_
        show Steps p.tables e below (s₁.setTop (mkF m 13 #[.val (.int p0), .unset] [(.int (2 : Int32))])) _
        refine XS.istoreN X0.here hx rfl (hb hby d1_13) rfl (l' := #[.val (.int p0), .val (.int (2 : Int32))]) rfl ?_
        show Steps p.tables e below (s₁.setTop (mkF m 14 #[.val (.int p0), .val (.int (2 : Int32))] [])) _
        refine XS.goto X0.here hx rfl (pc0 := 14) (pc' := 19) rfl (hb hby d1_14) (by decide) (by decide) ?_
        show Steps p.tables e below (s₁.setTop (mkF m 19 #[.val (.int p0), .val (.int (2 : Int32))] [])) _
        exact k
      · simp only [if_neg hc3_1] at k
        refine XS.icmpNo X0.here hx rfl (hb hby d1_3) rfl (feq hc3_1).1 ?_
        show Steps p.tables e below (s₁.setTop (mkF m 6 #[.val (.int p0), .unset] [])) _
        refine XS.iloadN X0.here hx rfl (hb hby d1_6) rfl ?_
        show Steps p.tables e below (s₁.setTop (mkF m 7 #[.val (.int p0), .unset] [(.int p0)])) _
        refine XS.bipush X0.here hx rfl (hb hby d1_7) ?_
        show Steps p.tables e below (s₁.setTop (mkF m 9 #[.val (.int p0), .unset] [(.int (44 : Int32)), (.int p0)])) _
        have j3 : ∀ t, Steps p.tables e below (s₁.setTop (mkF m 19 #[.val (.int p0), .val (.int (if p0 = (44 : Int32) then (2 : Int32) else (1 : Int32)))] [])) t → Steps p.tables e below (s₁.setTop (mkF m 9 #[.val (.int p0), .unset] [(.int (44 : Int32)), (.int p0)])) t := fun t k => by
          by_cases hc9_2 : p0 = (44 : Int32)
          · simp only [if_pos hc9_2] at k
            refine XS.icmpNo X0.here hx rfl (hb hby d1_9) rfl (teq hc9_2).2 ?_
            show Steps p.tables e below (s₁.setTop (mkF m 12 #[.val (.int p0), .unset] [])) _
            refine XS.iconst X0.here hx rfl (hb hby d1_12) ?_
            show Steps p.tables e below (s₁.setTop (mkF m 13 #[.val (.int p0), .unset] [(.int (2 : Int32))])) _
            refine XS.istoreN X0.here hx rfl (hb hby d1_13) rfl (l' := #[.val (.int p0), .val (.int (2 : Int32))]) rfl ?_
            show Steps p.tables e below (s₁.setTop (mkF m 14 #[.val (.int p0), .val (.int (2 : Int32))] [])) _
            refine XS.goto X0.here hx rfl (pc0 := 14) (pc' := 19) rfl (hb hby d1_14) (by decide) (by decide) ?_
            show Steps p.tables e below (s₁.setTop (mkF m 19 #[.val (.int p0), .val (.int (2 : Int32))] [])) _
            exact k
          · simp only [if_neg hc9_2] at k
            refine XS.icmpYes X0.here hx rfl (pc0 := 9) (pc' := 17) rfl (hb hby d1_9) rfl (feq hc9_2).2 (by decide) (by decide) ?_
            show Steps p.tables e below (s₁.setTop (mkF m 17 #[.val (.int p0), .unset] [])) _
            refine XS.iconst X0.here hx rfl (hb hby d1_17) ?_
            show Steps p.tables e below (s₁.setTop (mkF m 18 #[.val (.int p0), .unset] [(.int (1 : Int32))])) _
            refine XS.istoreN X0.here hx rfl (hb hby d1_18) rfl (l' := #[.val (.int p0), .val (.int (1 : Int32))]) rfl ?_
            show Steps p.tables e below (s₁.setTop (mkF m 19 #[.val (.int p0), .val (.int (1 : Int32))] [])) _
            exact k
        refine j3 _ ?_
        show Steps p.tables e below (s₁.setTop (mkF m 19 #[.val (.int p0), .val (.int (if p0 = (44 : Int32) then (2 : Int32) else (1 : Int32)))] [])) _
        exact k
    refine j4 _ ?_
    show Steps p.tables e below (s₁.setTop (mkF m 19 #[.val (.int p0), .val (.int (if p0 = (36 : Int32) then (2 : Int32) else (if p0 = (44 : Int32) then (2 : Int32) else (1 : Int32))))] [])) _
    exact k
  obtain ⟨v6, hv6⟩ : ∃ z : Int32, z = (if p0 = (36 : Int32) then (2 : Int32) else (if p0 = (44 : Int32) then (2 : Int32) else (1 : Int32))) := ⟨_, rfl⟩
  have pre6 : Lead p e below G (s₁.setTop (mkF m 19 #[.val (.int p0), .val (.int v6)] [])) := by rw [hv6]; exact pre5
  obtain ⟨fs, hr, hrun, hended, hW, hsame⟩ := X0.leave (v := some (.int (v6 * (8 : Int32)))) (fun h => by rw [Bd.returns] at h; cases h)
  subst hG
  refine ⟨_, _, pre6 _ ?_, hrun, hended, _, _, rfl, ?_, ⟨_, rfl⟩, hW, hsame.mono (by decide) (by decide)⟩
  · show Steps p.tables e below (s₁.setTop (mkF m 19 #[.val (.int p0), .val (.int v6)] [])) _
    refine XS.iloadN X0.here hx rfl (hb hby d1_19) rfl ?_
    show Steps p.tables e below (s₁.setTop (mkF m 20 #[.val (.int p0), .val (.int v6)] [(.int v6)])) _
    refine XS.bipush X0.here hx rfl (hb hby d1_20) ?_
    show Steps p.tables e below (s₁.setTop (mkF m 22 #[.val (.int p0), .val (.int v6)] [(.int (8 : Int32)), (.int v6)])) _
    refine XS.imul X0.here hx rfl (hb hby d1_22) rfl ?_
    show Steps p.tables e below (s₁.setTop (mkF m 23 #[.val (.int p0), .val (.int v6)] [(.int (v6 * (8 : Int32)))])) _
    exact retI X0 hx Bd.returns (hb hby d1_23) hr
  · show Q1 Z p0 h0 n0 _ s₁.heap _
    rw [e0]
    refine ⟨congrArg (fun z => some (Value.int z)) (?_ : (v6 * (8 : Int32)) = F1 p0), N0, rfl⟩
    subst hv6
    rfl
theorem pd__28_I_29_I : parseMethodDescriptor "(I)I" = some ⟨[.int], some .int⟩ := by decide +kernel
def F0 (p0 : Int32) : Int32 := let v2 : Int32 := ((p0 &&& (2147483647 : Int32)) - ((p0 &&& (2147483647 : Int32)) / (5 : Int32)) * (5 : Int32)); let v12 : Int32 := (if v2 = (0 : Int32) then (32 : Int32) else (if v2 = (1 : Int32) then (36 : Int32) else (if v2 = (2 : Int32) then (38 : Int32) else (if v2 = (3 : Int32) then (40 : Int32) else (44 : Int32))))); let v13 : Int32 := (if v2 = (0 : Int32) then (8 : Int32) else (if v2 = (1 : Int32) then (16 : Int32) else (if v2 = (2 : Int32) then (8 : Int32) else (if v2 = (3 : Int32) then (8 : Int32) else (16 : Int32))))); (nar .boolean (if (F1 v12) = v13 then (1 : Int32) else (0 : Int32)))
theorem own_max (x : Int32) : (x &&& (2147483647 : Int32)).toInt = x.toInt % 2 ^ 31 := Jvm.Kit.i32_mask x _ (k := 31) (by decide) (by decide)
theorem own_rem (a k : Int32) (ha : 0 ≤ a.toInt) (hk : 0 < k.toInt) : (a - a / k * k).toInt = a.toInt % k.toInt := by
  have b1 := Int32.le_toInt a; have b2 := Int32.toInt_lt a
  have d : (a / k).toInt = a.toInt / k.toInt := by rw [Jvm.Kit.i32_div (by omega), Int.tdiv_eq_ediv_of_nonneg ha]
  have q0 : 0 ≤ a.toInt / k.toInt := Int.ediv_nonneg ha (by omega)
  have q1 : a.toInt / k.toInt * k.toInt ≤ a.toInt := Int.ediv_mul_le _ (by omega)
  have q2 : 0 ≤ a.toInt / k.toInt * k.toInt := Int.mul_nonneg q0 (by omega)
  have m : (a / k * k).toInt = a.toInt / k.toInt * k.toInt := by rw [Jvm.Kit.i32_mul, d] <;> rw [d] <;> omega
  rw [Jvm.Kit.i32_sub (by omega) (by omega), m, Int.emod_def, Int.mul_comm]
theorem own_nar0 : nar .boolean (0 : Int32) = 0 := by decide
theorem own_nar1 : nar .boolean (1 : Int32) = 1 := by decide
theorem own_nat {a : Int32} {k : Nat} (h : a.toInt ≤ k) : a.toNatClampNeg ≤ k := by
  show a.toInt.toNat ≤ k
  omega
theorem own_law (p0 : Int32) : F0 p0 = 1 := by
  simp only [F0, F1]
  generalize ((p0 &&& (2147483647 : Int32)) - ((p0 &&& (2147483647 : Int32)) / (5 : Int32)) * (5 : Int32)) = k
  by_cases h0 : k = 0
  · subst h0; decide
  by_cases h1 : k = 1
  · subst h1; decide
  by_cases h2 : k = 2
  · subst h2; decide
  by_cases h3 : k = 3
  · subst h3; decide
  · simp only [if_neg h0, if_neg h1, if_neg h2, if_neg h3]; decide

theorem pn_com_example_quintet_quintet_card_PinCommandsDataLengthPinLaw : plainName "com/example/quintet/quintet/card/PinCommandsDataLengthPinLaw" = true := by first | (simp [plainName, overriddenIn]; done) | decide +kernel
theorem ef_0 (m : MethodId) (p0 : Int32) : entryFrame m #[(.int p0)] maxLocals = mkF m 0 #[.val (.int p0), .unset, .unset, .unset] [] := by first | (simp [entryFrame, mkF, argsToLocals, Value.category, maxLocals]; done) | rfl
def Q0 (Z : State) (p0 : Int32)  (h0 : Heap) (n0 : Nat) (v : Option Value) (h : Heap) (L : List Loc) : Prop := v = some (.int (1 : Int32)) ∧ Fr n0 L
set_option maxRecDepth 65536 in
set_option maxHeartbeats 40000000 in
theorem rm0 (l : Launch) (Z : State) (a0 : Array Value) (hw : ∀ d ∈ tables_1, d.before a0 Z = true) (ws : List Jvm.Cond) (p0 : Int32)  (h0 : Heap) (n0 : Nat) (Z0 : n0 ≤ h0.size)  :
    MetFree l x (head1 (Jvm.Cond.code x code maxLocals ret :: ws) room_1) (fun a U => a = #[(.int p0)] ∧ Z.Warmed39 U.vm ∧ U.heap = h0) (fun _ _ _ _ _ => True) (fun _ U o U' => ∃ v L, o = .returned v ∧ Q0 Z p0 h0 n0 v U'.heap L ∧ FrameEnd U o U' L room_1.cells room_1.slots) := by
  refine MetFree.of_bodySF (plainFor_of_name pn_com_example_quintet_quintet_card_PinCommandsDataLengthPinLaw) hisR ?_
  intro p e s m args below meth c s₁ Bd hml0 hP hK
  obtain ⟨rfl, hZ, hh⟩ := hP
  have hx := Bd.exec
  have hby := Bd.bytes
  have hml : c.maxLocals = 4 := hml0
  have hown : s.vm.findClass "com/example/quintet/quintet/card/PinCommandsDataLengthPinLaw" = some m.cls := findClass_of_methodNamed Bd.named
  have hnm := (name_of_methodNamed Bd.named Bd.method).1
  have X0 : Stand p l e room_1 s m #[(.int p0)] below meth c s₁ [] 0 0 := Stand.of_body Bd
  have e0 : s₁.heap = h0 := by rw [← hh, Bd.state]; rfl
  have N0 := Fr.nil n0
  obtain ⟨G, hG⟩ : ∃ z, z = s₁.setTop (entryFrame m #[(.int p0)] maxLocals) := ⟨_, rfl⟩
  have pre0 : Lead p e below G (s₁.setTop (mkF m 0 #[.val (.int p0), .unset, .unset, .unset] [])) := fun t k => by rw [hG]; exact castTop (ef_0 m p0) k
  have pre1 : Lead p e below G (s₁.setTop (mkF m 7 #[.val (.int p0), .val (.int ((p0 &&& (2147483647 : Int32)) - ((p0 &&& (2147483647 : Int32)) / (5 : Int32)) * (5 : Int32))), .unset, .unset] [])) := fun t k => by
    refine pre0 t ?_
    show Steps p.tables e below (s₁.setTop (mkF m 0 #[.val (.int p0), .unset, .unset, .unset] [])) _
    refine XS.iloadN X0.here hx rfl (hb hby at_0) rfl ?_
    show Steps p.tables e below (s₁.setTop (mkF m 1 #[.val (.int p0), .unset, .unset, .unset] [(.int p0)])) _
    refine X0.ldcInt hx hown (mvT hZ (hw _ (List.mem_of_getElem? (i := 0) rfl))) (g := (mkF m 1 #[.val (.int p0), .unset, .unset, .unset] [(.int p0)])) rfl (hb hby at_1) _ ?_
    show Steps p.tables e below (s₁.setTop (mkF m 3 #[.val (.int p0), .unset, .unset, .unset] [(.int (2147483647 : Int32)), (.int p0)])) _
    refine XS.iand X0.here hx rfl (hb hby at_3) rfl ?_
    show Steps p.tables e below (s₁.setTop (mkF m 4 #[.val (.int p0), .unset, .unset, .unset] [(.int (p0 &&& (2147483647 : Int32)))])) _
    refine XS.iconst X0.here hx rfl (hb hby at_4) ?_
    show Steps p.tables e below (s₁.setTop (mkF m 5 #[.val (.int p0), .unset, .unset, .unset] [(.int (5 : Int32)), (.int (p0 &&& (2147483647 : Int32)))])) _
    refine XS.irem X0.here hx rfl (hb hby at_5) rfl (by decide) ?_
    show Steps p.tables e below (s₁.setTop (mkF m 6 #[.val (.int p0), .unset, .unset, .unset] [(.int ((p0 &&& (2147483647 : Int32)) - ((p0 &&& (2147483647 : Int32)) / (5 : Int32)) * (5 : Int32)))])) _
    refine XS.istoreN X0.here hx rfl (hb hby at_6) rfl (l' := #[.val (.int p0), .val (.int ((p0 &&& (2147483647 : Int32)) - ((p0 &&& (2147483647 : Int32)) / (5 : Int32)) * (5 : Int32))), .unset, .unset]) rfl ?_
    show Steps p.tables e below (s₁.setTop (mkF m 7 #[.val (.int p0), .val (.int ((p0 &&& (2147483647 : Int32)) - ((p0 &&& (2147483647 : Int32)) / (5 : Int32)) * (5 : Int32))), .unset, .unset] [])) _
    exact k
  obtain ⟨v2, hv2⟩ : ∃ z : Int32, z = ((p0 &&& (2147483647 : Int32)) - ((p0 &&& (2147483647 : Int32)) / (5 : Int32)) * (5 : Int32)) := ⟨_, rfl⟩
  have pre2 : Lead p e below G (s₁.setTop (mkF m 7 #[.val (.int p0), .val (.int v2), .unset, .unset] [])) := by rw [hv2]; exact pre1
  have pre11 : Lead p e below G (s₁.setTop (mkF m 68 #[.val (.int p0), .val (.int v2), .val (.int (if v2 = (0 : Int32) then (32 : Int32) else (if v2 = (1 : Int32) then (36 : Int32) else (if v2 = (2 : Int32) then (38 : Int32) else (if v2 = (3 : Int32) then (40 : Int32) else (44 : Int32)))))), .val (.int (if v2 = (0 : Int32) then (8 : Int32) else (if v2 = (1 : Int32) then (16 : Int32) else (if v2 = (2 : Int32) then (8 : Int32) else (if v2 = (3 : Int32) then (8 : Int32) else (16 : Int32))))))] [])) := fun t k => by
    refine pre2 t ?_
    show Steps p.tables e below (s₁.setTop (mkF m 7 #[.val (.int p0), .val (.int v2), .unset, .unset] [])) _
    refine XS.iloadN X0.here hx rfl (hb hby at_7) rfl ?_
    show Steps p.tables e below (s₁.setTop (mkF m 8 #[.val (.int p0), .val (.int v2), .unset, .unset] [(.int v2)])) _
    have j10 : ∀ t, Steps p.tables e below (s₁.setTop (mkF m 68 #[.val (.int p0), .val (.int v2), .val (.int (if v2 = (0 : Int32) then (32 : Int32) else (if v2 = (1 : Int32) then (36 : Int32) else (if v2 = (2 : Int32) then (38 : Int32) else (if v2 = (3 : Int32) then (40 : Int32) else (44 : Int32)))))), .val (.int (if v2 = (0 : Int32) then (8 : Int32) else (if v2 = (1 : Int32) then (16 : Int32) else (if v2 = (2 : Int32) then (8 : Int32) else (if v2 = (3 : Int32) then (8 : Int32) else (16 : Int32))))))] [])) t → Steps p.tables e below (s₁.setTop (mkF m 8 #[.val (.int p0), .val (.int v2), .unset, .unset] [(.int v2)])) t := fun t k => by
      by_cases hc8_3 : v2 = (0 : Int32)
      · simp only [if_pos hc8_3] at k
        refine XS.ifNo X0.here hx rfl (hb hby at_8) rfl ((if0 _ _).trans (teq hc8_3).2) ?_
        show Steps p.tables e below (s₁.setTop (mkF m 11 #[.val (.int p0), .val (.int v2), .unset, .unset] [])) _
        refine XS.bipush X0.here hx rfl (hb hby at_11) ?_
        show Steps p.tables e below (s₁.setTop (mkF m 13 #[.val (.int p0), .val (.int v2), .unset, .unset] [(.int (32 : Int32))])) _
        refine XS.istoreN X0.here hx rfl (hb hby at_13) rfl (l' := #[.val (.int p0), .val (.int v2), .val (.int (32 : Int32)), .unset]) rfl ?_
        show Steps p.tables e below (s₁.setTop (mkF m 14 #[.val (.int p0), .val (.int v2), .val (.int (32 : Int32)), .unset] [])) _
        refine XS.bipush X0.here hx rfl (hb hby at_14) ?_
        show Steps p.tables e below (s₁.setTop (mkF m 16 #[.val (.int p0), .val (.int v2), .val (.int (32 : Int32)), .unset] [(.int (8 : Int32))])) _
        refine XS.istoreN X0.here hx rfl (hb hby at_16) rfl (l' := #[.val (.int p0), .val (.int v2), .val (.int (32 : Int32)), .val (.int (8 : Int32))]) rfl ?_
        show Steps p.tables e below (s₁.setTop (mkF m 17 #[.val (.int p0), .val (.int v2), .val (.int (32 : Int32)), .val (.int (8 : Int32))] [])) _
        refine XS.goto X0.here hx rfl (pc0 := 17) (pc' := 68) rfl (hb hby at_17) (by decide) (by decide) ?_
        show Steps p.tables e below (s₁.setTop (mkF m 68 #[.val (.int p0), .val (.int v2), .val (.int (32 : Int32)), .val (.int (8 : Int32))] [])) _
        exact k
      · simp only [if_neg hc8_3] at k
        refine XS.ifYes X0.here hx rfl (pc0 := 8) (pc' := 20) rfl (hb hby at_8) rfl ((if0 _ _).trans (feq hc8_3).2) (by decide) (by decide) ?_
        show Steps p.tables e below (s₁.setTop (mkF m 20 #[.val (.int p0), .val (.int v2), .unset, .unset] [])) _
        refine XS.iloadN X0.here hx rfl (hb hby at_20) rfl ?_
        show Steps p.tables e below (s₁.setTop (mkF m 21 #[.val (.int p0), .val (.int v2), .unset, .unset] [(.int v2)])) _
        refine XS.iconst X0.here hx rfl (hb hby at_21) ?_
        show Steps p.tables e below (s₁.setTop (mkF m 22 #[.val (.int p0), .val (.int v2), .unset, .unset] [(.int (1 : Int32)), (.int v2)])) _
        have j9 : ∀ t, Steps p.tables e below (s₁.setTop (mkF m 68 #[.val (.int p0), .val (.int v2), .val (.int (if v2 = (1 : Int32) then (36 : Int32) else (if v2 = (2 : Int32) then (38 : Int32) else (if v2 = (3 : Int32) then (40 : Int32) else (44 : Int32))))), .val (.int (if v2 = (1 : Int32) then (16 : Int32) else (if v2 = (2 : Int32) then (8 : Int32) else (if v2 = (3 : Int32) then (8 : Int32) else (16 : Int32)))))] [])) t → Steps p.tables e below (s₁.setTop (mkF m 22 #[.val (.int p0), .val (.int v2), .unset, .unset] [(.int (1 : Int32)), (.int v2)])) t := fun t k => by
          by_cases hc22_4 : v2 = (1 : Int32)
          · simp only [if_pos hc22_4] at k
            refine XS.icmpNo X0.here hx rfl (hb hby at_22) rfl (teq hc22_4).2 ?_
            show Steps p.tables e below (s₁.setTop (mkF m 25 #[.val (.int p0), .val (.int v2), .unset, .unset] [])) _
            refine XS.bipush X0.here hx rfl (hb hby at_25) ?_
            show Steps p.tables e below (s₁.setTop (mkF m 27 #[.val (.int p0), .val (.int v2), .unset, .unset] [(.int (36 : Int32))])) _
            refine XS.istoreN X0.here hx rfl (hb hby at_27) rfl (l' := #[.val (.int p0), .val (.int v2), .val (.int (36 : Int32)), .unset]) rfl ?_
            show Steps p.tables e below (s₁.setTop (mkF m 28 #[.val (.int p0), .val (.int v2), .val (.int (36 : Int32)), .unset] [])) _
            refine XS.bipush X0.here hx rfl (hb hby at_28) ?_
            show Steps p.tables e below (s₁.setTop (mkF m 30 #[.val (.int p0), .val (.int v2), .val (.int (36 : Int32)), .unset] [(.int (16 : Int32))])) _
            refine XS.istoreN X0.here hx rfl (hb hby at_30) rfl (l' := #[.val (.int p0), .val (.int v2), .val (.int (36 : Int32)), .val (.int (16 : Int32))]) rfl ?_
            show Steps p.tables e below (s₁.setTop (mkF m 31 #[.val (.int p0), .val (.int v2), .val (.int (36 : Int32)), .val (.int (16 : Int32))] [])) _
            refine XS.goto X0.here hx rfl (pc0 := 31) (pc' := 68) rfl (hb hby at_31) (by decide) (by decide) ?_
            show Steps p.tables e below (s₁.setTop (mkF m 68 #[.val (.int p0), .val (.int v2), .val (.int (36 : Int32)), .val (.int (16 : Int32))] [])) _
            exact k
          · simp only [if_neg hc22_4] at k
            refine XS.icmpYes X0.here hx rfl (pc0 := 22) (pc' := 34) rfl (hb hby at_22) rfl (feq hc22_4).2 (by decide) (by decide) ?_
            show Steps p.tables e below (s₁.setTop (mkF m 34 #[.val (.int p0), .val (.int v2), .unset, .unset] [])) _
            refine XS.iloadN X0.here hx rfl (hb hby at_34) rfl ?_
            show Steps p.tables e below (s₁.setTop (mkF m 35 #[.val (.int p0), .val (.int v2), .unset, .unset] [(.int v2)])) _
            refine XS.iconst X0.here hx rfl (hb hby at_35) ?_
            show Steps p.tables e below (s₁.setTop (mkF m 36 #[.val (.int p0), .val (.int v2), .unset, .unset] [(.int (2 : Int32)), (.int v2)])) _
            have j8 : ∀ t, Steps p.tables e below (s₁.setTop (mkF m 68 #[.val (.int p0), .val (.int v2), .val (.int (if v2 = (2 : Int32) then (38 : Int32) else (if v2 = (3 : Int32) then (40 : Int32) else (44 : Int32)))), .val (.int (if v2 = (2 : Int32) then (8 : Int32) else (if v2 = (3 : Int32) then (8 : Int32) else (16 : Int32))))] [])) t → Steps p.tables e below (s₁.setTop (mkF m 36 #[.val (.int p0), .val (.int v2), .unset, .unset] [(.int (2 : Int32)), (.int v2)])) t := fun t k => by
              by_cases hc36_5 : v2 = (2 : Int32)
              · simp only [if_pos hc36_5] at k
                refine XS.icmpNo X0.here hx rfl (hb hby at_36) rfl (teq hc36_5).2 ?_
                show Steps p.tables e below (s₁.setTop (mkF m 39 #[.val (.int p0), .val (.int v2), .unset, .unset] [])) _
                refine XS.bipush X0.here hx rfl (hb hby at_39) ?_
                show Steps p.tables e below (s₁.setTop (mkF m 41 #[.val (.int p0), .val (.int v2), .unset, .unset] [(.int (38 : Int32))])) _
                refine XS.istoreN X0.here hx rfl (hb hby at_41) rfl (l' := #[.val (.int p0), .val (.int v2), .val (.int (38 : Int32)), .unset]) rfl ?_
                show Steps p.tables e below (s₁.setTop (mkF m 42 #[.val (.int p0), .val (.int v2), .val (.int (38 : Int32)), .unset] [])) _
                refine XS.bipush X0.here hx rfl (hb hby at_42) ?_
                show Steps p.tables e below (s₁.setTop (mkF m 44 #[.val (.int p0), .val (.int v2), .val (.int (38 : Int32)), .unset] [(.int (8 : Int32))])) _
                refine XS.istoreN X0.here hx rfl (hb hby at_44) rfl (l' := #[.val (.int p0), .val (.int v2), .val (.int (38 : Int32)), .val (.int (8 : Int32))]) rfl ?_
                show Steps p.tables e below (s₁.setTop (mkF m 45 #[.val (.int p0), .val (.int v2), .val (.int (38 : Int32)), .val (.int (8 : Int32))] [])) _
                refine XS.goto X0.here hx rfl (pc0 := 45) (pc' := 68) rfl (hb hby at_45) (by decide) (by decide) ?_
                show Steps p.tables e below (s₁.setTop (mkF m 68 #[.val (.int p0), .val (.int v2), .val (.int (38 : Int32)), .val (.int (8 : Int32))] [])) _
                exact k
              · simp only [if_neg hc36_5] at k
                refine XS.icmpYes X0.here hx rfl (pc0 := 36) (pc' := 48) rfl (hb hby at_36) rfl (feq hc36_5).2 (by decide) (by decide) ?_
                show Steps p.tables e below (s₁.setTop (mkF m 48 #[.val (.int p0), .val (.int v2), .unset, .unset] [])) _
                refine XS.iloadN X0.here hx rfl (hb hby at_48) rfl ?_
                show Steps p.tables e below (s₁.setTop (mkF m 49 #[.val (.int p0), .val (.int v2), .unset, .unset] [(.int v2)])) _
                refine XS.iconst X0.here hx rfl (hb hby at_49) ?_
                show Steps p.tables e below (s₁.setTop (mkF m 50 #[.val (.int p0), .val (.int v2), .unset, .unset] [(.int (3 : Int32)), (.int v2)])) _
                have j7 : ∀ t, Steps p.tables e below (s₁.setTop (mkF m 68 #[.val (.int p0), .val (.int v2), .val (.int (if v2 = (3 : Int32) then (40 : Int32) else (44 : Int32))), .val (.int (if v2 = (3 : Int32) then (8 : Int32) else (16 : Int32)))] [])) t → Steps p.tables e below (s₁.setTop (mkF m 50 #[.val (.int p0), .val (.int v2), .unset, .unset] [(.int (3 : Int32)), (.int v2)])) t := fun t k => by
                  by_cases hc50_6 : v2 = (3 : Int32)
                  · simp only [if_pos hc50_6] at k
                    refine XS.icmpNo X0.here hx rfl (hb hby at_50) rfl (teq hc50_6).2 ?_
                    show Steps p.tables e below (s₁.setTop (mkF m 53 #[.val (.int p0), .val (.int v2), .unset, .unset] [])) _
                    refine XS.bipush X0.here hx rfl (hb hby at_53) ?_
                    show Steps p.tables e below (s₁.setTop (mkF m 55 #[.val (.int p0), .val (.int v2), .unset, .unset] [(.int (40 : Int32))])) _
                    refine XS.istoreN X0.here hx rfl (hb hby at_55) rfl (l' := #[.val (.int p0), .val (.int v2), .val (.int (40 : Int32)), .unset]) rfl ?_
                    show Steps p.tables e below (s₁.setTop (mkF m 56 #[.val (.int p0), .val (.int v2), .val (.int (40 : Int32)), .unset] [])) _
                    refine XS.bipush X0.here hx rfl (hb hby at_56) ?_
                    show Steps p.tables e below (s₁.setTop (mkF m 58 #[.val (.int p0), .val (.int v2), .val (.int (40 : Int32)), .unset] [(.int (8 : Int32))])) _
                    refine XS.istoreN X0.here hx rfl (hb hby at_58) rfl (l' := #[.val (.int p0), .val (.int v2), .val (.int (40 : Int32)), .val (.int (8 : Int32))]) rfl ?_
                    show Steps p.tables e below (s₁.setTop (mkF m 59 #[.val (.int p0), .val (.int v2), .val (.int (40 : Int32)), .val (.int (8 : Int32))] [])) _
                    refine XS.goto X0.here hx rfl (pc0 := 59) (pc' := 68) rfl (hb hby at_59) (by decide) (by decide) ?_
                    show Steps p.tables e below (s₁.setTop (mkF m 68 #[.val (.int p0), .val (.int v2), .val (.int (40 : Int32)), .val (.int (8 : Int32))] [])) _
                    exact k
                  · simp only [if_neg hc50_6] at k
                    refine XS.icmpYes X0.here hx rfl (pc0 := 50) (pc' := 62) rfl (hb hby at_50) rfl (feq hc50_6).2 (by decide) (by decide) ?_
                    show Steps p.tables e below (s₁.setTop (mkF m 62 #[.val (.int p0), .val (.int v2), .unset, .unset] [])) _
                    refine XS.bipush X0.here hx rfl (hb hby at_62) ?_
                    show Steps p.tables e below (s₁.setTop (mkF m 64 #[.val (.int p0), .val (.int v2), .unset, .unset] [(.int (44 : Int32))])) _
                    refine XS.istoreN X0.here hx rfl (hb hby at_64) rfl (l' := #[.val (.int p0), .val (.int v2), .val (.int (44 : Int32)), .unset]) rfl ?_
                    show Steps p.tables e below (s₁.setTop (mkF m 65 #[.val (.int p0), .val (.int v2), .val (.int (44 : Int32)), .unset] [])) _
                    refine XS.bipush X0.here hx rfl (hb hby at_65) ?_
                    show Steps p.tables e below (s₁.setTop (mkF m 67 #[.val (.int p0), .val (.int v2), .val (.int (44 : Int32)), .unset] [(.int (16 : Int32))])) _
                    refine XS.istoreN X0.here hx rfl (hb hby at_67) rfl (l' := #[.val (.int p0), .val (.int v2), .val (.int (44 : Int32)), .val (.int (16 : Int32))]) rfl ?_
                    show Steps p.tables e below (s₁.setTop (mkF m 68 #[.val (.int p0), .val (.int v2), .val (.int (44 : Int32)), .val (.int (16 : Int32))] [])) _
                    exact k
                refine j7 _ ?_
                show Steps p.tables e below (s₁.setTop (mkF m 68 #[.val (.int p0), .val (.int v2), .val (.int (if v2 = (3 : Int32) then (40 : Int32) else (44 : Int32))), .val (.int (if v2 = (3 : Int32) then (8 : Int32) else (16 : Int32)))] [])) _
                exact k
            refine j8 _ ?_
            show Steps p.tables e below (s₁.setTop (mkF m 68 #[.val (.int p0), .val (.int v2), .val (.int (if v2 = (2 : Int32) then (38 : Int32) else (if v2 = (3 : Int32) then (40 : Int32) else (44 : Int32)))), .val (.int (if v2 = (2 : Int32) then (8 : Int32) else (if v2 = (3 : Int32) then (8 : Int32) else (16 : Int32))))] [])) _
            exact k
        refine j9 _ ?_
        show Steps p.tables e below (s₁.setTop (mkF m 68 #[.val (.int p0), .val (.int v2), .val (.int (if v2 = (1 : Int32) then (36 : Int32) else (if v2 = (2 : Int32) then (38 : Int32) else (if v2 = (3 : Int32) then (40 : Int32) else (44 : Int32))))), .val (.int (if v2 = (1 : Int32) then (16 : Int32) else (if v2 = (2 : Int32) then (8 : Int32) else (if v2 = (3 : Int32) then (8 : Int32) else (16 : Int32)))))] [])) _
        exact k
    refine j10 _ ?_
    show Steps p.tables e below (s₁.setTop (mkF m 68 #[.val (.int p0), .val (.int v2), .val (.int (if v2 = (0 : Int32) then (32 : Int32) else (if v2 = (1 : Int32) then (36 : Int32) else (if v2 = (2 : Int32) then (38 : Int32) else (if v2 = (3 : Int32) then (40 : Int32) else (44 : Int32)))))), .val (.int (if v2 = (0 : Int32) then (8 : Int32) else (if v2 = (1 : Int32) then (16 : Int32) else (if v2 = (2 : Int32) then (8 : Int32) else (if v2 = (3 : Int32) then (8 : Int32) else (16 : Int32))))))] [])) _
    exact k
  obtain ⟨v12, hv12⟩ : ∃ z : Int32, z = (if v2 = (0 : Int32) then (32 : Int32) else (if v2 = (1 : Int32) then (36 : Int32) else (if v2 = (2 : Int32) then (38 : Int32) else (if v2 = (3 : Int32) then (40 : Int32) else (44 : Int32))))) := ⟨_, rfl⟩
  have pre12 : Lead p e below G (s₁.setTop (mkF m 68 #[.val (.int p0), .val (.int v2), .val (.int v12), .val (.int (if v2 = (0 : Int32) then (8 : Int32) else (if v2 = (1 : Int32) then (16 : Int32) else (if v2 = (2 : Int32) then (8 : Int32) else (if v2 = (3 : Int32) then (8 : Int32) else (16 : Int32))))))] [])) := by rw [hv12]; exact pre11
  obtain ⟨v13, hv13⟩ : ∃ z : Int32, z = (if v2 = (0 : Int32) then (8 : Int32) else (if v2 = (1 : Int32) then (16 : Int32) else (if v2 = (2 : Int32) then (8 : Int32) else (if v2 = (3 : Int32) then (8 : Int32) else (16 : Int32))))) := ⟨_, rfl⟩
  have pre13 : Lead p e below G (s₁.setTop (mkF m 68 #[.val (.int p0), .val (.int v2), .val (.int v12), .val (.int v13)] [])) := by rw [hv13]; exact pre12
  have pre14 : Lead p e below G (s₁.setTop (mkF m 69 #[.val (.int p0), .val (.int v2), .val (.int v12), .val (.int v13)] [(.int v12)])) := fun t k => by
    refine pre13 t ?_
    show Steps p.tables e below (s₁.setTop (mkF m 68 #[.val (.int p0), .val (.int v2), .val (.int v12), .val (.int v13)] [])) _
    refine XS.iloadN X0.here hx rfl (hb hby at_68) rfl ?_
    show Steps p.tables e below (s₁.setTop (mkF m 69 #[.val (.int p0), .val (.int v2), .val (.int v12), .val (.int v13)] [(.int v12)])) _
    exact k
  obtain ⟨_, _, ⟨T15, L15, k15, n15⟩, -, X15, ⟨Lc15, hQ15, l15, y15, z15⟩, st15⟩ := Jvm.LawKit.callS X0 hx (y := (⟨"com/example/quintet/quintet/card/PinCommands", "dataLength", "(I)I"⟩ : MethodName)) hown (mvT hZ (hw _ (List.mem_of_getElem? (i := 1) rfl))) (mvT hZ (hw _ (List.mem_of_getElem? (i := 2) rfl))) (mvT hZ (hw _ (List.mem_of_getElem? (i := 3) rfl))) (mvT hZ (hw _ (List.mem_of_getElem? (i := 4) rfl))) (by decide) (backOf (W := 0) (rm1 l Z a0 hw [] v12 h0 n0 Z0) hZ (hw _ (List.mem_of_getElem? (i := 4) rfl)) (hw _ (List.mem_of_getElem? (i := 3) rfl)) (by decide) (by decide)) (g := (mkF m 69 #[.val (.int p0), .val (.int v2), .val (.int v12), .val (.int v13)] [(.int v12)])) rfl (by rw [hml]; rfl) (argsL := [(.int v12)]) (rest := []) (lenOf pd__28_I_29_I rfl) rfl (by show 2 * 0 + _ ≤ _; exact Nat.le_of_eq rfl) (hb hby at_69) (fun _ _ => ⟨rfl, e0, (by decide : 0 + 0 ≤ _), (by decide : 0 + 0 ≤ _)⟩)
  dsimp only [Pt.U, Pt.locs, Pt.cells, Pt.slots] at X15 l15 y15 z15 st15 hQ15
  subst l15 y15 z15
  obtain ⟨rfl, N15q, e15⟩ := hQ15
  have N15 := Fr.app N0 N15q
  have pre15 : Lead p e below G (T15.setTop (mkF m 72 #[.val (.int p0), .val (.int v2), .val (.int v12), .val (.int v13)] [(.int (F1 v12))])) := fun t k => pre14 t (st15 _ k)
  obtain ⟨fs, hr, hrun, hended, hW, hsame⟩ := X15.leave (v := some (.int (nar .boolean (if (F1 v12) = v13 then (1 : Int32) else (0 : Int32))))) (fun h => by rw [Bd.returns] at h; cases h)
  subst hG
  refine ⟨_, _, pre15 _ ?_, hrun, hended, _, _, rfl, ?_, ⟨_, rfl⟩, hW, hsame.mono (by decide) (by decide)⟩
  · show Steps p.tables e below (T15.setTop (mkF m 72 #[.val (.int p0), .val (.int v2), .val (.int v12), .val (.int v13)] [(.int (F1 v12))])) _
    refine XS.iloadN X15.here hx rfl (hb hby at_72) rfl ?_
    show Steps p.tables e below (T15.setTop (mkF m 73 #[.val (.int p0), .val (.int v2), .val (.int v12), .val (.int v13)] [(.int v13), (.int (F1 v12))])) _
    have j17 : ∀ t, Steps p.tables e below (T15.setTop (mkF m 81 #[.val (.int p0), .val (.int v2), .val (.int v12), .val (.int v13)] [(.int (if (F1 v12) = v13 then (1 : Int32) else (0 : Int32)))])) t → Steps p.tables e below (T15.setTop (mkF m 73 #[.val (.int p0), .val (.int v2), .val (.int v12), .val (.int v13)] [(.int v13), (.int (F1 v12))])) t := fun t k => by
      by_cases hc73_16 : (F1 v12) = v13
      · simp only [if_pos hc73_16] at k
        refine XS.icmpNo X15.here hx rfl (hb hby at_73) rfl (teq hc73_16).2 ?_
        show Steps p.tables e below (T15.setTop (mkF m 76 #[.val (.int p0), .val (.int v2), .val (.int v12), .val (.int v13)] [])) _
        refine XS.iconst X15.here hx rfl (hb hby at_76) ?_
        show Steps p.tables e below (T15.setTop (mkF m 77 #[.val (.int p0), .val (.int v2), .val (.int v12), .val (.int v13)] [(.int (1 : Int32))])) _
        refine XS.goto X15.here hx rfl (pc0 := 77) (pc' := 81) rfl (hb hby at_77) (by decide) (by decide) ?_
        show Steps p.tables e below (T15.setTop (mkF m 81 #[.val (.int p0), .val (.int v2), .val (.int v12), .val (.int v13)] [(.int (1 : Int32))])) _
        exact k
      · simp only [if_neg hc73_16] at k
        refine XS.icmpYes X15.here hx rfl (pc0 := 73) (pc' := 80) rfl (hb hby at_73) rfl (feq hc73_16).2 (by decide) (by decide) ?_
        show Steps p.tables e below (T15.setTop (mkF m 80 #[.val (.int p0), .val (.int v2), .val (.int v12), .val (.int v13)] [])) _
        refine XS.iconst X15.here hx rfl (hb hby at_80) ?_
        show Steps p.tables e below (T15.setTop (mkF m 81 #[.val (.int p0), .val (.int v2), .val (.int v12), .val (.int v13)] [(.int (0 : Int32))])) _
        exact k
    refine j17 _ ?_
    show Steps p.tables e below (T15.setTop (mkF m 81 #[.val (.int p0), .val (.int v2), .val (.int v12), .val (.int v13)] [(.int (if (F1 v12) = v13 then (1 : Int32) else (0 : Int32)))])) _
    exact retN X15 hx (t := .boolean) Bd.returns (by simp) (hb hby at_81) hr
  · show Q0 Z p0 h0 n0 _ T15.heap _
    rw [e15]
    refine ⟨congrArg (fun z => some (Value.int z)) (Eq.trans (?_ : (nar .boolean (if (F1 v12) = v13 then (1 : Int32) else (0 : Int32))) = F0 p0) (own_law p0)), N15⟩
    subst hv13 hv12 hv2
    rfl
set_option maxRecDepth 65536 in
set_option maxHeartbeats 40000000 in
theorem comes_1 {Post : Tables → Env → Array Value → State → Outcome → State → Prop} (hpost : ∀ tb e args s v u, (limb_1_1.after args s (.returned v) u = true ∧ limb_1_2.after args s (.returned v) u = true ∧ True) → FrameEnd s (.returned v) u (Jvm.fieldLocs frame_1_writes args s ++ Jvm.arrayLocs frame_1_arrays args s ++ Jvm.staticLocs frame_1_statics s) 0 0 → Post tb e args s (.returned v) u) :
    ArmFor flags0 classFile x code maxLocals ret World_1 tables_1 room_1 Calls_1 rest_1 Pre_1 Post := by
  intro l hfl _ _ p e ha hc hk s m args below hf hA hF happ hP
  obtain ⟨hcalls, hrest, hpre⟩ := hP
  obtain ⟨-, -, -, hnamed, -, -, -, hat⟩ := (Spec.applies_iff hf).mp happ
  obtain ⟨hg, hn⟩ := and_e (Cond.before_iff.mp (show (Jvm.Cond.and given_1 narrow_1).before args s = true from hpre))
  obtain ⟨g1, g2⟩ := and_e hg
  obtain ⟨w0, rfl⟩ : ∃ w0 : Value, args = #[w0] := by
    have hs : args.size = 1 := by simpa [Cond.value, given_1] using g1
    obtain ⟨L⟩ := args
    match L, hs with
    | [w0], _ => exact ⟨w0, rfl⟩
  have hw := fun d (hd : d ∈ tables_1) => atoms_spec (ws := Jvm.Cond.code x code maxLocals ret :: tables_1) hat d (List.mem_cons_of_mem _ hd)
  obtain ⟨i0, ei0⟩ := is_v g2
  obtain rfl : w0 = (.int i0) := Option.some.inj ei0
  obtain ⟨n, o, h1, h2, h3, _, L, rfl, ⟨rfl, N⟩, hq⟩ := rm0 l s _ hw tables_1 i0 s.heap s.heap.size (Nat.le_refl _) p e ha hc hk s m _ below hf ((Spec.applies_iff_loose hf).mp happ).1 ⟨rfl, State.Warmed39.refl s, rfl⟩ trivial
  refine ⟨n, _, h1, h2, h3, hpost _ _ _ _ _ _ ⟨Cond.after_iff.mpr rfl, Cond.after_iff.mpr (eq_i res_at (Term.int_eval (1)) rfl), trivial⟩ ⟨hq.1, hq.2.1, (hq.2.2.sift fun y hy => Or.inr (N y hy)).mono (by decide) (by decide)⟩⟩
theorem main_1_1 : Claimed_1_1 := comes_1 fun _ _ _ _ _ _ h hF => ⟨h.1, hF⟩
theorem main_1_2 : Claimed_1_2 := comes_1 fun _ _ _ _ _ _ h hF => ⟨h.2.1, hF⟩
end Jvm.Pilot.@@N@@
namespace Jvm.Pilot.@@N@@
open Jvm Jvm.ClassFile Sem Op Lib Jvm.Free Jvm.Stand Jvm.Pilot.@@N@@.Jvm.D
/-! MADE BY PROGRAM (witnessworld.py) out of the Statement's table words and the real class files: 9 classes; the members and pool entries that the words name. The judged class is class 1, her method 1. -/
namespace start1
open Jvm.ClassFile
def u (s : String) : CpInfo := .utf8 (stringToUtf16 s)
/-- a pool by its gaps: so many unusable entries, then the entry; so many at the end -/
def gap : Nat → List CpInfo → List CpInfo
  | 0, r => r
  | n + 1, r => .unusable :: gap n r
def poolList (es : List (Nat × CpInfo)) (last : Nat) : List CpInfo := es.foldr (fun e r => gap e.1 (e.2 :: r)) (gap last [])
def pool (es : List (Nat × CpInfo)) (last : Nat) : Array CpInfo := ⟨poolList es last⟩
def fileOf (pool : Array CpInfo) (this : Nat) (attrs : Array Attribute := #[]) (ms : Array MethodInfo := #[]) (fl : Nat := 33) (sup : Nat := 0) (ifs : Array Nat := #[]) (fds : Array FieldInfo := #[]) : ClassFile where
  minorVersion := 0
  majorVersion := 65
  constantPool := pool
  accessFlags := fl
  thisClass := this
  superClass := sup
  interfaces := ifs
  fields := fds
  methods := ms
  attributes := attrs
def plain (name : String) (sup : Option ClassId) : Class where
  name := name
  kind := .ordinary
  loader := none
  accessFlags := 33
  super := sup
  interfaces := #[]
  cf := none
  fields := #[]
  methods := #[]
  instanceTypes := #[]
  staticTypes := #[]
  resolved := #[]
  callSites := []
  init := .initialized
  statics := none
  mirror := none

def pool0 : Array CpInfo := pool [(5, u "<init>"), (0, u "()V"), (1, .class_ 10), (1, u "java/lang/Object")] 113

def k0m0 : Method := { name := "<init>", desc := "()V", sig := { parameters := [], returnType := none }, accessFlags := 1, code := none }
/-- java/lang/Object -/
def k0 : Class := { plain "java/lang/Object" none with
  accessFlags := 33
  interfaces := #[]
  cf := some (fileOf pool0 8 #[] #[{ accessFlags := 1, nameIndex := 5, descriptorIndex := 6, attributes := #[] }] 33 0 #[] #[])
  fields := #[]
  methods := #[k0m0]
  instanceTypes := #[]
  staticTypes := #[]
  resolved := Array.replicate 124 none
  statics := none }

def pool1 : Array CpInfo := pool [(2, .class_ 4), (1, u "java/lang/Object"), (0, u "<init>"), (0, u "()V"), (0, .integer 2147483647), (0, .methodref 9 10), (0, .class_ 11), (0, .nameAndType 12 13), (0, u "com/example/quintet/quintet/card/PinCommands"), (0, u "dataLength"), (0, u "(I)I"), (0, .class_ 15), (0, u "com/example/quintet/quintet/card/PinCommandsDataLengthPinLaw"), (2, u "law"), (0, u "(I)Z")] 3

def k1m0 : Method := { name := "<init>", desc := "()V", sig := { parameters := [], returnType := none }, accessFlags := 1, code := none }
def k1c1 : Code := { maxStack := 2, maxLocals := 4, code := code, exceptionTable := #[], attributes := #[] }
def k1m1 : Method := { name := "law", desc := "(I)Z", sig := { parameters := [.int], returnType := some .boolean }, accessFlags := 9, code := some k1c1 }
/-- com/example/quintet/quintet/card/PinCommandsDataLengthPinLaw -/
def k1 : Class := { plain "com/example/quintet/quintet/card/PinCommandsDataLengthPinLaw" (some 0) with
  accessFlags := 49
  interfaces := #[]
  cf := some (fileOf pool1 14 #[] #[{ accessFlags := 1, nameIndex := 5, descriptorIndex := 6, attributes := #[] }, { accessFlags := 9, nameIndex := 18, descriptorIndex := 19, attributes := #[] }] 49 2 #[] #[])
  fields := #[]
  methods := #[k1m0, k1m1]
  instanceTypes := #[]
  staticTypes := #[]
  resolved := Array.replicate 23 none
  statics := none }

def pool2 : Array CpInfo := pool [(4, .class_ 6), (1, u "java/lang/Object"), (0, u "<init>"), (0, u "()V"), (0, .class_ 10), (0, u "com/example/quintet/quintet/card/PinCommands"), (87, .class_ 99), (0, u "com/example/quintet/quintet/card/PinCommands$Outcome"), (28, u "INS_VERIFY"), (0, u "I"), (2, u "INS_CHANGE"), (1, u "INS_DISABLE"), (1, u "INS_ENABLE"), (1, u "INS_UNBLOCK"), (3, u "dataLength"), (0, u "(I)I")] 51

def k2m0 : Method := { name := "<init>", desc := "()V", sig := { parameters := [], returnType := none }, accessFlags := 2, code := none }
def k2c1 : Code := { maxStack := 2, maxLocals := 2, code := prog_31_method_2_code, exceptionTable := #[], attributes := #[] }
def k2m1 : Method := { name := "dataLength", desc := "(I)I", sig := { parameters := [.int], returnType := some .int }, accessFlags := 8, code := some k2c1 }
/-- com/example/quintet/quintet/card/PinCommands -/
def k2 : Class := { plain "com/example/quintet/quintet/card/PinCommands" (some 0) with
  accessFlags := 48
  interfaces := #[]
  cf := some (fileOf pool2 9 #[.nestMembers #[98]] #[{ accessFlags := 2, nameIndex := 7, descriptorIndex := 8, attributes := #[] }, { accessFlags := 8, nameIndex := 142, descriptorIndex := 143, attributes := #[] }] 48 4 #[] #[{ accessFlags := 24, nameIndex := 128, descriptorIndex := 129, attributes := #[] }, { accessFlags := 24, nameIndex := 132, descriptorIndex := 129, attributes := #[] }, { accessFlags := 24, nameIndex := 134, descriptorIndex := 129, attributes := #[] }, { accessFlags := 24, nameIndex := 136, descriptorIndex := 129, attributes := #[] }, { accessFlags := 24, nameIndex := 138, descriptorIndex := 129, attributes := #[] }])
  fields := #[{ name := "INS_VERIFY", type := .int, accessFlags := 24, slot := 0, constantValue := 0 }, { name := "INS_CHANGE", type := .int, accessFlags := 24, slot := 1, constantValue := 0 }, { name := "INS_DISABLE", type := .int, accessFlags := 24, slot := 2, constantValue := 0 }, { name := "INS_ENABLE", type := .int, accessFlags := 24, slot := 3, constantValue := 0 }, { name := "INS_UNBLOCK", type := .int, accessFlags := 24, slot := 4, constantValue := 0 }]
  methods := #[k2m0, k2m1]
  instanceTypes := #[]
  staticTypes := #[.int, .int, .int, .int, .int]
  resolved := Array.replicate 195 none
  statics := none }

def pool3 : Array CpInfo := pool [(1, u "java/lang/Cloneable"), (0, .class_ 1), (0, u "java/lang/Object"), (0, .class_ 3)] 3

/-- java/lang/Cloneable -/
def k3 : Class := { plain "java/lang/Cloneable" (some 0) with
  accessFlags := 1537
  interfaces := #[]
  cf := some (fileOf pool3 2 #[] #[] 1537 4 #[] #[])
  fields := #[]
  methods := #[]
  instanceTypes := #[]
  staticTypes := #[]
  resolved := Array.replicate 8 none
  statics := none }

def pool4 : Array CpInfo := pool [(1, u "java/io/Serializable"), (0, .class_ 1), (0, u "java/lang/Object"), (0, .class_ 3)] 3

/-- java/io/Serializable -/
def k4 : Class := { plain "java/io/Serializable" (some 0) with
  accessFlags := 1537
  interfaces := #[]
  cf := some (fileOf pool4 2 #[] #[] 1537 4 #[] #[])
  fields := #[]
  methods := #[]
  instanceTypes := #[]
  staticTypes := #[]
  resolved := Array.replicate 8 none
  statics := none }

/-- the primitive byte -/
def k5 : Class := { plain "byte" none with kind := .primitive 'B', accessFlags := 0x411 }
/-- [B -/
def k6 : Class := { plain "[B" (some 0) with kind := .array 5 .byte, interfaces := #[3, 4], accessFlags := 1041 }

/-- the primitive int -/
def k7 : Class := { plain "int" none with kind := .primitive 'I', accessFlags := 0x411 }
/-- [I -/
def k8 : Class := { plain "[I" (some 0) with kind := .array 7 .int, interfaces := #[3, 4], accessFlags := 1041 }

def heap : Heap := #[]
def classes : Array Class := #[k0, k1, k2, k3, k4, k5, k6, k7, k8]
def interned : List (Array UInt16 × Addr) := []
def slotsUsed : Nat := 0
def theMethod : MethodId := ⟨1, 1⟩
def args0 : Array Value := #[.int 5]
def aboutOver (below : List Frame) : State where
  vm := { classes := classes, interned := interned.toArray }
  heap := heap
  slotsUsed := slotsUsed
  threads := #[{ frames := .invoking theMethod args0 :: below }]
def below0 : List Frame := [.native { method := ⟨0, 0⟩, args := #[] }]
def about1 : State := aboutOver below0
def p0 : Program := .bare "" "" ""
def e0 : Env := launch0.env 0 0 0
theorem w_frames : about1.frames = Frame.invoking theMethod args0 :: below0 := rfl
set_option maxRecDepth 65536 in
theorem w_args : argsFit about1.vm theMethod args0 = true := by decide +kernel
set_option maxRecDepth 65536 in
theorem w_heap : heapFits about1 = true := by decide +kernel
set_option maxRecDepth 65536 in
theorem w_runnable : about1.curStatus? = some .runnable := by decide +kernel
set_option maxRecDepth 65536 in
theorem w_alone : about1.alone = true := by decide +kernel
set_option maxRecDepth 65536 in
theorem w_named : about1.methodNamed? x = some theMethod := by decide +kernel
set_option maxRecDepth 65536 in
theorem w_hears : about1.hears theMethod below0 = true := by decide +kernel
set_option maxRecDepth 65536 in
theorem w_ripe : about1.ripe theMethod args0 below0 = true := by decide +kernel
theorem w_running : about1.status = .running := rfl
set_option maxRecDepth 65536 in
theorem w_room : about1.hasRoom e0.platform room_1 = true :=
  launch0.hasRoom_least _ room_1 (by decide +kernel) (by decide +kernel) (by decide +kernel) (by decide +kernel) (by decide +kernel) (by decide +kernel)
theorem allAtoms_all (ts : List Jvm.Cond) (a : Array Jvm.Value) (st : Jvm.State) : (allAtoms ts).before a st = ts.all (fun c => c.before a st) := by
  induction ts with
  | nil => rfl
  | cons c t ih =>
    show (Jvm.Cond.and c (allAtoms t)).before a st = _
    rw [Jvm.Cond.before_and, ih, List.all_cons]
def words1 : List Jvm.Cond := Jvm.Cond.code x code maxLocals ret :: tables_1
/-- a 'code' word, met by the world's own term for the bytes: nothing is compared byte by byte -/
theorem code_word {y : MethodName} {bytes : ByteArray} {mx : Nat} {rt : Option FieldType} {a : Array Value} {s : State} {m : MethodId} {meth : Method} {c : Code} (h1 : s.methodNamed? y = some m) (h2 : s.vm.method? m = some meth) (h3 : meth.code = some c) (h4 : c.code = bytes)
    (h5 : (c.maxLocals == mx && c.exceptionTable.isEmpty && decide (c.maxStack ≤ mostOperands) && decide (meth.sig.returnType = rt) && !meth.locks && decide (parseMethodDescriptor y.desc = some meth.sig)) = true) : (Jvm.Cond.code y bytes mx rt).before a s = true := by
  simp only [Bool.and_eq_true, beq_iff_eq, Bool.not_eq_true', decide_eq_true_eq] at h5
  obtain ⟨⟨⟨⟨⟨g1, g2⟩, g3⟩, g4⟩, g5⟩, g6⟩ := h5
  simp [Cond.before, Cond.holds, Cond.value, h1, h2, h3, h4, g1, g2, g3, g4, g5, g6]
def isCode : Jvm.Cond → Bool
  | .code _ _ _ _ => true
  | _ => false
theorem all_split {L : List Jvm.Cond} {P : Jvm.Cond → Bool} (h1 : L.all (fun c => isCode c || P c) = true) (h2 : ∀ c ∈ L.filter isCode, P c = true) : L.all P = true := by
  refine List.all_eq_true.mpr fun c hc => ?_
  have h := List.all_eq_true.mp h1 c hc
  rcases Bool.eq_false_or_eq_true (isCode c) with hi | hi
  · exact h2 c (List.mem_filter.mpr ⟨hc, hi⟩)
  · simpa [hi] using h
set_option maxRecDepth 65536 in
theorem w_c0 : (Jvm.Cond.code x code maxLocals ret).before args0 about1 = true := code_word (m := ⟨1, 1⟩) (meth := k1m1) (c := k1c1) (by decide +kernel) rfl rfl rfl (by decide +kernel)
set_option maxRecDepth 65536 in
theorem w_c1 : (Jvm.Cond.code ({ cls := "com/example/quintet/quintet/card/PinCommands", name := "dataLength", desc := "(I)I" } : Jvm.MethodName) prog_31_method_2_code (2 : Nat) (Option.some Jvm.ClassFile.FieldType.int)).before args0 about1 = true := code_word (m := ⟨2, 1⟩) (meth := k2m1) (c := k2c1) (by decide +kernel) rfl rfl rfl (by decide +kernel)
def codes1 : List Jvm.Cond := [Jvm.Cond.code x code maxLocals ret, Jvm.Cond.code ({ cls := "com/example/quintet/quintet/card/PinCommands", name := "dataLength", desc := "(I)I" } : Jvm.MethodName) prog_31_method_2_code (2 : Nat) (Option.some Jvm.ClassFile.FieldType.int)]
set_option maxRecDepth 65536 in
theorem codes_eq : words1.filter isCode = codes1 := rfl
theorem w_codes : ∀ c ∈ words1.filter isCode, c.before args0 about1 = true := by
  rw [codes_eq]
  intro c hc
  simp only [codes1, List.mem_cons, List.not_mem_nil, or_false] at hc
  rcases hc with rfl | rfl
  · exact w_c0
  · exact w_c1
set_option maxRecDepth 65536 in
theorem w_t1 : words1.all (fun c => isCode c || c.before args0 about1) = true := by decide +kernel
theorem w_tables : (allAtoms (Jvm.Cond.code x code maxLocals ret :: tables_1)).before args0 about1 = true := by
  rw [allAtoms_all]
  show words1.all (fun c => c.before args0 about1) = true
  refine all_split ?_ w_codes
  rw [w_t1]
set_option maxRecDepth 65536 in
theorem w_case : (Jvm.Cond.and given_1 narrow_1).before args0 about1 = true := by decide +kernel
theorem w_applies : (headSpec (Jvm.Cond.code x code maxLocals ret :: tables_1) room_1).applies x e0.platform about1 = true :=
  (Spec.applies_iff w_frames).mpr ⟨w_running, w_runnable, w_alone, w_named, w_hears, w_ripe, w_room, w_tables⟩
theorem atStart : AtStart classFile x code maxLocals ret World_1 tables_1 room_1 Calls_1 rest_1 Pre_1 launch0 p0 e0 about1 theMethod args0 below0 :=
  ⟨lists_1, trivial, launch0.admits_env _ _ _, launch0.least_env, fairChoices_fair.cas, fairChoices_fair.clock, w_frames, w_args, w_heap, w_applies, trivial, trivial, w_case⟩
end start1
theorem witness_1 : WitnessClaimed_1 := ⟨start1.p0, start1.e0, start1.about1, start1.theMethod, start1.args0, start1.below0, start1.atStart⟩
end Jvm.Pilot.@@N@@

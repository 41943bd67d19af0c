import JvmDerived
import JvmDerived.Pilot.@@N@@Statement
import JvmDerived.Pilot.@@N@@Code
set_option linter.unusedVariables false
set_option linter.unusedSimpArgs false
@@BLOCK:NumsL.lean.txt@@
@@BLOCK:Masks.lean.txt@@
namespace Jvm.RoadKit
open Sem ClassFile Op Lib Jvm.Stand Jvm.Free Jvm.LawKit
section New
variable {p : Program} {l : Launch} {e : Env} {R : Room} {s : State} {m : MethodId} {args : Array Value} {below : List Frame} {meth : Method} {c : Code} {T : State} {locs : List Loc} {cells slots : Nat}
theorem retI (X : Stand p l e R s m args below meth c T locs cells slots) (hx : p.tables.exec = Jvm.exec) {pc : Nat} {Ls : Array Slot} {z : Int32} {rest : List Value} (hret : meth.sig.returnType = some .int) (hd : decode c.code pc = .ok (.ireturn, 1)) {fs : List Frame}
    (hl : ∀ (f : JFrame) (acts : List Action), f.method = m → f.locked = none → f.entered = [] → (doReturn e (T.setTop f) acts (some (.int z))).1 = T.setFrames fs) : Steps p.tables e below (T.setTop (mkF m pc Ls (.int z :: rest))) (T.setFrames fs) := by
  have hm' : T.vm.method? m = some meth := X.method'
  have hn : narrow .int (.int z) = .int z := rfl
  show Steps p.tables e below (T.setTop { method := m, pc := pc, locals := Ls, stack := _ :: rest, locked := none }) _
  jvm_step X.here [X.here.top, hx, hd, hm', hret, hn]
  first | (intro acts; rw [hl _ acts rfl rfl rfl]) | rw [hl _ _ rfl rfl rfl]
  exact Steps.refl _
theorem retJ (X : Stand p l e R s m args below meth c T locs cells slots) (hx : p.tables.exec = Jvm.exec) {pc : Nat} {Ls : Array Slot} {z : Int64} {rest : List Value} (hret : meth.sig.returnType = some .long) (hd : decode c.code pc = .ok (.lreturn, 1)) {fs : List Frame}
    (hl : ∀ (f : JFrame) (acts : List Action), f.method = m → f.locked = none → f.entered = [] → (doReturn e (T.setTop f) acts (some (.long z))).1 = T.setFrames fs) : Steps p.tables e below (T.setTop (mkF m pc Ls (.long z :: rest))) (T.setFrames fs) := by
  have hm' : T.vm.method? m = some meth := X.method'
  have hn : narrow .long (.long z) = .long z := rfl
  show Steps p.tables e below (T.setTop { method := m, pc := pc, locals := Ls, stack := _ :: rest, locked := none }) _
  jvm_step X.here [X.here.top, hx, hd, hm', hret, hn]
  first | (intro acts; rw [hl _ acts rfl rfl rfl]) | rw [hl _ _ rfl rfl rfl]
  exact Steps.refl _
end New
theorem own_ite {α : Type} {P : Prop} [Decidable P] {f : α → Prop} {a b : α} (ha : f a) (hb : f b) : f (if P then a else b) := by split <;> assumption
theorem own_lc_eq {x y : Int64} : lcmpW x y = 0 ↔ x = y := by rw [lcW]; exact lc_eq x y
theorem own_lc_lt {x y : Int64} : lcmpW x y < 0 ↔ x < y := by rw [lcW]; exact lc_lt x y
theorem own_lc_gt {x y : Int64} : 0 < lcmpW x y ↔ y < x := by rw [lcW]; exact lc_gt x y
end Jvm.RoadKit
namespace Jvm.RoadKit
open Sem ClassFile Op Lib Jvm.Stand Jvm.Free Jvm.LawKit
section Own
variable {Z : State} {h h' : Heap} {a b : Addr} {ty : FieldType} {n j : Int32} {sl : Nat} {v : Value} {ws : List Addr} {α : Type} {mk : α → Value} {g : Nat → α} {w : α}
/-- an array: its kind, its length and, by a function, what it holds -/
def JV (mk : α → Value) (Z : State) (h : Heap) (a : Addr) (ty : FieldType) (n : Int32) (g : Nat → α) : Prop := ∃ c : Cell, Arr Z h a c ty ∧ c.slots.size = n.toNatClampNeg ∧ ¬ n < 0 ∧ ∀ i, i < c.slots.size → c.slots[i]? = some (mk (g i))
def upd (g : Nat → α) (k : Nat) (w : α) : Nat → α := fun i => if i = k then w else g i
theorem JV.lt (F : JV mk Z h a ty n g) : a < h.size := by obtain ⟨c, A, -⟩ := F; exact A.lt
theorem JV.ext (F : JV mk Z h a ty n g) (E : Ext h h') : JV mk Z h' a ty n g := by obtain ⟨c, A, r⟩ := F; exact ⟨c, A.ext E, r⟩
theorem JV.other (F : JV mk Z h b ty n g) (W : Wr h h' a sl v) (q : b ≠ a) : JV mk Z h' b ty n g := by obtain ⟨c, A, r⟩ := F; exact ⟨c, A.other W q, r⟩
theorem JV.keep (F : JV mk Z h a ty n g) (K : Keep h h' ws) (q : a ∉ ws) : JV mk Z h' a ty n g := by obtain ⟨c, A, r⟩ := F; exact ⟨c, ⟨K.2.1 a c A.1 q, A.2⟩, r⟩
theorem JV.new {k : ClassId} (A : Arr Z h a (newA k ty n) ty) (q : ¬ n < 0) (w : α) (hd : defaultValue ty = mk w) : JV mk Z h a ty n (fun _ => w) := by
  obtain ⟨c, A', -, S, N, H, -⟩ := Arv.new A q
  exact ⟨c, A', S, N, fun i hi => by rw [H i hi, hd]; rfl⟩
theorem JV.in (F : JV mk Z h a ty n g) (q : ¬ j < 0 ∧ j < n) : ∃ c : Cell, Arr Z h a c ty ∧ ¬ (j < 0 ∨ c.slots.size ≤ j.toNatClampNeg) ∧ c.slots[j.toNatClampNeg]? = some (mk (g j.toNatClampNeg)) := by
  obtain ⟨c, A, S, N, H⟩ := F
  have hin := inb_of S q
  exact ⟨c, A, hin, H _ (Nat.lt_of_not_le fun y => hin (Or.inr y))⟩
theorem JV.len (F : JV mk Z h a ty n g) : ∃ c : Cell, Arr Z h a c ty ∧ c.slots.size.toInt32 = n := by
  obtain ⟨c, A, S, N, H⟩ := F
  exact ⟨c, A, len_of S N⟩
theorem JV.nn (F : JV mk Z h a ty n g) : ¬ n < 0 := by obtain ⟨c, A, S, N, H⟩ := F; exact N
theorem JV.set (F : JV mk Z h a ty n g) (W : Wr h h' a j.toNatClampNeg (mk w)) : JV mk Z h' a ty n (upd g j.toNatClampNeg w) := by
  obtain ⟨c, A, S, N, H⟩ := F
  refine ⟨_, A.same W, ?_, N, ?_⟩
  · rw [← S]; simp [Cell.setSlot]
  · intro i hi
    have hi' : i < c.slots.size := by simpa [Cell.setSlot] using hi
    obtain ⟨cell, h1, -, h3, rfl⟩ := W
    cases A.1.symm.trans h1
    by_cases e : i = j.toNatClampNeg
    · subst e; simp [Cell.setSlot, upd, hi']
    · rw [show (c.setSlot j.toNatClampNeg (mk w)).slots[i]? = c.slots[i]? from by simp [Cell.setSlot, Array.getElem?_setIfInBounds, Ne.symm e], H i hi']
      simp [upd, e]
end Own
end Jvm.RoadKit
namespace Jvm.Pilot.@@N@@
open Jvm Jvm.ClassFile Sem Op Lib Jvm.Free Jvm.Stand Jvm.LawKit Jvm.RoadKit Bundle Jvm.Pilot.@@N@@.Jvm.D
def Lead (p : Program) (e : Env) (below : List Frame) (A B : State) : Prop := ∀ t, Steps p.tables e below B t → Steps p.tables e below A t
theorem d1_0 : decode prog_5_method_2_code 0 = .ok (.iload_n 0, 1) := by decide +kernel
theorem d1_1 : decode prog_5_method_2_code 1 = .ok (.bipush 48, 2) := by decide +kernel
theorem d1_3 : decode prog_5_method_2_code 3 = .ok (.if_icmp .lt 13, 3) := by decide +kernel
theorem d1_6 : decode prog_5_method_2_code 6 = .ok (.iload_n 0, 1) := by decide +kernel
theorem d1_7 : decode prog_5_method_2_code 7 = .ok (.bipush 57, 2) := by decide +kernel
theorem d1_9 : decode prog_5_method_2_code 9 = .ok (.if_icmp .gt 7, 3) := by decide +kernel
theorem d1_12 : decode prog_5_method_2_code 12 = .ok (.iconst 1, 1) := by decide +kernel
theorem d1_13 : decode prog_5_method_2_code 13 = .ok (.goto 4, 3) := by decide +kernel
theorem d1_16 : decode prog_5_method_2_code 16 = .ok (.iconst 0, 1) := by decide +kernel
theorem d1_17 : decode prog_5_method_2_code 17 = .ok (.ireturn, 1) := by decide +kernel
def F1 (p0 : Int32) : Int32 := let v6 : Int32 := (if p0 < (48 : Int32) then (0 : Int32) else (if (57 : Int32) < p0 then (0 : Int32) else (1 : Int32))); (nar .boolean v6)
theorem pn_com_example_lean_throttle_leanthrottle_Digits : plainName "com/example/lean_throttle/leanthrottle/Digits" = true := by first | (simp [plainName, overriddenIn]; done) | decide +kernel
theorem ef_1 (m : MethodId) (p0 : Int32) : entryFrame m #[(.int p0)] 1 = mkF m 0 #[.val (.int p0)] [] := by first | (simp [entryFrame, mkF, argsToLocals, Value.category]; done) | rfl
def Q1 (Z : State) (p0 : Int32)  (h0 : Heap) (n0 : Nat) (v : Option Value) (h : Heap) (L : List Loc) : Prop := v = some (.int (F1 p0)) ∧ Fr n0 L ∧ h = h0
set_option maxRecDepth 65536 in
set_option maxHeartbeats 40000000 in
theorem rm1 (l : Launch) (Z : State) (a0 : Array Value) (hw : ∀ d ∈ tables_1, d.before a0 Z = true) (ws : List Jvm.Cond) (p0 : Int32)  (h0 : Heap) (n0 : Nat) (Z0 : n0 ≤ h0.size)  :
    MetFree l (⟨"com/example/lean_throttle/leanthrottle/Digits", "isDigit", "(C)Z"⟩ : MethodName) (head1 (Jvm.Cond.code (⟨"com/example/lean_throttle/leanthrottle/Digits", "isDigit", "(C)Z"⟩ : MethodName) prog_5_method_2_code 1 (some .boolean) :: ws) ({ frames := 0, cells := 0, slots := 0, locals := 0 } : Room)) (fun a U => a = #[(.int p0)] ∧ Z.Warmed39 U.vm ∧ U.heap = h0) (fun _ _ _ _ _ => True) (fun _ U o U' => ∃ v L, o = .returned v ∧ Q1 Z p0 h0 n0 v U'.heap L ∧ FrameEnd U o U' L ({ frames := 0, cells := 0, slots := 0, locals := 0 } : Room).cells ({ frames := 0, cells := 0, slots := 0, locals := 0 } : Room).slots) := by
  refine MetFree.of_bodySF (plainFor_of_name pn_com_example_lean_throttle_leanthrottle_Digits) hisR ?_
  intro p e s m args below meth c s₁ Bd hml0 hP hK
  obtain ⟨rfl, hZ, hh⟩ := hP
  have hx := Bd.exec
  have hby := Bd.bytes
  have hml : c.maxLocals = 1 := hml0
  have hown : s.vm.findClass "com/example/lean_throttle/leanthrottle/Digits" = some m.cls := findClass_of_methodNamed Bd.named
  have hnm := (name_of_methodNamed Bd.named Bd.method).1
  have X0 : Stand p l e ({ frames := 0, cells := 0, slots := 0, locals := 0 } : Room) s m #[(.int p0)] below meth c s₁ [] 0 0 := Stand.of_body Bd
  have e0 : s₁.heap = h0 := by rw [← hh, Bd.state]; rfl
  have N0 := Fr.nil n0
  obtain ⟨G, hG⟩ : ∃ z, z = s₁.setTop (entryFrame m #[(.int p0)] 1) := ⟨_, rfl⟩
  have pre0 : Lead p e below G (s₁.setTop (mkF m 0 #[.val (.int p0)] [])) := fun t k => by rw [hG]; exact castTop (ef_1 m p0) k
  have pre5 : Lead p e below G (s₁.setTop (mkF m 17 #[.val (.int p0)] [(.int (if p0 < (48 : Int32) then (0 : Int32) else (if (57 : Int32) < p0 then (0 : Int32) else (1 : Int32))))])) := fun t k => by
    refine pre0 t ?_
    show Steps p.tables e below (s₁.setTop (mkF m 0 #[.val (.int p0)] [])) _
    refine XS.iloadN X0.here hx rfl (hb hby d1_0) rfl ?_
    show Steps p.tables e below (s₁.setTop (mkF m 1 #[.val (.int p0)] [(.int p0)])) _
    refine XS.bipush X0.here hx rfl (hb hby d1_1) ?_
    show Steps p.tables e below (s₁.setTop (mkF m 3 #[.val (.int p0)] [(.int (48 : Int32)), (.int p0)])) _
    have j4 : ∀ t, Steps p.tables e below (s₁.setTop (mkF m 17 #[.val (.int p0)] [(.int (if p0 < (48 : Int32) then (0 : Int32) else (if (57 : Int32) < p0 then (0 : Int32) else (1 : Int32))))])) t → Steps p.tables e below (s₁.setTop (mkF m 3 #[.val (.int p0)] [(.int (48 : Int32)), (.int p0)])) t := fun t k => by
      by_cases hc3_1 : p0 < (48 : Int32)
      · simp only [if_pos hc3_1] at k
        refine XS.icmpYes X0.here hx rfl (pc0 := 3) (pc' := 16) rfl (hb hby d1_3) rfl (tlt hc3_1).1 (by decide) (by decide) ?_
        show Steps p.tables e below (s₁.setTop (mkF m 16 #[.val (.int p0)] [])) _
        refine XS.iconst X0.here hx rfl (hb hby d1_16) ?_
        show Steps p.tables e below (s₁.setTop (mkF m 17 #[.val (.int p0)] [(.int (0 : Int32))])) _
        exact k
      · simp only [if_neg hc3_1] at k
        refine XS.icmpNo X0.here hx rfl (hb hby d1_3) rfl (flt hc3_1).1 ?_
        show Steps p.tables e below (s₁.setTop (mkF m 6 #[.val (.int p0)] [])) _
        refine XS.iloadN X0.here hx rfl (hb hby d1_6) rfl ?_
        show Steps p.tables e below (s₁.setTop (mkF m 7 #[.val (.int p0)] [(.int p0)])) _
        refine XS.bipush X0.here hx rfl (hb hby d1_7) ?_
        show Steps p.tables e below (s₁.setTop (mkF m 9 #[.val (.int p0)] [(.int (57 : Int32)), (.int p0)])) _
        have j3 : ∀ t, Steps p.tables e below (s₁.setTop (mkF m 17 #[.val (.int p0)] [(.int (if (57 : Int32) < p0 then (0 : Int32) else (1 : Int32)))])) t → Steps p.tables e below (s₁.setTop (mkF m 9 #[.val (.int p0)] [(.int (57 : Int32)), (.int p0)])) t := fun t k => by
          by_cases hc9_2 : (57 : Int32) < p0
          · simp only [if_pos hc9_2] at k
            refine XS.icmpYes X0.here hx rfl (pc0 := 9) (pc' := 16) rfl (hb hby d1_9) rfl (tlt hc9_2).2.2.1 (by decide) (by decide) ?_
            show Steps p.tables e below (s₁.setTop (mkF m 16 #[.val (.int p0)] [])) _
            refine XS.iconst X0.here hx rfl (hb hby d1_16) ?_
            show Steps p.tables e below (s₁.setTop (mkF m 17 #[.val (.int p0)] [(.int (0 : Int32))])) _
            exact k
          · simp only [if_neg hc9_2] at k
            refine XS.icmpNo X0.here hx rfl (hb hby d1_9) rfl (flt hc9_2).2.2.1 ?_
            show Steps p.tables e below (s₁.setTop (mkF m 12 #[.val (.int p0)] [])) _
            refine XS.iconst X0.here hx rfl (hb hby d1_12) ?_
            show Steps p.tables e below (s₁.setTop (mkF m 13 #[.val (.int p0)] [(.int (1 : Int32))])) _
            refine XS.goto X0.here hx rfl (pc0 := 13) (pc' := 17) rfl (hb hby d1_13) (by decide) (by decide) ?_
            show Steps p.tables e below (s₁.setTop (mkF m 17 #[.val (.int p0)] [(.int (1 : Int32))])) _
            exact k
        refine j3 _ ?_
        show Steps p.tables e below (s₁.setTop (mkF m 17 #[.val (.int p0)] [(.int (if (57 : Int32) < p0 then (0 : Int32) else (1 : Int32)))])) _
        exact k
    refine j4 _ ?_
    show Steps p.tables e below (s₁.setTop (mkF m 17 #[.val (.int p0)] [(.int (if p0 < (48 : Int32) then (0 : Int32) else (if (57 : Int32) < p0 then (0 : Int32) else (1 : Int32))))])) _
    exact k
  obtain ⟨v6, hv6⟩ : ∃ z : Int32, z = (if p0 < (48 : Int32) then (0 : Int32) else (if (57 : Int32) < p0 then (0 : Int32) else (1 : Int32))) := ⟨_, rfl⟩
  have pre6 : Lead p e below G (s₁.setTop (mkF m 17 #[.val (.int p0)] [(.int v6)])) := by rw [hv6]; exact pre5
  obtain ⟨fs, hr, hrun, hended, hW, hsame⟩ := X0.leave (v := some (.int (nar .boolean v6))) (fun h => by rw [Bd.returns] at h; cases h)
  subst hG
  refine ⟨_, _, pre6 _ ?_, hrun, hended, _, _, rfl, ?_, ⟨_, rfl⟩, hW, hsame.mono (by decide) (by decide)⟩
  · show Steps p.tables e below (s₁.setTop (mkF m 17 #[.val (.int p0)] [(.int v6)])) _
    exact retN X0 hx (t := .boolean) Bd.returns (by simp) (hb hby d1_17) hr
  · show Q1 Z p0 h0 n0 _ s₁.heap _
    rw [e0]
    refine ⟨congrArg (fun z => some (Value.int z)) (?_ : (nar .boolean v6) = F1 p0), N0, rfl⟩
    subst hv6
    rfl
theorem pd__28_C_29_Z : parseMethodDescriptor "(C)Z" = some ⟨[.char], some .boolean⟩ := by decide +kernel
def F0 (p0 : Int32) : Int32 := let v22 : Int32 := (if ((p0 &&& (65535 : Int32)).toUInt32.toUInt16.toUInt32.toInt32) = (48 : Int32) then (1 : Int32) else (if ((p0 &&& (65535 : Int32)).toUInt32.toUInt16.toUInt32.toInt32) = (49 : Int32) then (1 : Int32) else (if ((p0 &&& (65535 : Int32)).toUInt32.toUInt16.toUInt32.toInt32) = (50 : Int32) then (1 : Int32) else (if ((p0 &&& (65535 : Int32)).toUInt32.toUInt16.toUInt32.toInt32) = (51 : Int32) then (1 : Int32) else (if ((p0 &&& (65535 : Int32)).toUInt32.toUInt16.toUInt32.toInt32) = (52 : Int32) then (1 : Int32) else (if ((p0 &&& (65535 : Int32)).toUInt32.toUInt16.toUInt32.toInt32) = (53 : Int32) then (1 : Int32) else (if ((p0 &&& (65535 : Int32)).toUInt32.toUInt16.toUInt32.toInt32) = (54 : Int32) then (1 : Int32) else (if ((p0 &&& (65535 : Int32)).toUInt32.toUInt16.toUInt32.toInt32) = (55 : Int32) then (1 : Int32) else (if ((p0 &&& (65535 : Int32)).toUInt32.toUInt16.toUInt32.toInt32) = (56 : Int32) then (1 : Int32) else (if ((p0 &&& (65535 : Int32)).toUInt32.toUInt16.toUInt32.toInt32) = (57 : Int32) then (1 : Int32) else (0 : Int32))))))))))); let v24 : Int32 := ((p0 &&& (65535 : Int32)).toUInt32.toUInt16.toUInt32.toInt32); (nar .boolean (if (F1 v24) = v22 then (1 : Int32) else (0 : Int32)))
theorem own_max (x : Int32) : (x &&& (2147483647 : Int32)).toInt = x.toInt % 2 ^ 31 := Jvm.Kit.i32_mask x _ (k := 31) (by decide) (by decide)
theorem own_rem (a k : Int32) (ha : 0 ≤ a.toInt) (hk : 0 < k.toInt) : (a - a / k * k).toInt = a.toInt % k.toInt := by
  have b1 := Int32.le_toInt a; have b2 := Int32.toInt_lt a
  have d : (a / k).toInt = a.toInt / k.toInt := by rw [Jvm.Kit.i32_div (by omega), Int.tdiv_eq_ediv_of_nonneg ha]
  have q0 : 0 ≤ a.toInt / k.toInt := Int.ediv_nonneg ha (by omega)
  have q1 : a.toInt / k.toInt * k.toInt ≤ a.toInt := Int.ediv_mul_le _ (by omega)
  have q2 : 0 ≤ a.toInt / k.toInt * k.toInt := Int.mul_nonneg q0 (by omega)
  have m : (a / k * k).toInt = a.toInt / k.toInt * k.toInt := by rw [Jvm.Kit.i32_mul, d] <;> rw [d] <;> omega
  rw [Jvm.Kit.i32_sub (by omega) (by omega), m, Int.emod_def, Int.mul_comm]
theorem own_nar0 : nar .boolean (0 : Int32) = 0 := by decide
theorem own_nar1 : nar .boolean (1 : Int32) = 1 := by decide
theorem own_nat {a : Int32} {k : Nat} (h : a.toInt ≤ k) : a.toNatClampNeg ≤ k := by
  show a.toInt.toNat ≤ k
  omega
theorem own_law (p0 : Int32) : F0 p0 = 1 := by
  simp only [F0, F1]
  generalize ((p0 &&& (65535 : Int32)).toUInt32.toUInt16.toUInt32.toInt32) = c
  by_cases h0 : c = 48
  · subst h0; decide
  by_cases h1 : c = 49
  · subst h1; decide
  by_cases h2 : c = 50
  · subst h2; decide
  by_cases h3 : c = 51
  · subst h3; decide
  by_cases h4 : c = 52
  · subst h4; decide
  by_cases h5 : c = 53
  · subst h5; decide
  by_cases h6 : c = 54
  · subst h6; decide
  by_cases h7 : c = 55
  · subst h7; decide
  by_cases h8 : c = 56
  · subst h8; decide
  by_cases h9 : c = 57
  · subst h9; decide
  simp only [if_neg h0, if_neg h1, if_neg h2, if_neg h3, if_neg h4, if_neg h5, if_neg h6, if_neg h7, if_neg h8, if_neg h9]
  by_cases g1 : c < 48
  · simp only [if_pos g1]; decide
  by_cases g2 : 57 < c
  · simp only [if_neg g1, if_pos g2]; decide
  exfalso
  rw [Int32.lt_iff_toInt_lt] at g1 g2
  have e48 : (48 : Int32).toInt = 48 := by decide
  have e57 : (57 : Int32).toInt = 57 := by decide
  rw [e48] at g1; rw [e57] at g2
  have q : ∀ k : Int32, c ≠ k → c.toInt ≠ k.toInt := fun k hk e => hk (Int32.toInt_inj.mp e)
  have i0 := q 48 h0; have i1 := q 49 h1; have i2 := q 50 h2; have i3 := q 51 h3; have i4 := q 52 h4; have i5 := q 53 h5; have i6 := q 54 h6; have i7 := q 55 h7; have i8 := q 56 h8; have i9 := q 57 h9
  have f0 : (48 : Int32).toInt = 48 := by decide
  have f1 : (49 : Int32).toInt = 49 := by decide
  have f2 : (50 : Int32).toInt = 50 := by decide
  have f3 : (51 : Int32).toInt = 51 := by decide
  have f4 : (52 : Int32).toInt = 52 := by decide
  have f5 : (53 : Int32).toInt = 53 := by decide
  have f6 : (54 : Int32).toInt = 54 := by decide
  have f7 : (55 : Int32).toInt = 55 := by decide
  have f8 : (56 : Int32).toInt = 56 := by decide
  have f9 : (57 : Int32).toInt = 57 := by decide
  omega

theorem pn_com_example_lean_throttle_leanthrottle_DigitsIsDigitPinLaw : plainName "com/example/lean_throttle/leanthrottle/DigitsIsDigitPinLaw" = true := by first | (simp [plainName, overriddenIn]; done) | decide +kernel
theorem ef_0 (m : MethodId) (p0 : Int32) : entryFrame m #[(.int p0)] maxLocals = mkF m 0 #[.val (.int p0), .unset, .unset] [] := by first | (simp [entryFrame, mkF, argsToLocals, Value.category, maxLocals]; done) | rfl
def Q0 (Z : State) (p0 : Int32)  (h0 : Heap) (n0 : Nat) (v : Option Value) (h : Heap) (L : List Loc) : Prop := v = some (.int (1 : Int32)) ∧ Fr n0 L
set_option maxRecDepth 65536 in
set_option maxHeartbeats 40000000 in
theorem rm0 (l : Launch) (Z : State) (a0 : Array Value) (hw : ∀ d ∈ tables_1, d.before a0 Z = true) (ws : List Jvm.Cond) (p0 : Int32)  (h0 : Heap) (n0 : Nat) (Z0 : n0 ≤ h0.size)  :
    MetFree l x (head1 (Jvm.Cond.code x code maxLocals ret :: ws) room_1) (fun a U => a = #[(.int p0)] ∧ Z.Warmed39 U.vm ∧ U.heap = h0) (fun _ _ _ _ _ => True) (fun _ U o U' => ∃ v L, o = .returned v ∧ Q0 Z p0 h0 n0 v U'.heap L ∧ FrameEnd U o U' L room_1.cells room_1.slots) := by
  refine MetFree.of_bodySF (plainFor_of_name pn_com_example_lean_throttle_leanthrottle_DigitsIsDigitPinLaw) hisR ?_
  intro p e s m args below meth c s₁ Bd hml0 hP hK
  obtain ⟨rfl, hZ, hh⟩ := hP
  have hx := Bd.exec
  have hby := Bd.bytes
  have hml : c.maxLocals = 3 := hml0
  have hown : s.vm.findClass "com/example/lean_throttle/leanthrottle/DigitsIsDigitPinLaw" = some m.cls := findClass_of_methodNamed Bd.named
  have hnm := (name_of_methodNamed Bd.named Bd.method).1
  have X0 : Stand p l e room_1 s m #[(.int p0)] below meth c s₁ [] 0 0 := Stand.of_body Bd
  have e0 : s₁.heap = h0 := by rw [← hh, Bd.state]; rfl
  have N0 := Fr.nil n0
  obtain ⟨G, hG⟩ : ∃ z, z = s₁.setTop (entryFrame m #[(.int p0)] maxLocals) := ⟨_, rfl⟩
  have pre0 : Lead p e below G (s₁.setTop (mkF m 0 #[.val (.int p0), .unset, .unset] [])) := fun t k => by rw [hG]; exact castTop (ef_0 m p0) k
  have pre21 : Lead p e below G (s₁.setTop (mkF m 71 #[.val (.int p0), .val (.int ((p0 &&& (65535 : Int32)).toUInt32.toUInt16.toUInt32.toInt32)), .unset] [(.int (if ((p0 &&& (65535 : Int32)).toUInt32.toUInt16.toUInt32.toInt32) = (48 : Int32) then (1 : Int32) else (if ((p0 &&& (65535 : Int32)).toUInt32.toUInt16.toUInt32.toInt32) = (49 : Int32) then (1 : Int32) else (if ((p0 &&& (65535 : Int32)).toUInt32.toUInt16.toUInt32.toInt32) = (50 : Int32) then (1 : Int32) else (if ((p0 &&& (65535 : Int32)).toUInt32.toUInt16.toUInt32.toInt32) = (51 : Int32) then (1 : Int32) else (if ((p0 &&& (65535 : Int32)).toUInt32.toUInt16.toUInt32.toInt32) = (52 : Int32) then (1 : Int32) else (if ((p0 &&& (65535 : Int32)).toUInt32.toUInt16.toUInt32.toInt32) = (53 : Int32) then (1 : Int32) else (if ((p0 &&& (65535 : Int32)).toUInt32.toUInt16.toUInt32.toInt32) = (54 : Int32) then (1 : Int32) else (if ((p0 &&& (65535 : Int32)).toUInt32.toUInt16.toUInt32.toInt32) = (55 : Int32) then (1 : Int32) else (if ((p0 &&& (65535 : Int32)).toUInt32.toUInt16.toUInt32.toInt32) = (56 : Int32) then (1 : Int32) else (if ((p0 &&& (65535 : Int32)).toUInt32.toUInt16.toUInt32.toInt32) = (57 : Int32) then (1 : Int32) else (0 : Int32))))))))))))])) := fun t k => by
    refine pre0 t ?_
    show Steps p.tables e below (s₁.setTop (mkF m 0 #[.val (.int p0), .unset, .unset] [])) _
    refine XS.iloadN X0.here hx rfl (hb hby at_0) rfl ?_
    show Steps p.tables e below (s₁.setTop (mkF m 1 #[.val (.int p0), .unset, .unset] [(.int p0)])) _
    refine X0.ldcInt hx hown (mvT hZ (hw _ (List.mem_of_getElem? (i := 0) rfl))) (g := (mkF m 1 #[.val (.int p0), .unset, .unset] [(.int p0)])) rfl (hb hby at_1) _ ?_
    show Steps p.tables e below (s₁.setTop (mkF m 3 #[.val (.int p0), .unset, .unset] [(.int (65535 : Int32)), (.int p0)])) _
    refine XS.iand X0.here hx rfl (hb hby at_3) rfl ?_
    show Steps p.tables e below (s₁.setTop (mkF m 4 #[.val (.int p0), .unset, .unset] [(.int (p0 &&& (65535 : Int32)))])) _
    refine XS.i2c X0.here hx rfl (hb hby at_4) rfl ?_
    show Steps p.tables e below (s₁.setTop (mkF m 5 #[.val (.int p0), .unset, .unset] [(.int ((p0 &&& (65535 : Int32)).toUInt32.toUInt16.toUInt32.toInt32))])) _
    refine XS.istoreN X0.here hx rfl (hb hby at_5) rfl (l' := #[.val (.int p0), .val (.int ((p0 &&& (65535 : Int32)).toUInt32.toUInt16.toUInt32.toInt32)), .unset]) rfl ?_
    show Steps p.tables e below (s₁.setTop (mkF m 6 #[.val (.int p0), .val (.int ((p0 &&& (65535 : Int32)).toUInt32.toUInt16.toUInt32.toInt32)), .unset] [])) _
    refine XS.iloadN X0.here hx rfl (hb hby at_6) rfl ?_
    show Steps p.tables e below (s₁.setTop (mkF m 7 #[.val (.int p0), .val (.int ((p0 &&& (65535 : Int32)).toUInt32.toUInt16.toUInt32.toInt32)), .unset] [(.int ((p0 &&& (65535 : Int32)).toUInt32.toUInt16.toUInt32.toInt32))])) _
    refine XS.bipush X0.here hx rfl (hb hby at_7) ?_
    show Steps p.tables e below (s₁.setTop (mkF m 9 #[.val (.int p0), .val (.int ((p0 &&& (65535 : Int32)).toUInt32.toUInt16.toUInt32.toInt32)), .unset] [(.int (48 : Int32)), (.int ((p0 &&& (65535 : Int32)).toUInt32.toUInt16.toUInt32.toInt32))])) _
    have j20 : ∀ t, Steps p.tables e below (s₁.setTop (mkF m 71 #[.val (.int p0), .val (.int ((p0 &&& (65535 : Int32)).toUInt32.toUInt16.toUInt32.toInt32)), .unset] [(.int (if ((p0 &&& (65535 : Int32)).toUInt32.toUInt16.toUInt32.toInt32) = (48 : Int32) then (1 : Int32) else (if ((p0 &&& (65535 : Int32)).toUInt32.toUInt16.toUInt32.toInt32) = (49 : Int32) then (1 : Int32) else (if ((p0 &&& (65535 : Int32)).toUInt32.toUInt16.toUInt32.toInt32) = (50 : Int32) then (1 : Int32) else (if ((p0 &&& (65535 : Int32)).toUInt32.toUInt16.toUInt32.toInt32) = (51 : Int32) then (1 : Int32) else (if ((p0 &&& (65535 : Int32)).toUInt32.toUInt16.toUInt32.toInt32) = (52 : Int32) then (1 : Int32) else (if ((p0 &&& (65535 : Int32)).toUInt32.toUInt16.toUInt32.toInt32) = (53 : Int32) then (1 : Int32) else (if ((p0 &&& (65535 : Int32)).toUInt32.toUInt16.toUInt32.toInt32) = (54 : Int32) then (1 : Int32) else (if ((p0 &&& (65535 : Int32)).toUInt32.toUInt16.toUInt32.toInt32) = (55 : Int32) then (1 : Int32) else (if ((p0 &&& (65535 : Int32)).toUInt32.toUInt16.toUInt32.toInt32) = (56 : Int32) then (1 : Int32) else (if ((p0 &&& (65535 : Int32)).toUInt32.toUInt16.toUInt32.toInt32) = (57 : Int32) then (1 : Int32) else (0 : Int32))))))))))))])) t → Steps p.tables e below (s₁.setTop (mkF m 9 #[.val (.int p0), .val (.int ((p0 &&& (65535 : Int32)).toUInt32.toUInt16.toUInt32.toInt32)), .unset] [(.int (48 : Int32)), (.int ((p0 &&& (65535 : Int32)).toUInt32.toUInt16.toUInt32.toInt32))])) t := fun t k => by
      by_cases hc9_1 : ((p0 &&& (65535 : Int32)).toUInt32.toUInt16.toUInt32.toInt32) = (48 : Int32)
      · simp only [if_pos hc9_1] at k
        refine XS.icmpYes X0.here hx rfl (pc0 := 9) (pc' := 66) rfl (hb hby at_9) rfl (teq hc9_1).1 (by decide) (by decide) ?_
        show Steps p.tables e below (s₁.setTop (mkF m 66 #[.val (.int p0), .val (.int ((p0 &&& (65535 : Int32)).toUInt32.toUInt16.toUInt32.toInt32)), .unset] [])) _
        refine XS.iconst X0.here hx rfl (hb hby at_66) ?_
        show Steps p.tables e below (s₁.setTop (mkF m 67 #[.val (.int p0), .val (.int ((p0 &&& (65535 : Int32)).toUInt32.toUInt16.toUInt32.toInt32)), .unset] [(.int (1 : Int32))])) _
        refine XS.goto X0.here hx rfl (pc0 := 67) (pc' := 71) rfl (hb hby at_67) (by decide) (by decide) ?_
        show Steps p.tables e below (s₁.setTop (mkF m 71 #[.val (.int p0), .val (.int ((p0 &&& (65535 : Int32)).toUInt32.toUInt16.toUInt32.toInt32)), .unset] [(.int (1 : Int32))])) _
        exact k
      · simp only [if_neg hc9_1] at k
        refine XS.icmpNo X0.here hx rfl (hb hby at_9) rfl (feq hc9_1).1 ?_
        show Steps p.tables e below (s₁.setTop (mkF m 12 #[.val (.int p0), .val (.int ((p0 &&& (65535 : Int32)).toUInt32.toUInt16.toUInt32.toInt32)), .unset] [])) _
        refine XS.iloadN X0.here hx rfl (hb hby at_12) rfl ?_
        show Steps p.tables e below (s₁.setTop (mkF m 13 #[.val (.int p0), .val (.int ((p0 &&& (65535 : Int32)).toUInt32.toUInt16.toUInt32.toInt32)), .unset] [(.int ((p0 &&& (65535 : Int32)).toUInt32.toUInt16.toUInt32.toInt32))])) _
        refine XS.bipush X0.here hx rfl (hb hby at_13) ?_
        show Steps p.tables e below (s₁.setTop (mkF m 15 #[.val (.int p0), .val (.int ((p0 &&& (65535 : Int32)).toUInt32.toUInt16.toUInt32.toInt32)), .unset] [(.int (49 : Int32)), (.int ((p0 &&& (65535 : Int32)).toUInt32.toUInt16.toUInt32.toInt32))])) _
        have j19 : ∀ t, Steps p.tables e below (s₁.setTop (mkF m 71 #[.val (.int p0), .val (.int ((p0 &&& (65535 : Int32)).toUInt32.toUInt16.toUInt32.toInt32)), .unset] [(.int (if ((p0 &&& (65535 : Int32)).toUInt32.toUInt16.toUInt32.toInt32) = (49 : Int32) then (1 : Int32) else (if ((p0 &&& (65535 : Int32)).toUInt32.toUInt16.toUInt32.toInt32) = (50 : Int32) then (1 : Int32) else (if ((p0 &&& (65535 : Int32)).toUInt32.toUInt16.toUInt32.toInt32) = (51 : Int32) then (1 : Int32) else (if ((p0 &&& (65535 : Int32)).toUInt32.toUInt16.toUInt32.toInt32) = (52 : Int32) then (1 : Int32) else (if ((p0 &&& (65535 : Int32)).toUInt32.toUInt16.toUInt32.toInt32) = (53 : Int32) then (1 : Int32) else (if ((p0 &&& (65535 : Int32)).toUInt32.toUInt16.toUInt32.toInt32) = (54 : Int32) then (1 : Int32) else (if ((p0 &&& (65535 : Int32)).toUInt32.toUInt16.toUInt32.toInt32) = (55 : Int32) then (1 : Int32) else (if ((p0 &&& (65535 : Int32)).toUInt32.toUInt16.toUInt32.toInt32) = (56 : Int32) then (1 : Int32) else (if ((p0 &&& (65535 : Int32)).toUInt32.toUInt16.toUInt32.toInt32) = (57 : Int32) then (1 : Int32) else (0 : Int32)))))))))))])) t → Steps p.tables e below (s₁.setTop (mkF m 15 #[.val (.int p0), .val (.int ((p0 &&& (65535 : Int32)).toUInt32.toUInt16.toUInt32.toInt32)), .unset] [(.int (49 : Int32)), (.int ((p0 &&& (65535 : Int32)).toUInt32.toUInt16.toUInt32.toInt32))])) t := fun t k => by
          by_cases hc15_2 : ((p0 &&& (65535 : Int32)).toUInt32.toUInt16.toUInt32.toInt32) = (49 : Int32)
          · simp only [if_pos hc15_2] at k
            refine XS.icmpYes X0.here hx rfl (pc0 := 15) (pc' := 66) rfl (hb hby at_15) rfl (teq hc15_2).1 (by decide) (by decide) ?_
            show Steps p.tables e below (s₁.setTop (mkF m 66 #[.val (.int p0), .val (.int ((p0 &&& (65535 : Int32)).toUInt32.toUInt16.toUInt32.toInt32)), .unset] [])) _
            refine XS.iconst X0.here hx rfl (hb hby at_66) ?_
            show Steps p.tables e below (s₁.setTop (mkF m 67 #[.val (.int p0), .val (.int ((p0 &&& (65535 : Int32)).toUInt32.toUInt16.toUInt32.toInt32)), .unset] [(.int (1 : Int32))])) _
            refine XS.goto X0.here hx rfl (pc0 := 67) (pc' := 71) rfl (hb hby at_67) (by decide) (by decide) ?_
            show Steps p.tables e below (s₁.setTop (mkF m 71 #[.val (.int p0), .val (.int ((p0 &&& (65535 : Int32)).toUInt32.toUInt16.toUInt32.toInt32)), .unset] [(.int (1 : Int32))])) _
            exact k
          · simp only [if_neg hc15_2] at k
            refine XS.icmpNo X0.here hx rfl (hb hby at_15) rfl (feq hc15_2).1 ?_
            show Steps p.tables e below (s₁.setTop (mkF m 18 #[.val (.int p0), .val (.int ((p0 &&& (65535 : Int32)).toUInt32.toUInt16.toUInt32.toInt32)), .unset] [])) _
            refine XS.iloadN X0.here hx rfl (hb hby at_18) rfl ?_
            show Steps p.tables e below (s₁.setTop (mkF m 19 #[.val (.int p0), .val (.int ((p0 &&& (65535 : Int32)).toUInt32.toUInt16.toUInt32.toInt32)), .unset] [(.int ((p0 &&& (65535 : Int32)).toUInt32.toUInt16.toUInt32.toInt32))])) _
            refine XS.bipush X0.here hx rfl (hb hby at_19) ?_
            show Steps p.tables e below (s₁.setTop (mkF m 21 #[.val (.int p0), .val (.int ((p0 &&& (65535 : Int32)).toUInt32.toUInt16.toUInt32.toInt32)), .unset] [(.int (50 : Int32)), (.int ((p0 &&& (65535 : Int32)).toUInt32.toUInt16.toUInt32.toInt32))])) _
            have j18 : ∀ t, Steps p.tables e below (s₁.setTop (mkF m 71 #[.val (.int p0), .val (.int ((p0 &&& (65535 : Int32)).toUInt32.toUInt16.toUInt32.toInt32)), .unset] [(.int (if ((p0 &&& (65535 : Int32)).toUInt32.toUInt16.toUInt32.toInt32) = (50 : Int32) then (1 : Int32) else (if ((p0 &&& (65535 : Int32)).toUInt32.toUInt16.toUInt32.toInt32) = (51 : Int32) then (1 : Int32) else (if ((p0 &&& (65535 : Int32)).toUInt32.toUInt16.toUInt32.toInt32) = (52 : Int32) then (1 : Int32) else (if ((p0 &&& (65535 : Int32)).toUInt32.toUInt16.toUInt32.toInt32) = (53 : Int32) then (1 : Int32) else (if ((p0 &&& (65535 : Int32)).toUInt32.toUInt16.toUInt32.toInt32) = (54 : Int32) then (1 : Int32) else (if ((p0 &&& (65535 : Int32)).toUInt32.toUInt16.toUInt32.toInt32) = (55 : Int32) then (1 : Int32) else (if ((p0 &&& (65535 : Int32)).toUInt32.toUInt16.toUInt32.toInt32) = (56 : Int32) then (1 : Int32) else (if ((p0 &&& (65535 : Int32)).toUInt32.toUInt16.toUInt32.toInt32) = (57 : Int32) then (1 : Int32) else (0 : Int32))))))))))])) t → Steps p.tables e below (s₁.setTop (mkF m 21 #[.val (.int p0), .val (.int ((p0 &&& (65535 : Int32)).toUInt32.toUInt16.toUInt32.toInt32)), .unset] [(.int (50 : Int32)), (.int ((p0 &&& (65535 : Int32)).toUInt32.toUInt16.toUInt32.toInt32))])) t := fun t k => by
              by_cases hc21_3 : ((p0 &&& (65535 : Int32)).toUInt32.toUInt16.toUInt32.toInt32) = (50 : Int32)
              · simp only [if_pos hc21_3] at k
                refine XS.icmpYes X0.here hx rfl (pc0 := 21) (pc' := 66) rfl (hb hby at_21) rfl (teq hc21_3).1 (by decide) (by decide) ?_
                show Steps p.tables e below (s₁.setTop (mkF m 66 #[.val (.int p0), .val (.int ((p0 &&& (65535 : Int32)).toUInt32.toUInt16.toUInt32.toInt32)), .unset] [])) _
                refine XS.iconst X0.here hx rfl (hb hby at_66) ?_
                show Steps p.tables e below (s₁.setTop (mkF m 67 #[.val (.int p0), .val (.int ((p0 &&& (65535 : Int32)).toUInt32.toUInt16.toUInt32.toInt32)), .unset] [(.int (1 : Int32))])) _
                refine XS.goto X0.here hx rfl (pc0 := 67) (pc' := 71) rfl (hb hby at_67) (by decide) (by decide) ?_
                show Steps p.tables e below (s₁.setTop (mkF m 71 #[.val (.int p0), .val (.int ((p0 &&& (65535 : Int32)).toUInt32.toUInt16.toUInt32.toInt32)), .unset] [(.int (1 : Int32))])) _
                exact k
              · simp only [if_neg hc21_3] at k
                refine XS.icmpNo X0.here hx rfl (hb hby at_21) rfl (feq hc21_3).1 ?_
                show Steps p.tables e below (s₁.setTop (mkF m 24 #[.val (.int p0), .val (.int ((p0 &&& (65535 : Int32)).toUInt32.toUInt16.toUInt32.toInt32)), .unset] [])) _
                refine XS.iloadN X0.here hx rfl (hb hby at_24) rfl ?_
                show Steps p.tables e below (s₁.setTop (mkF m 25 #[.val (.int p0), .val (.int ((p0 &&& (65535 : Int32)).toUInt32.toUInt16.toUInt32.toInt32)), .unset] [(.int ((p0 &&& (65535 : Int32)).toUInt32.toUInt16.toUInt32.toInt32))])) _
                refine XS.bipush X0.here hx rfl (hb hby at_25) ?_
                show Steps p.tables e below (s₁.setTop (mkF m 27 #[.val (.int p0), .val (.int ((p0 &&& (65535 : Int32)).toUInt32.toUInt16.toUInt32.toInt32)), .unset] [(.int (51 : Int32)), (.int ((p0 &&& (65535 : Int32)).toUInt32.toUInt16.toUInt32.toInt32))])) _
                have j17 : ∀ t, Steps p.tables e below (s₁.setTop (mkF m 71 #[.val (.int p0), .val (.int ((p0 &&& (65535 : Int32)).toUInt32.toUInt16.toUInt32.toInt32)), .unset] [(.int (if ((p0 &&& (65535 : Int32)).toUInt32.toUInt16.toUInt32.toInt32) = (51 : Int32) then (1 : Int32) else (if ((p0 &&& (65535 : Int32)).toUInt32.toUInt16.toUInt32.toInt32) = (52 : Int32) then (1 : Int32) else (if ((p0 &&& (65535 : Int32)).toUInt32.toUInt16.toUInt32.toInt32) = (53 : Int32) then (1 : Int32) else (if ((p0 &&& (65535 : Int32)).toUInt32.toUInt16.toUInt32.toInt32) = (54 : Int32) then (1 : Int32) else (if ((p0 &&& (65535 : Int32)).toUInt32.toUInt16.toUInt32.toInt32) = (55 : Int32) then (1 : Int32) else (if ((p0 &&& (65535 : Int32)).toUInt32.toUInt16.toUInt32.toInt32) = (56 : Int32) then (1 : Int32) else (if ((p0 &&& (65535 : Int32)).toUInt32.toUInt16.toUInt32.toInt32) = (57 : Int32) then (1 : Int32) else (0 : Int32)))))))))])) t → Steps p.tables e below (s₁.setTop (mkF m 27 #[.val (.int p0), .val (.int ((p0 &&& (65535 : Int32)).toUInt32.toUInt16.toUInt32.toInt32)), .unset] [(.int (51 : Int32)), (.int ((p0 &&& (65535 : Int32)).toUInt32.toUInt16.toUInt32.toInt32))])) t := fun t k => by
                  by_cases hc27_4 : ((p0 &&& (65535 : Int32)).toUInt32.toUInt16.toUInt32.toInt32) = (51 : Int32)
                  · simp only [if_pos hc27_4] at k
                    refine XS.icmpYes X0.here hx rfl (pc0 := 27) (pc' := 66) rfl (hb hby at_27) rfl (teq hc27_4).1 (by decide) (by decide) ?_
                    show Steps p.tables e below (s₁.setTop (mkF m 66 #[.val (.int p0), .val (.int ((p0 &&& (65535 : Int32)).toUInt32.toUInt16.toUInt32.toInt32)), .unset] [])) _
                    refine XS.iconst X0.here hx rfl (hb hby at_66) ?_
                    show Steps p.tables e below (s₁.setTop (mkF m 67 #[.val (.int p0), .val (.int ((p0 &&& (65535 : Int32)).toUInt32.toUInt16.toUInt32.toInt32)), .unset] [(.int (1 : Int32))])) _
                    refine XS.goto X0.here hx rfl (pc0 := 67) (pc' := 71) rfl (hb hby at_67) (by decide) (by decide) ?_
                    show Steps p.tables e below (s₁.setTop (mkF m 71 #[.val (.int p0), .val (.int ((p0 &&& (65535 : Int32)).toUInt32.toUInt16.toUInt32.toInt32)), .unset] [(.int (1 : Int32))])) _
                    exact k
                  · simp only [if_neg hc27_4] at k
                    refine XS.icmpNo X0.here hx rfl (hb hby at_27) rfl (feq hc27_4).1 ?_
                    show Steps p.tables e below (s₁.setTop (mkF m 30 #[.val (.int p0), .val (.int ((p0 &&& (65535 : Int32)).toUInt32.toUInt16.toUInt32.toInt32)), .unset] [])) _
                    refine XS.iloadN X0.here hx rfl (hb hby at_30) rfl ?_
                    show Steps p.tables e below (s₁.setTop (mkF m 31 #[.val (.int p0), .val (.int ((p0 &&& (65535 : Int32)).toUInt32.toUInt16.toUInt32.toInt32)), .unset] [(.int ((p0 &&& (65535 : Int32)).toUInt32.toUInt16.toUInt32.toInt32))])) _
                    refine XS.bipush X0.here hx rfl (hb hby at_31) ?_
                    show Steps p.tables e below (s₁.setTop (mkF m 33 #[.val (.int p0), .val (.int ((p0 &&& (65535 : Int32)).toUInt32.toUInt16.toUInt32.toInt32)), .unset] [(.int (52 : Int32)), (.int ((p0 &&& (65535 : Int32)).toUInt32.toUInt16.toUInt32.toInt32))])) _
                    have j16 : ∀ t, Steps p.tables e below (s₁.setTop (mkF m 71 #[.val (.int p0), .val (.int ((p0 &&& (65535 : Int32)).toUInt32.toUInt16.toUInt32.toInt32)), .unset] [(.int (if ((p0 &&& (65535 : Int32)).toUInt32.toUInt16.toUInt32.toInt32) = (52 : Int32) then (1 : Int32) else (if ((p0 &&& (65535 : Int32)).toUInt32.toUInt16.toUInt32.toInt32) = (53 : Int32) then (1 : Int32) else (if ((p0 &&& (65535 : Int32)).toUInt32.toUInt16.toUInt32.toInt32) = (54 : Int32) then (1 : Int32) else (if ((p0 &&& (65535 : Int32)).toUInt32.toUInt16.toUInt32.toInt32) = (55 : Int32) then (1 : Int32) else (if ((p0 &&& (65535 : Int32)).toUInt32.toUInt16.toUInt32.toInt32) = (56 : Int32) then (1 : Int32) else (if ((p0 &&& (65535 : Int32)).toUInt32.toUInt16.toUInt32.toInt32) = (57 : Int32) then (1 : Int32) else (0 : Int32))))))))])) t → Steps p.tables e below (s₁.setTop (mkF m 33 #[.val (.int p0), .val (.int ((p0 &&& (65535 : Int32)).toUInt32.toUInt16.toUInt32.toInt32)), .unset] [(.int (52 : Int32)), (.int ((p0 &&& (65535 : Int32)).toUInt32.toUInt16.toUInt32.toInt32))])) t := fun t k => by
                      by_cases hc33_5 : ((p0 &&& (65535 : Int32)).toUInt32.toUInt16.toUInt32.toInt32) = (52 : Int32)
                      · simp only [if_pos hc33_5] at k
                        refine XS.icmpYes X0.here hx rfl (pc0 := 33) (pc' := 66) rfl (hb hby at_33) rfl (teq hc33_5).1 (by decide) (by decide) ?_
                        show Steps p.tables e below (s₁.setTop (mkF m 66 #[.val (.int p0), .val (.int ((p0 &&& (65535 : Int32)).toUInt32.toUInt16.toUInt32.toInt32)), .unset] [])) _
                        refine XS.iconst X0.here hx rfl (hb hby at_66) ?_
                        show Steps p.tables e below (s₁.setTop (mkF m 67 #[.val (.int p0), .val (.int ((p0 &&& (65535 : Int32)).toUInt32.toUInt16.toUInt32.toInt32)), .unset] [(.int (1 : Int32))])) _
                        refine XS.goto X0.here hx rfl (pc0 := 67) (pc' := 71) rfl (hb hby at_67) (by decide) (by decide) ?_
                        show Steps p.tables e below (s₁.setTop (mkF m 71 #[.val (.int p0), .val (.int ((p0 &&& (65535 : Int32)).toUInt32.toUInt16.toUInt32.toInt32)), .unset] [(.int (1 : Int32))])) _
                        exact k
                      · simp only [if_neg hc33_5] at k
                        refine XS.icmpNo X0.here hx rfl (hb hby at_33) rfl (feq hc33_5).1 ?_
                        show Steps p.tables e below (s₁.setTop (mkF m 36 #[.val (.int p0), .val (.int ((p0 &&& (65535 : Int32)).toUInt32.toUInt16.toUInt32.toInt32)), .unset] [])) _
                        refine XS.iloadN X0.here hx rfl (hb hby at_36) rfl ?_
                        show Steps p.tables e below (s₁.setTop (mkF m 37 #[.val (.int p0), .val (.int ((p0 &&& (65535 : Int32)).toUInt32.toUInt16.toUInt32.toInt32)), .unset] [(.int ((p0 &&& (65535 : Int32)).toUInt32.toUInt16.toUInt32.toInt32))])) _
                        refine XS.bipush X0.here hx rfl (hb hby at_37) ?_
                        show Steps p.tables e below (s₁.setTop (mkF m 39 #[.val (.int p0), .val (.int ((p0 &&& (65535 : Int32)).toUInt32.toUInt16.toUInt32.toInt32)), .unset] [(.int (53 : Int32)), (.int ((p0 &&& (65535 : Int32)).toUInt32.toUInt16.toUInt32.toInt32))])) _
                        have j15 : ∀ t, Steps p.tables e below (s₁.setTop (mkF m 71 #[.val (.int p0), .val (.int ((p0 &&& (65535 : Int32)).toUInt32.toUInt16.toUInt32.toInt32)), .unset] [(.int (if ((p0 &&& (65535 : Int32)).toUInt32.toUInt16.toUInt32.toInt32) = (53 : Int32) then (1 : Int32) else (if ((p0 &&& (65535 : Int32)).toUInt32.toUInt16.toUInt32.toInt32) = (54 : Int32) then (1 : Int32) else (if ((p0 &&& (65535 : Int32)).toUInt32.toUInt16.toUInt32.toInt32) = (55 : Int32) then (1 : Int32) else (if ((p0 &&& (65535 : Int32)).toUInt32.toUInt16.toUInt32.toInt32) = (56 : Int32) then (1 : Int32) else (if ((p0 &&& (65535 : Int32)).toUInt32.toUInt16.toUInt32.toInt32) = (57 : Int32) then (1 : Int32) else (0 : Int32)))))))])) t → Steps p.tables e below (s₁.setTop (mkF m 39 #[.val (.int p0), .val (.int ((p0 &&& (65535 : Int32)).toUInt32.toUInt16.toUInt32.toInt32)), .unset] [(.int (53 : Int32)), (.int ((p0 &&& (65535 : Int32)).toUInt32.toUInt16.toUInt32.toInt32))])) t := fun t k => by
                          by_cases hc39_6 : ((p0 &&& (65535 : Int32)).toUInt32.toUInt16.toUInt32.toInt32) = (53 : Int32)
                          · simp only [if_pos hc39_6] at k
                            refine XS.icmpYes X0.here hx rfl (pc0 := 39) (pc' := 66) rfl (hb hby at_39) rfl (teq hc39_6).1 (by decide) (by decide) ?_
                            show Steps p.tables e below (s₁.setTop (mkF m 66 #[.val (.int p0), .val (.int ((p0 &&& (65535 : Int32)).toUInt32.toUInt16.toUInt32.toInt32)), .unset] [])) _
                            refine XS.iconst X0.here hx rfl (hb hby at_66) ?_
                            show Steps p.tables e below (s₁.setTop (mkF m 67 #[.val (.int p0), .val (.int ((p0 &&& (65535 : Int32)).toUInt32.toUInt16.toUInt32.toInt32)), .unset] [(.int (1 : Int32))])) _
                            refine XS.goto X0.here hx rfl (pc0 := 67) (pc' := 71) rfl (hb hby at_67) (by decide) (by decide) ?_
                            show Steps p.tables e below (s₁.setTop (mkF m 71 #[.val (.int p0), .val (.int ((p0 &&& (65535 : Int32)).toUInt32.toUInt16.toUInt32.toInt32)), .unset] [(.int (1 : Int32))])) _
                            exact k
                          · simp only [if_neg hc39_6] at k
                            refine XS.icmpNo X0.here hx rfl (hb hby at_39) rfl (feq hc39_6).1 ?_
                            show Steps p.tables e below (s₁.setTop (mkF m 42 #[.val (.int p0), .val (.int ((p0 &&& (65535 : Int32)).toUInt32.toUInt16.toUInt32.toInt32)), .unset] [])) _
                            refine XS.iloadN X0.here hx rfl (hb hby at_42) rfl ?_
                            show Steps p.tables e below (s₁.setTop (mkF m 43 #[.val (.int p0), .val (.int ((p0 &&& (65535 : Int32)).toUInt32.toUInt16.toUInt32.toInt32)), .unset] [(.int ((p0 &&& (65535 : Int32)).toUInt32.toUInt16.toUInt32.toInt32))])) _
                            refine XS.bipush X0.here hx rfl (hb hby at_43) ?_
                            show Steps p.tables e below (s₁.setTop (mkF m 45 #[.val (.int p0), .val (.int ((p0 &&& (65535 : Int32)).toUInt32.toUInt16.toUInt32.toInt32)), .unset] [(.int (54 : Int32)), (.int ((p0 &&& (65535 : Int32)).toUInt32.toUInt16.toUInt32.toInt32))])) _
                            have j14 : ∀ t, Steps p.tables e below (s₁.setTop (mkF m 71 #[.val (.int p0), .val (.int ((p0 &&& (65535 : Int32)).toUInt32.toUInt16.toUInt32.toInt32)), .unset] [(.int (if ((p0 &&& (65535 : Int32)).toUInt32.toUInt16.toUInt32.toInt32) = (54 : Int32) then (1 : Int32) else (if ((p0 &&& (65535 : Int32)).toUInt32.toUInt16.toUInt32.toInt32) = (55 : Int32) then (1 : Int32) else (if ((p0 &&& (65535 : Int32)).toUInt32.toUInt16.toUInt32.toInt32) = (56 : Int32) then (1 : Int32) else (if ((p0 &&& (65535 : Int32)).toUInt32.toUInt16.toUInt32.toInt32) = (57 : Int32) then (1 : Int32) else (0 : Int32))))))])) t → Steps p.tables e below (s₁.setTop (mkF m 45 #[.val (.int p0), .val (.int ((p0 &&& (65535 : Int32)).toUInt32.toUInt16.toUInt32.toInt32)), .unset] [(.int (54 : Int32)), (.int ((p0 &&& (65535 : Int32)).toUInt32.toUInt16.toUInt32.toInt32))])) t := fun t k => by
                              by_cases hc45_7 : ((p0 &&& (65535 : Int32)).toUInt32.toUInt16.toUInt32.toInt32) = (54 : Int32)
                              · simp only [if_pos hc45_7] at k
                                refine XS.icmpYes X0.here hx rfl (pc0 := 45) (pc' := 66) rfl (hb hby at_45) rfl (teq hc45_7).1 (by decide) (by decide) ?_
                                show Steps p.tables e below (s₁.setTop (mkF m 66 #[.val (.int p0), .val (.int ((p0 &&& (65535 : Int32)).toUInt32.toUInt16.toUInt32.toInt32)), .unset] [])) _
                                refine XS.iconst X0.here hx rfl (hb hby at_66) ?_
                                show Steps p.tables e below (s₁.setTop (mkF m 67 #[.val (.int p0), .val (.int ((p0 &&& (65535 : Int32)).toUInt32.toUInt16.toUInt32.toInt32)), .unset] [(.int (1 : Int32))])) _
                                refine XS.goto X0.here hx rfl (pc0 := 67) (pc' := 71) rfl (hb hby at_67) (by decide) (by decide) ?_
                                show Steps p.tables e below (s₁.setTop (mkF m 71 #[.val (.int p0), .val (.int ((p0 &&& (65535 : Int32)).toUInt32.toUInt16.toUInt32.toInt32)), .unset] [(.int (1 : Int32))])) _
                                exact k
                              · simp only [if_neg hc45_7] at k
                                refine XS.icmpNo X0.here hx rfl (hb hby at_45) rfl (feq hc45_7).1 ?_
                                show Steps p.tables e below (s₁.setTop (mkF m 48 #[.val (.int p0), .val (.int ((p0 &&& (65535 : Int32)).toUInt32.toUInt16.toUInt32.toInt32)), .unset] [])) _
                                refine XS.iloadN X0.here hx rfl (hb hby at_48) rfl ?_
                                show Steps p.tables e below (s₁.setTop (mkF m 49 #[.val (.int p0), .val (.int ((p0 &&& (65535 : Int32)).toUInt32.toUInt16.toUInt32.toInt32)), .unset] [(.int ((p0 &&& (65535 : Int32)).toUInt32.toUInt16.toUInt32.toInt32))])) _
                                refine XS.bipush X0.here hx rfl (hb hby at_49) ?_
                                show Steps p.tables e below (s₁.setTop (mkF m 51 #[.val (.int p0), .val (.int ((p0 &&& (65535 : Int32)).toUInt32.toUInt16.toUInt32.toInt32)), .unset] [(.int (55 : Int32)), (.int ((p0 &&& (65535 : Int32)).toUInt32.toUInt16.toUInt32.toInt32))])) _
                                have j13 : ∀ t, Steps p.tables e below (s₁.setTop (mkF m 71 #[.val (.int p0), .val (.int ((p0 &&& (65535 : Int32)).toUInt32.toUInt16.toUInt32.toInt32)), .unset] [(.int (if ((p0 &&& (65535 : Int32)).toUInt32.toUInt16.toUInt32.toInt32) = (55 : Int32) then (1 : Int32) else (if ((p0 &&& (65535 : Int32)).toUInt32.toUInt16.toUInt32.toInt32) = (56 : Int32) then (1 : Int32) else (if ((p0 &&& (65535 : Int32)).toUInt32.toUInt16.toUInt32.toInt32) = (57 : Int32) then (1 : Int32) else (0 : Int32)))))])) t → Steps p.tables e below (s₁.setTop (mkF m 51 #[.val (.int p0), .val (.int ((p0 &&& (65535 : Int32)).toUInt32.toUInt16.toUInt32.toInt32)), .unset] [(.int (55 : Int32)), (.int ((p0 &&& (65535 : Int32)).toUInt32.toUInt16.toUInt32.toInt32))])) t := fun t k => by
                                  by_cases hc51_8 : ((p0 &&& (65535 : Int32)).toUInt32.toUInt16.toUInt32.toInt32) = (55 : Int32)
                                  · simp only [if_pos hc51_8] at k
                                    refine XS.icmpYes X0.here hx rfl (pc0 := 51) (pc' := 66) rfl (hb hby at_51) rfl (teq hc51_8).1 (by decide) (by decide) ?_
                                    show Steps p.tables e below (s₁.setTop (mkF m 66 #[.val (.int p0), .val (.int ((p0 &&& (65535 : Int32)).toUInt32.toUInt16.toUInt32.toInt32)), .unset] [])) _
                                    refine XS.iconst X0.here hx rfl (hb hby at_66) ?_
                                    show Steps p.tables e below (s₁.setTop (mkF m 67 #[.val (.int p0), .val (.int ((p0 &&& (65535 : Int32)).toUInt32.toUInt16.toUInt32.toInt32)), .unset] [(.int (1 : Int32))])) _
                                    refine XS.goto X0.here hx rfl (pc0 := 67) (pc' := 71) rfl (hb hby at_67) (by decide) (by decide) ?_
                                    show Steps p.tables e below (s₁.setTop (mkF m 71 #[.val (.int p0), .val (.int ((p0 &&& (65535 : Int32)).toUInt32.toUInt16.toUInt32.toInt32)), .unset] [(.int (1 : Int32))])) _
                                    exact k
                                  · simp only [if_neg hc51_8] at k
                                    refine XS.icmpNo X0.here hx rfl (hb hby at_51) rfl (feq hc51_8).1 ?_
                                    show Steps p.tables e below (s₁.setTop (mkF m 54 #[.val (.int p0), .val (.int ((p0 &&& (65535 : Int32)).toUInt32.toUInt16.toUInt32.toInt32)), .unset] [])) _
                                    refine XS.iloadN X0.here hx rfl (hb hby at_54) rfl ?_
                                    show Steps p.tables e below (s₁.setTop (mkF m 55 #[.val (.int p0), .val (.int ((p0 &&& (65535 : Int32)).toUInt32.toUInt16.toUInt32.toInt32)), .unset] [(.int ((p0 &&& (65535 : Int32)).toUInt32.toUInt16.toUInt32.toInt32))])) _
                                    refine XS.bipush X0.here hx rfl (hb hby at_55) ?_
                                    show Steps p.tables e below (s₁.setTop (mkF m 57 #[.val (.int p0), .val (.int ((p0 &&& (65535 : Int32)).toUInt32.toUInt16.toUInt32.toInt32)), .unset] [(.int (56 : Int32)), (.int ((p0 &&& (65535 : Int32)).toUInt32.toUInt16.toUInt32.toInt32))])) _
                                    have j12 : ∀ t, Steps p.tables e below (s₁.setTop (mkF m 71 #[.val (.int p0), .val (.int ((p0 &&& (65535 : Int32)).toUInt32.toUInt16.toUInt32.toInt32)), .unset] [(.int (if ((p0 &&& (65535 : Int32)).toUInt32.toUInt16.toUInt32.toInt32) = (56 : Int32) then (1 : Int32) else (if ((p0 &&& (65535 : Int32)).toUInt32.toUInt16.toUInt32.toInt32) = (57 : Int32) then (1 : Int32) else (0 : Int32))))])) t → Steps p.tables e below (s₁.setTop (mkF m 57 #[.val (.int p0), .val (.int ((p0 &&& (65535 : Int32)).toUInt32.toUInt16.toUInt32.toInt32)), .unset] [(.int (56 : Int32)), (.int ((p0 &&& (65535 : Int32)).toUInt32.toUInt16.toUInt32.toInt32))])) t := fun t k => by
                                      by_cases hc57_9 : ((p0 &&& (65535 : Int32)).toUInt32.toUInt16.toUInt32.toInt32) = (56 : Int32)
                                      · simp only [if_pos hc57_9] at k
                                        refine XS.icmpYes X0.here hx rfl (pc0 := 57) (pc' := 66) rfl (hb hby at_57) rfl (teq hc57_9).1 (by decide) (by decide) ?_
                                        show Steps p.tables e below (s₁.setTop (mkF m 66 #[.val (.int p0), .val (.int ((p0 &&& (65535 : Int32)).toUInt32.toUInt16.toUInt32.toInt32)), .unset] [])) _
                                        refine XS.iconst X0.here hx rfl (hb hby at_66) ?_
                                        show Steps p.tables e below (s₁.setTop (mkF m 67 #[.val (.int p0), .val (.int ((p0 &&& (65535 : Int32)).toUInt32.toUInt16.toUInt32.toInt32)), .unset] [(.int (1 : Int32))])) _
                                        refine XS.goto X0.here hx rfl (pc0 := 67) (pc' := 71) rfl (hb hby at_67) (by decide) (by decide) ?_
                                        show Steps p.tables e below (s₁.setTop (mkF m 71 #[.val (.int p0), .val (.int ((p0 &&& (65535 : Int32)).toUInt32.toUInt16.toUInt32.toInt32)), .unset] [(.int (1 : Int32))])) _
                                        exact k
                                      · simp only [if_neg hc57_9] at k
                                        refine XS.icmpNo X0.here hx rfl (hb hby at_57) rfl (feq hc57_9).1 ?_
                                        show Steps p.tables e below (s₁.setTop (mkF m 60 #[.val (.int p0), .val (.int ((p0 &&& (65535 : Int32)).toUInt32.toUInt16.toUInt32.toInt32)), .unset] [])) _
                                        refine XS.iloadN X0.here hx rfl (hb hby at_60) rfl ?_
                                        show Steps p.tables e below (s₁.setTop (mkF m 61 #[.val (.int p0), .val (.int ((p0 &&& (65535 : Int32)).toUInt32.toUInt16.toUInt32.toInt32)), .unset] [(.int ((p0 &&& (65535 : Int32)).toUInt32.toUInt16.toUInt32.toInt32))])) _
                                        refine XS.bipush X0.here hx rfl (hb hby at_61) ?_
                                        show Steps p.tables e below (s₁.setTop (mkF m 63 #[.val (.int p0), .val (.int ((p0 &&& (65535 : Int32)).toUInt32.toUInt16.toUInt32.toInt32)), .unset] [(.int (57 : Int32)), (.int ((p0 &&& (65535 : Int32)).toUInt32.toUInt16.toUInt32.toInt32))])) _
                                        have j11 : ∀ t, Steps p.tables e below (s₁.setTop (mkF m 71 #[.val (.int p0), .val (.int ((p0 &&& (65535 : Int32)).toUInt32.toUInt16.toUInt32.toInt32)), .unset] [(.int (if ((p0 &&& (65535 : Int32)).toUInt32.toUInt16.toUInt32.toInt32) = (57 : Int32) then (1 : Int32) else (0 : Int32)))])) t → Steps p.tables e below (s₁.setTop (mkF m 63 #[.val (.int p0), .val (.int ((p0 &&& (65535 : Int32)).toUInt32.toUInt16.toUInt32.toInt32)), .unset] [(.int (57 : Int32)), (.int ((p0 &&& (65535 : Int32)).toUInt32.toUInt16.toUInt32.toInt32))])) t := fun t k => by
                                          by_cases hc63_10 : ((p0 &&& (65535 : Int32)).toUInt32.toUInt16.toUInt32.toInt32) = (57 : Int32)
                                          · simp only [if_pos hc63_10] at k
                                            refine XS.icmpNo X0.here hx rfl (hb hby at_63) rfl (teq hc63_10).2 ?_
                                            show Steps p.tables e below (s₁.setTop (mkF m 66 #[.val (.int p0), .val (.int ((p0 &&& (65535 : Int32)).toUInt32.toUInt16.toUInt32.toInt32)), .unset] [])) _
                                            refine XS.iconst X0.here hx rfl (hb hby at_66) ?_
                                            show Steps p.tables e below (s₁.setTop (mkF m 67 #[.val (.int p0), .val (.int ((p0 &&& (65535 : Int32)).toUInt32.toUInt16.toUInt32.toInt32)), .unset] [(.int (1 : Int32))])) _
                                            refine XS.goto X0.here hx rfl (pc0 := 67) (pc' := 71) rfl (hb hby at_67) (by decide) (by decide) ?_
                                            show Steps p.tables e below (s₁.setTop (mkF m 71 #[.val (.int p0), .val (.int ((p0 &&& (65535 : Int32)).toUInt32.toUInt16.toUInt32.toInt32)), .unset] [(.int (1 : Int32))])) _
                                            exact k
                                          · simp only [if_neg hc63_10] at k
                                            refine XS.icmpYes X0.here hx rfl (pc0 := 63) (pc' := 70) rfl (hb hby at_63) rfl (feq hc63_10).2 (by decide) (by decide) ?_
                                            show Steps p.tables e below (s₁.setTop (mkF m 70 #[.val (.int p0), .val (.int ((p0 &&& (65535 : Int32)).toUInt32.toUInt16.toUInt32.toInt32)), .unset] [])) _
                                            refine XS.iconst X0.here hx rfl (hb hby at_70) ?_
                                            show Steps p.tables e below (s₁.setTop (mkF m 71 #[.val (.int p0), .val (.int ((p0 &&& (65535 : Int32)).toUInt32.toUInt16.toUInt32.toInt32)), .unset] [(.int (0 : Int32))])) _
                                            exact k
                                        refine j11 _ ?_
                                        show Steps p.tables e below (s₁.setTop (mkF m 71 #[.val (.int p0), .val (.int ((p0 &&& (65535 : Int32)).toUInt32.toUInt16.toUInt32.toInt32)), .unset] [(.int (if ((p0 &&& (65535 : Int32)).toUInt32.toUInt16.toUInt32.toInt32) = (57 : Int32) then (1 : Int32) else (0 : Int32)))])) _
                                        exact k
                                    refine j12 _ ?_
                                    show Steps p.tables e below (s₁.setTop (mkF m 71 #[.val (.int p0), .val (.int ((p0 &&& (65535 : Int32)).toUInt32.toUInt16.toUInt32.toInt32)), .unset] [(.int (if ((p0 &&& (65535 : Int32)).toUInt32.toUInt16.toUInt32.toInt32) = (56 : Int32) then (1 : Int32) else (if ((p0 &&& (65535 : Int32)).toUInt32.toUInt16.toUInt32.toInt32) = (57 : Int32) then (1 : Int32) else (0 : Int32))))])) _
                                    exact k
                                refine j13 _ ?_
                                show Steps p.tables e below (s₁.setTop (mkF m 71 #[.val (.int p0), .val (.int ((p0 &&& (65535 : Int32)).toUInt32.toUInt16.toUInt32.toInt32)), .unset] [(.int (if ((p0 &&& (65535 : Int32)).toUInt32.toUInt16.toUInt32.toInt32) = (55 : Int32) then (1 : Int32) else (if ((p0 &&& (65535 : Int32)).toUInt32.toUInt16.toUInt32.toInt32) = (56 : Int32) then (1 : Int32) else (if ((p0 &&& (65535 : Int32)).toUInt32.toUInt16.toUInt32.toInt32) = (57 : Int32) then (1 : Int32) else (0 : Int32)))))])) _
                                exact k
                            refine j14 _ ?_
                            show Steps p.tables e below (s₁.setTop (mkF m 71 #[.val (.int p0), .val (.int ((p0 &&& (65535 : Int32)).toUInt32.toUInt16.toUInt32.toInt32)), .unset] [(.int (if ((p0 &&& (65535 : Int32)).toUInt32.toUInt16.toUInt32.toInt32) = (54 : Int32) then (1 : Int32) else (if ((p0 &&& (65535 : Int32)).toUInt32.toUInt16.toUInt32.toInt32) = (55 : Int32) then (1 : Int32) else (if ((p0 &&& (65535 : Int32)).toUInt32.toUInt16.toUInt32.toInt32) = (56 : Int32) then (1 : Int32) else (if ((p0 &&& (65535 : Int32)).toUInt32.toUInt16.toUInt32.toInt32) = (57 : Int32) then (1 : Int32) else (0 : Int32))))))])) _
                            exact k
                        refine j15 _ ?_
                        show Steps p.tables e below (s₁.setTop (mkF m 71 #[.val (.int p0), .val (.int ((p0 &&& (65535 : Int32)).toUInt32.toUInt16.toUInt32.toInt32)), .unset] [(.int (if ((p0 &&& (65535 : Int32)).toUInt32.toUInt16.toUInt32.toInt32) = (53 : Int32) then (1 : Int32) else (if ((p0 &&& (65535 : Int32)).toUInt32.toUInt16.toUInt32.toInt32) = (54 : Int32) then (1 : Int32) else (if ((p0 &&& (65535 : Int32)).toUInt32.toUInt16.toUInt32.toInt32) = (55 : Int32) then (1 : Int32) else (if ((p0 &&& (65535 : Int32)).toUInt32.toUInt16.toUInt32.toInt32) = (56 : Int32) then (1 : Int32) else (if ((p0 &&& (65535 : Int32)).toUInt32.toUInt16.toUInt32.toInt32) = (57 : Int32) then (1 : Int32) else (0 : Int32)))))))])) _
                        exact k
                    refine j16 _ ?_
                    show Steps p.tables e below (s₁.setTop (mkF m 71 #[.val (.int p0), .val (.int ((p0 &&& (65535 : Int32)).toUInt32.toUInt16.toUInt32.toInt32)), .unset] [(.int (if ((p0 &&& (65535 : Int32)).toUInt32.toUInt16.toUInt32.toInt32) = (52 : Int32) then (1 : Int32) else (if ((p0 &&& (65535 : Int32)).toUInt32.toUInt16.toUInt32.toInt32) = (53 : Int32) then (1 : Int32) else (if ((p0 &&& (65535 : Int32)).toUInt32.toUInt16.toUInt32.toInt32) = (54 : Int32) then (1 : Int32) else (if ((p0 &&& (65535 : Int32)).toUInt32.toUInt16.toUInt32.toInt32) = (55 : Int32) then (1 : Int32) else (if ((p0 &&& (65535 : Int32)).toUInt32.toUInt16.toUInt32.toInt32) = (56 : Int32) then (1 : Int32) else (if ((p0 &&& (65535 : Int32)).toUInt32.toUInt16.toUInt32.toInt32) = (57 : Int32) then (1 : Int32) else (0 : Int32))))))))])) _
                    exact k
                refine j17 _ ?_
                show Steps p.tables e below (s₁.setTop (mkF m 71 #[.val (.int p0), .val (.int ((p0 &&& (65535 : Int32)).toUInt32.toUInt16.toUInt32.toInt32)), .unset] [(.int (if ((p0 &&& (65535 : Int32)).toUInt32.toUInt16.toUInt32.toInt32) = (51 : Int32) then (1 : Int32) else (if ((p0 &&& (65535 : Int32)).toUInt32.toUInt16.toUInt32.toInt32) = (52 : Int32) then (1 : Int32) else (if ((p0 &&& (65535 : Int32)).toUInt32.toUInt16.toUInt32.toInt32) = (53 : Int32) then (1 : Int32) else (if ((p0 &&& (65535 : Int32)).toUInt32.toUInt16.toUInt32.toInt32) = (54 : Int32) then (1 : Int32) else (if ((p0 &&& (65535 : Int32)).toUInt32.toUInt16.toUInt32.toInt32) = (55 : Int32) then (1 : Int32) else (if ((p0 &&& (65535 : Int32)).toUInt32.toUInt16.toUInt32.toInt32) = (56 : Int32) then (1 : Int32) else (if ((p0 &&& (65535 : Int32)).toUInt32.toUInt16.toUInt32.toInt32) = (57 : Int32) then (1 : Int32) else (0 : Int32)))))))))])) _
                exact k
            refine j18 _ ?_
            show Steps p.tables e below (s₁.setTop (mkF m 71 #[.val (.int p0), .val (.int ((p0 &&& (65535 : Int32)).toUInt32.toUInt16.toUInt32.toInt32)), .unset] [(.int (if ((p0 &&& (65535 : Int32)).toUInt32.toUInt16.toUInt32.toInt32) = (50 : Int32) then (1 : Int32) else (if ((p0 &&& (65535 : Int32)).toUInt32.toUInt16.toUInt32.toInt32) = (51 : Int32) then (1 : Int32) else (if ((p0 &&& (65535 : Int32)).toUInt32.toUInt16.toUInt32.toInt32) = (52 : Int32) then (1 : Int32) else (if ((p0 &&& (65535 : Int32)).toUInt32.toUInt16.toUInt32.toInt32) = (53 : Int32) then (1 : Int32) else (if ((p0 &&& (65535 : Int32)).toUInt32.toUInt16.toUInt32.toInt32) = (54 : Int32) then (1 : Int32) else (if ((p0 &&& (65535 : Int32)).toUInt32.toUInt16.toUInt32.toInt32) = (55 : Int32) then (1 : Int32) else (if ((p0 &&& (65535 : Int32)).toUInt32.toUInt16.toUInt32.toInt32) = (56 : Int32) then (1 : Int32) else (if ((p0 &&& (65535 : Int32)).toUInt32.toUInt16.toUInt32.toInt32) = (57 : Int32) then (1 : Int32) else (0 : Int32))))))))))])) _
            exact k
        refine j19 _ ?_
        show Steps p.tables e below (s₁.setTop (mkF m 71 #[.val (.int p0), .val (.int ((p0 &&& (65535 : Int32)).toUInt32.toUInt16.toUInt32.toInt32)), .unset] [(.int (if ((p0 &&& (65535 : Int32)).toUInt32.toUInt16.toUInt32.toInt32) = (49 : Int32) then (1 : Int32) else (if ((p0 &&& (65535 : Int32)).toUInt32.toUInt16.toUInt32.toInt32) = (50 : Int32) then (1 : Int32) else (if ((p0 &&& (65535 : Int32)).toUInt32.toUInt16.toUInt32.toInt32) = (51 : Int32) then (1 : Int32) else (if ((p0 &&& (65535 : Int32)).toUInt32.toUInt16.toUInt32.toInt32) = (52 : Int32) then (1 : Int32) else (if ((p0 &&& (65535 : Int32)).toUInt32.toUInt16.toUInt32.toInt32) = (53 : Int32) then (1 : Int32) else (if ((p0 &&& (65535 : Int32)).toUInt32.toUInt16.toUInt32.toInt32) = (54 : Int32) then (1 : Int32) else (if ((p0 &&& (65535 : Int32)).toUInt32.toUInt16.toUInt32.toInt32) = (55 : Int32) then (1 : Int32) else (if ((p0 &&& (65535 : Int32)).toUInt32.toUInt16.toUInt32.toInt32) = (56 : Int32) then (1 : Int32) else (if ((p0 &&& (65535 : Int32)).toUInt32.toUInt16.toUInt32.toInt32) = (57 : Int32) then (1 : Int32) else (0 : Int32)))))))))))])) _
        exact k
    refine j20 _ ?_
    show Steps p.tables e below (s₁.setTop (mkF m 71 #[.val (.int p0), .val (.int ((p0 &&& (65535 : Int32)).toUInt32.toUInt16.toUInt32.toInt32)), .unset] [(.int (if ((p0 &&& (65535 : Int32)).toUInt32.toUInt16.toUInt32.toInt32) = (48 : Int32) then (1 : Int32) else (if ((p0 &&& (65535 : Int32)).toUInt32.toUInt16.toUInt32.toInt32) = (49 : Int32) then (1 : Int32) else (if ((p0 &&& (65535 : Int32)).toUInt32.toUInt16.toUInt32.toInt32) = (50 : Int32) then (1 : Int32) else (if ((p0 &&& (65535 : Int32)).toUInt32.toUInt16.toUInt32.toInt32) = (51 : Int32) then (1 : Int32) else (if ((p0 &&& (65535 : Int32)).toUInt32.toUInt16.toUInt32.toInt32) = (52 : Int32) then (1 : Int32) else (if ((p0 &&& (65535 : Int32)).toUInt32.toUInt16.toUInt32.toInt32) = (53 : Int32) then (1 : Int32) else (if ((p0 &&& (65535 : Int32)).toUInt32.toUInt16.toUInt32.toInt32) = (54 : Int32) then (1 : Int32) else (if ((p0 &&& (65535 : Int32)).toUInt32.toUInt16.toUInt32.toInt32) = (55 : Int32) then (1 : Int32) else (if ((p0 &&& (65535 : Int32)).toUInt32.toUInt16.toUInt32.toInt32) = (56 : Int32) then (1 : Int32) else (if ((p0 &&& (65535 : Int32)).toUInt32.toUInt16.toUInt32.toInt32) = (57 : Int32) then (1 : Int32) else (0 : Int32))))))))))))])) _
    exact k
  obtain ⟨v22, hv22⟩ : ∃ z : Int32, z = (if ((p0 &&& (65535 : Int32)).toUInt32.toUInt16.toUInt32.toInt32) = (48 : Int32) then (1 : Int32) else (if ((p0 &&& (65535 : Int32)).toUInt32.toUInt16.toUInt32.toInt32) = (49 : Int32) then (1 : Int32) else (if ((p0 &&& (65535 : Int32)).toUInt32.toUInt16.toUInt32.toInt32) = (50 : Int32) then (1 : Int32) else (if ((p0 &&& (65535 : Int32)).toUInt32.toUInt16.toUInt32.toInt32) = (51 : Int32) then (1 : Int32) else (if ((p0 &&& (65535 : Int32)).toUInt32.toUInt16.toUInt32.toInt32) = (52 : Int32) then (1 : Int32) else (if ((p0 &&& (65535 : Int32)).toUInt32.toUInt16.toUInt32.toInt32) = (53 : Int32) then (1 : Int32) else (if ((p0 &&& (65535 : Int32)).toUInt32.toUInt16.toUInt32.toInt32) = (54 : Int32) then (1 : Int32) else (if ((p0 &&& (65535 : Int32)).toUInt32.toUInt16.toUInt32.toInt32) = (55 : Int32) then (1 : Int32) else (if ((p0 &&& (65535 : Int32)).toUInt32.toUInt16.toUInt32.toInt32) = (56 : Int32) then (1 : Int32) else (if ((p0 &&& (65535 : Int32)).toUInt32.toUInt16.toUInt32.toInt32) = (57 : Int32) then (1 : Int32) else (0 : Int32))))))))))) := ⟨_, rfl⟩
  have pre22 : Lead p e below G (s₁.setTop (mkF m 71 #[.val (.int p0), .val (.int ((p0 &&& (65535 : Int32)).toUInt32.toUInt16.toUInt32.toInt32)), .unset] [(.int v22)])) := by rw [hv22]; exact pre21
  have pre23 : Lead p e below G (s₁.setTop (mkF m 73 #[.val (.int p0), .val (.int ((p0 &&& (65535 : Int32)).toUInt32.toUInt16.toUInt32.toInt32)), .val (.int v22)] [(.int ((p0 &&& (65535 : Int32)).toUInt32.toUInt16.toUInt32.toInt32))])) := fun t k => by
    refine pre22 t ?_
    show Steps p.tables e below (s₁.setTop (mkF m 71 #[.val (.int p0), .val (.int ((p0 &&& (65535 : Int32)).toUInt32.toUInt16.toUInt32.toInt32)), .unset] [(.int v22)])) _
    refine XS.istoreN X0.here hx rfl (hb hby at_71) rfl (l' := #[.val (.int p0), .val (.int ((p0 &&& (65535 : Int32)).toUInt32.toUInt16.toUInt32.toInt32)), .val (.int v22)]) rfl ?_
    show Steps p.tables e below (s₁.setTop (mkF m 72 #[.val (.int p0), .val (.int ((p0 &&& (65535 : Int32)).toUInt32.toUInt16.toUInt32.toInt32)), .val (.int v22)] [])) _
    refine XS.iloadN X0.here hx rfl (hb hby at_72) rfl ?_
    show Steps p.tables e below (s₁.setTop (mkF m 73 #[.val (.int p0), .val (.int ((p0 &&& (65535 : Int32)).toUInt32.toUInt16.toUInt32.toInt32)), .val (.int v22)] [(.int ((p0 &&& (65535 : Int32)).toUInt32.toUInt16.toUInt32.toInt32))])) _
    exact k
  obtain ⟨v24, hv24⟩ : ∃ z : Int32, z = ((p0 &&& (65535 : Int32)).toUInt32.toUInt16.toUInt32.toInt32) := ⟨_, rfl⟩
  have pre24 : Lead p e below G (s₁.setTop (mkF m 73 #[.val (.int p0), .val (.int v24), .val (.int v22)] [(.int v24)])) := by rw [hv24]; exact pre23
  obtain ⟨_, _, ⟨T25, L25, k25, n25⟩, -, X25, ⟨Lc25, hQ25, l25, y25, z25⟩, st25⟩ := Jvm.LawKit.callS X0 hx (y := (⟨"com/example/lean_throttle/leanthrottle/Digits", "isDigit", "(C)Z"⟩ : MethodName)) hown (mvT hZ (hw _ (List.mem_of_getElem? (i := 1) rfl))) (mvT hZ (hw _ (List.mem_of_getElem? (i := 2) rfl))) (mvT hZ (hw _ (List.mem_of_getElem? (i := 3) rfl))) (mvT hZ (hw _ (List.mem_of_getElem? (i := 4) rfl))) (by decide) (backOf (W := 0) (rm1 l Z a0 hw [] v24 h0 n0 Z0) hZ (hw _ (List.mem_of_getElem? (i := 4) rfl)) (hw _ (List.mem_of_getElem? (i := 3) rfl)) (by decide) (by decide)) (g := (mkF m 73 #[.val (.int p0), .val (.int v24), .val (.int v22)] [(.int v24)])) rfl (by rw [hml]; rfl) (argsL := [(.int v24)]) (rest := []) (lenOf pd__28_C_29_Z rfl) rfl (by show 2 * 0 + _ ≤ _; exact Nat.le_of_eq rfl) (hb hby at_73) (fun _ _ => ⟨rfl, e0, (by decide : 0 + 0 ≤ _), (by decide : 0 + 0 ≤ _)⟩)
  dsimp only [Pt.U, Pt.locs, Pt.cells, Pt.slots] at X25 l25 y25 z25 st25 hQ25
  subst l25 y25 z25
  obtain ⟨rfl, N25q, e25⟩ := hQ25
  have N25 := Fr.app N0 N25q
  have pre25 : Lead p e below G (T25.setTop (mkF m 76 #[.val (.int p0), .val (.int v24), .val (.int v22)] [(.int (F1 v24))])) := fun t k => pre24 t (st25 _ k)
  obtain ⟨fs, hr, hrun, hended, hW, hsame⟩ := X25.leave (v := some (.int (nar .boolean (if (F1 v24) = v22 then (1 : Int32) else (0 : Int32))))) (fun h => by rw [Bd.returns] at h; cases h)
  subst hG
  refine ⟨_, _, pre25 _ ?_, hrun, hended, _, _, rfl, ?_, ⟨_, rfl⟩, hW, hsame.mono (by decide) (by decide)⟩
  · show Steps p.tables e below (T25.setTop (mkF m 76 #[.val (.int p0), .val (.int v24), .val (.int v22)] [(.int (F1 v24))])) _
    refine XS.iloadN X25.here hx rfl (hb hby at_76) rfl ?_
    show Steps p.tables e below (T25.setTop (mkF m 77 #[.val (.int p0), .val (.int v24), .val (.int v22)] [(.int v22), (.int (F1 v24))])) _
    have j27 : ∀ t, Steps p.tables e below (T25.setTop (mkF m 85 #[.val (.int p0), .val (.int v24), .val (.int v22)] [(.int (if (F1 v24) = v22 then (1 : Int32) else (0 : Int32)))])) t → Steps p.tables e below (T25.setTop (mkF m 77 #[.val (.int p0), .val (.int v24), .val (.int v22)] [(.int v22), (.int (F1 v24))])) t := fun t k => by
      by_cases hc77_26 : (F1 v24) = v22
      · simp only [if_pos hc77_26] at k
        refine XS.icmpNo X25.here hx rfl (hb hby at_77) rfl (teq hc77_26).2 ?_
        show Steps p.tables e below (T25.setTop (mkF m 80 #[.val (.int p0), .val (.int v24), .val (.int v22)] [])) _
        refine XS.iconst X25.here hx rfl (hb hby at_80) ?_
        show Steps p.tables e below (T25.setTop (mkF m 81 #[.val (.int p0), .val (.int v24), .val (.int v22)] [(.int (1 : Int32))])) _
        refine XS.goto X25.here hx rfl (pc0 := 81) (pc' := 85) rfl (hb hby at_81) (by decide) (by decide) ?_
        show Steps p.tables e below (T25.setTop (mkF m 85 #[.val (.int p0), .val (.int v24), .val (.int v22)] [(.int (1 : Int32))])) _
        exact k
      · simp only [if_neg hc77_26] at k
        refine XS.icmpYes X25.here hx rfl (pc0 := 77) (pc' := 84) rfl (hb hby at_77) rfl (feq hc77_26).2 (by decide) (by decide) ?_
        show Steps p.tables e below (T25.setTop (mkF m 84 #[.val (.int p0), .val (.int v24), .val (.int v22)] [])) _
        refine XS.iconst X25.here hx rfl (hb hby at_84) ?_
        show Steps p.tables e below (T25.setTop (mkF m 85 #[.val (.int p0), .val (.int v24), .val (.int v22)] [(.int (0 : Int32))])) _
        exact k
    refine j27 _ ?_
    show Steps p.tables e below (T25.setTop (mkF m 85 #[.val (.int p0), .val (.int v24), .val (.int v22)] [(.int (if (F1 v24) = v22 then (1 : Int32) else (0 : Int32)))])) _
    exact retN X25 hx (t := .boolean) Bd.returns (by simp) (hb hby at_85) hr
  · show Q0 Z p0 h0 n0 _ T25.heap _
    rw [e25]
    refine ⟨congrArg (fun z => some (Value.int z)) (Eq.trans (?_ : (nar .boolean (if (F1 v24) = v22 then (1 : Int32) else (0 : Int32))) = F0 p0) (own_law p0)), N25⟩
    subst hv24 hv22
    rfl
set_option maxRecDepth 65536 in
set_option maxHeartbeats 40000000 in
theorem comes_1 {Post : Tables → Env → Array Value → State → Outcome → State → Prop} (hpost : ∀ tb e args s v u, (limb_1_1.after args s (.returned v) u = true ∧ limb_1_2.after args s (.returned v) u = true ∧ True) → FrameEnd s (.returned v) u (Jvm.fieldLocs frame_1_writes args s ++ Jvm.arrayLocs frame_1_arrays args s ++ Jvm.staticLocs frame_1_statics s) 0 0 → Post tb e args s (.returned v) u) :
    ArmFor flags0 classFile x code maxLocals ret World_1 tables_1 room_1 Calls_1 rest_1 Pre_1 Post := by
  intro l hfl _ _ p e ha hc hk s m args below hf hA hF happ hP
  obtain ⟨hcalls, hrest, hpre⟩ := hP
  obtain ⟨-, -, -, hnamed, -, -, -, hat⟩ := (Spec.applies_iff hf).mp happ
  obtain ⟨hg, hn⟩ := and_e (Cond.before_iff.mp (show (Jvm.Cond.and given_1 narrow_1).before args s = true from hpre))
  obtain ⟨g1, g2⟩ := and_e hg
  obtain ⟨w0, rfl⟩ : ∃ w0 : Value, args = #[w0] := by
    have hs : args.size = 1 := by simpa [Cond.value, given_1] using g1
    obtain ⟨L⟩ := args
    match L, hs with
    | [w0], _ => exact ⟨w0, rfl⟩
  have hw := fun d (hd : d ∈ tables_1) => atoms_spec (ws := Jvm.Cond.code x code maxLocals ret :: tables_1) hat d (List.mem_cons_of_mem _ hd)
  obtain ⟨i0, ei0⟩ := is_v g2
  obtain rfl : w0 = (.int i0) := Option.some.inj ei0
  obtain ⟨n, o, h1, h2, h3, _, L, rfl, ⟨rfl, N⟩, hq⟩ := rm0 l s _ hw tables_1 i0 s.heap s.heap.size (Nat.le_refl _) p e ha hc hk s m _ below hf ((Spec.applies_iff_loose hf).mp happ).1 ⟨rfl, State.Warmed39.refl s, rfl⟩ trivial
  refine ⟨n, _, h1, h2, h3, hpost _ _ _ _ _ _ ⟨Cond.after_iff.mpr rfl, Cond.after_iff.mpr (eq_i res_at (Term.int_eval (1)) rfl), trivial⟩ ⟨hq.1, hq.2.1, (hq.2.2.sift fun y hy => Or.inr (N y hy)).mono (by decide) (by decide)⟩⟩
theorem main_1_1 : Claimed_1_1 := comes_1 fun _ _ _ _ _ _ h hF => ⟨h.1, hF⟩
theorem main_1_2 : Claimed_1_2 := comes_1 fun _ _ _ _ _ _ h hF => ⟨h.2.1, hF⟩
end Jvm.Pilot.@@N@@
namespace Jvm.Pilot.@@N@@
open Jvm Jvm.ClassFile Sem Op Lib Jvm.Free Jvm.Stand Jvm.Pilot.@@N@@.Jvm.D
/-! MADE BY PROGRAM (witnessworld.py) out of the Statement's table words and the real class files: 9 classes; the members and pool entries that the words name. The judged class is class 1, her method 1. -/
namespace start1
open Jvm.ClassFile
def u (s : String) : CpInfo := .utf8 (stringToUtf16 s)
/-- a pool by its gaps: so many unusable entries, then the entry; so many at the end -/
def gap : Nat → List CpInfo → List CpInfo
  | 0, r => r
  | n + 1, r => .unusable :: gap n r
def poolList (es : List (Nat × CpInfo)) (last : Nat) : List CpInfo := es.foldr (fun e r => gap e.1 (e.2 :: r)) (gap last [])
def pool (es : List (Nat × CpInfo)) (last : Nat) : Array CpInfo := ⟨poolList es last⟩
def fileOf (pool : Array CpInfo) (this : Nat) (attrs : Array Attribute := #[]) (ms : Array MethodInfo := #[]) (fl : Nat := 33) (sup : Nat := 0) (ifs : Array Nat := #[]) (fds : Array FieldInfo := #[]) : ClassFile where
  minorVersion := 0
  majorVersion := 65
  constantPool := pool
  accessFlags := fl
  thisClass := this
  superClass := sup
  interfaces := ifs
  fields := fds
  methods := ms
  attributes := attrs
def plain (name : String) (sup : Option ClassId) : Class where
  name := name
  kind := .ordinary
  loader := none
  accessFlags := 33
  super := sup
  interfaces := #[]
  cf := none
  fields := #[]
  methods := #[]
  instanceTypes := #[]
  staticTypes := #[]
  resolved := #[]
  callSites := []
  init := .initialized
  statics := none
  mirror := none

def pool0 : Array CpInfo := pool [(5, u "<init>"), (0, u "()V"), (1, .class_ 10), (1, u "java/lang/Object")] 113

def k0m0 : Method := { name := "<init>", desc := "()V", sig := { parameters := [], returnType := none }, accessFlags := 1, code := none }
/-- java/lang/Object -/
def k0 : Class := { plain "java/lang/Object" none with
  accessFlags := 33
  interfaces := #[]
  cf := some (fileOf pool0 8 #[] #[{ accessFlags := 1, nameIndex := 5, descriptorIndex := 6, attributes := #[] }] 33 0 #[] #[])
  fields := #[]
  methods := #[k0m0]
  instanceTypes := #[]
  staticTypes := #[]
  resolved := Array.replicate 124 none
  statics := none }

def pool1 : Array CpInfo := pool [(2, .class_ 4), (1, u "java/lang/Object"), (0, u "<init>"), (0, u "()V"), (0, .integer 65535), (0, .methodref 9 10), (0, .class_ 11), (0, .nameAndType 12 13), (0, u "com/example/lean_throttle/leanthrottle/Digits"), (0, u "isDigit"), (0, u "(C)Z"), (0, .class_ 15), (0, u "com/example/lean_throttle/leanthrottle/DigitsIsDigitPinLaw"), (2, u "law"), (0, u "(I)Z")] 3

def k1m0 : Method := { name := "<init>", desc := "()V", sig := { parameters := [], returnType := none }, accessFlags := 2, code := none }
def k1c1 : Code := { maxStack := 2, maxLocals := 3, code := code, exceptionTable := #[], attributes := #[] }
def k1m1 : Method := { name := "law", desc := "(I)Z", sig := { parameters := [.int], returnType := some .boolean }, accessFlags := 9, code := some k1c1 }
/-- com/example/lean_throttle/leanthrottle/DigitsIsDigitPinLaw -/
def k1 : Class := { plain "com/example/lean_throttle/leanthrottle/DigitsIsDigitPinLaw" (some 0) with
  accessFlags := 49
  interfaces := #[]
  cf := some (fileOf pool1 14 #[] #[{ accessFlags := 2, nameIndex := 5, descriptorIndex := 6, attributes := #[] }, { accessFlags := 9, nameIndex := 18, descriptorIndex := 19, attributes := #[] }] 49 2 #[] #[])
  fields := #[]
  methods := #[k1m0, k1m1]
  instanceTypes := #[]
  staticTypes := #[]
  resolved := Array.replicate 23 none
  statics := none }

def pool2 : Array CpInfo := pool [(2, .class_ 4), (1, u "java/lang/Object"), (0, u "<init>"), (0, u "()V"), (7, .class_ 16), (1, u "com/example/lean_throttle/leanthrottle/Digits"), (8, u "isDigit"), (0, u "(C)Z")] 6

def k2m0 : Method := { name := "<init>", desc := "()V", sig := { parameters := [], returnType := none }, accessFlags := 2, code := none }
def k2c1 : Code := { maxStack := 2, maxLocals := 1, code := prog_5_method_2_code, exceptionTable := #[], attributes := #[] }
def k2m1 : Method := { name := "isDigit", desc := "(C)Z", sig := { parameters := [.char], returnType := some .boolean }, accessFlags := 8, code := some k2c1 }
/-- com/example/lean_throttle/leanthrottle/Digits -/
def k2 : Class := { plain "com/example/lean_throttle/leanthrottle/Digits" (some 0) with
  accessFlags := 32
  interfaces := #[]
  cf := some (fileOf pool2 14 #[] #[{ accessFlags := 2, nameIndex := 5, descriptorIndex := 6, attributes := #[] }, { accessFlags := 8, nameIndex := 25, descriptorIndex := 26, attributes := #[] }] 32 2 #[] #[])
  fields := #[]
  methods := #[k2m0, k2m1]
  instanceTypes := #[]
  staticTypes := #[]
  resolved := Array.replicate 33 none
  statics := none }

def pool3 : Array CpInfo := pool [(1, u "java/lang/Cloneable"), (0, .class_ 1), (0, u "java/lang/Object"), (0, .class_ 3)] 3

/-- java/lang/Cloneable -/
def k3 : Class := { plain "java/lang/Cloneable" (some 0) with
  accessFlags := 1537
  interfaces := #[]
  cf := some (fileOf pool3 2 #[] #[] 1537 4 #[] #[])
  fields := #[]
  methods := #[]
  instanceTypes := #[]
  staticTypes := #[]
  resolved := Array.replicate 8 none
  statics := none }

def pool4 : Array CpInfo := pool [(1, u "java/io/Serializable"), (0, .class_ 1), (0, u "java/lang/Object"), (0, .class_ 3)] 3

/-- java/io/Serializable -/
def k4 : Class := { plain "java/io/Serializable" (some 0) with
  accessFlags := 1537
  interfaces := #[]
  cf := some (fileOf pool4 2 #[] #[] 1537 4 #[] #[])
  fields := #[]
  methods := #[]
  instanceTypes := #[]
  staticTypes := #[]
  resolved := Array.replicate 8 none
  statics := none }

/-- the primitive byte -/
def k5 : Class := { plain "byte" none with kind := .primitive 'B', accessFlags := 0x411 }
/-- [B -/
def k6 : Class := { plain "[B" (some 0) with kind := .array 5 .byte, interfaces := #[3, 4], accessFlags := 1041 }

/-- the primitive int -/
def k7 : Class := { plain "int" none with kind := .primitive 'I', accessFlags := 0x411 }
/-- [I -/
def k8 : Class := { plain "[I" (some 0) with kind := .array 7 .int, interfaces := #[3, 4], accessFlags := 1041 }

def heap : Heap := #[]
def classes : Array Class := #[k0, k1, k2, k3, k4, k5, k6, k7, k8]
def interned : List (Array UInt16 × Addr) := []
def slotsUsed : Nat := 0
def theMethod : MethodId := ⟨1, 1⟩
def args0 : Array Value := #[.int 5]
def aboutOver (below : List Frame) : State where
  vm := { classes := classes, interned := interned.toArray }
  heap := heap
  slotsUsed := slotsUsed
  threads := #[{ frames := .invoking theMethod args0 :: below }]
def below0 : List Frame := [.native { method := ⟨0, 0⟩, args := #[] }]
def about1 : State := aboutOver below0
def p0 : Program := .bare "" "" ""
def e0 : Env := launch0.env 0 0 0
theorem w_frames : about1.frames = Frame.invoking theMethod args0 :: below0 := rfl
set_option maxRecDepth 65536 in
theorem w_args : argsFit about1.vm theMethod args0 = true := by decide +kernel
set_option maxRecDepth 65536 in
theorem w_heap : heapFits about1 = true := by decide +kernel
set_option maxRecDepth 65536 in
theorem w_runnable : about1.curStatus? = some .runnable := by decide +kernel
set_option maxRecDepth 65536 in
theorem w_alone : about1.alone = true := by decide +kernel
set_option maxRecDepth 65536 in
theorem w_named : about1.methodNamed? x = some theMethod := by decide +kernel
set_option maxRecDepth 65536 in
theorem w_hears : about1.hears theMethod below0 = true := by decide +kernel
set_option maxRecDepth 65536 in
theorem w_ripe : about1.ripe theMethod args0 below0 = true := by decide +kernel
theorem w_running : about1.status = .running := rfl
set_option maxRecDepth 65536 in
theorem w_room : about1.hasRoom e0.platform room_1 = true :=
  launch0.hasRoom_least _ room_1 (by decide +kernel) (by decide +kernel) (by decide +kernel) (by decide +kernel) (by decide +kernel) (by decide +kernel)
theorem allAtoms_all (ts : List Jvm.Cond) (a : Array Jvm.Value) (st : Jvm.State) : (allAtoms ts).before a st = ts.all (fun c => c.before a st) := by
  induction ts with
  | nil => rfl
  | cons c t ih =>
    show (Jvm.Cond.and c (allAtoms t)).before a st = _
    rw [Jvm.Cond.before_and, ih, List.all_cons]
def words1 : List Jvm.Cond := Jvm.Cond.code x code maxLocals ret :: tables_1
/-- a 'code' word, met by the world's own term for the bytes: nothing is compared byte by byte -/
theorem code_word {y : MethodName} {bytes : ByteArray} {mx : Nat} {rt : Option FieldType} {a : Array Value} {s : State} {m : MethodId} {meth : Method} {c : Code} (h1 : s.methodNamed? y = some m) (h2 : s.vm.method? m = some meth) (h3 : meth.code = some c) (h4 : c.code = bytes)
    (h5 : (c.maxLocals == mx && c.exceptionTable.isEmpty && decide (c.maxStack ≤ mostOperands) && decide (meth.sig.returnType = rt) && !meth.locks && decide (parseMethodDescriptor y.desc = some meth.sig)) = true) : (Jvm.Cond.code y bytes mx rt).before a s = true := by
  simp only [Bool.and_eq_true, beq_iff_eq, Bool.not_eq_true', decide_eq_true_eq] at h5
  obtain ⟨⟨⟨⟨⟨g1, g2⟩, g3⟩, g4⟩, g5⟩, g6⟩ := h5
  simp [Cond.before, Cond.holds, Cond.value, h1, h2, h3, h4, g1, g2, g3, g4, g5, g6]
def isCode : Jvm.Cond → Bool
  | .code _ _ _ _ => true
  | _ => false
theorem all_split {L : List Jvm.Cond} {P : Jvm.Cond → Bool} (h1 : L.all (fun c => isCode c || P c) = true) (h2 : ∀ c ∈ L.filter isCode, P c = true) : L.all P = true := by
  refine List.all_eq_true.mpr fun c hc => ?_
  have h := List.all_eq_true.mp h1 c hc
  rcases Bool.eq_false_or_eq_true (isCode c) with hi | hi
  · exact h2 c (List.mem_filter.mpr ⟨hc, hi⟩)
  · simpa [hi] using h
set_option maxRecDepth 65536 in
theorem w_c0 : (Jvm.Cond.code x code maxLocals ret).before args0 about1 = true := code_word (m := ⟨1, 1⟩) (meth := k1m1) (c := k1c1) (by decide +kernel) rfl rfl rfl (by decide +kernel)
set_option maxRecDepth 65536 in
theorem w_c1 : (Jvm.Cond.code ({ cls := "com/example/lean_throttle/leanthrottle/Digits", name := "isDigit", desc := "(C)Z" } : Jvm.MethodName) prog_5_method_2_code (1 : Nat) (Option.some Jvm.ClassFile.FieldType.boolean)).before args0 about1 = true := code_word (m := ⟨2, 1⟩) (meth := k2m1) (c := k2c1) (by decide +kernel) rfl rfl rfl (by decide +kernel)
def codes1 : List Jvm.Cond := [Jvm.Cond.code x code maxLocals ret, Jvm.Cond.code ({ cls := "com/example/lean_throttle/leanthrottle/Digits", name := "isDigit", desc := "(C)Z" } : Jvm.MethodName) prog_5_method_2_code (1 : Nat) (Option.some Jvm.ClassFile.FieldType.boolean)]
set_option maxRecDepth 65536 in
theorem codes_eq : words1.filter isCode = codes1 := rfl
theorem w_codes : ∀ c ∈ words1.filter isCode, c.before args0 about1 = true := by
  rw [codes_eq]
  intro c hc
  simp only [codes1, List.mem_cons, List.not_mem_nil, or_false] at hc
  rcases hc with rfl | rfl
  · exact w_c0
  · exact w_c1
set_option maxRecDepth 65536 in
theorem w_t1 : words1.all (fun c => isCode c || c.before args0 about1) = true := by decide +kernel
theorem w_tables : (allAtoms (Jvm.Cond.code x code maxLocals ret :: tables_1)).before args0 about1 = true := by
  rw [allAtoms_all]
  show words1.all (fun c => c.before args0 about1) = true
  refine all_split ?_ w_codes
  rw [w_t1]
set_option maxRecDepth 65536 in
theorem w_case : (Jvm.Cond.and given_1 narrow_1).before args0 about1 = true := by decide +kernel
theorem w_applies : (headSpec (Jvm.Cond.code x code maxLocals ret :: tables_1) room_1).applies x e0.platform about1 = true :=
  (Spec.applies_iff w_frames).mpr ⟨w_running, w_runnable, w_alone, w_named, w_hears, w_ripe, w_room, w_tables⟩
theorem atStart : AtStart classFile x code maxLocals ret World_1 tables_1 room_1 Calls_1 rest_1 Pre_1 launch0 p0 e0 about1 theMethod args0 below0 :=
  ⟨lists_1, trivial, launch0.admits_env _ _ _, launch0.least_env, fairChoices_fair.cas, fairChoices_fair.clock, w_frames, w_args, w_heap, w_applies, trivial, trivial, w_case⟩
end start1
theorem witness_1 : WitnessClaimed_1 := ⟨start1.p0, start1.e0, start1.about1, start1.theMethod, start1.args0, start1.below0, start1.atStart⟩
end Jvm.Pilot.@@N@@

import JvmDerived
import JvmDerived.Pilot.@@N@@Statement
import JvmDerived.Pilot.@@N@@Code
set_option linter.unusedVariables false
set_option linter.unusedSimpArgs false
@@BLOCK:NumsL.lean.txt@@
@@BLOCK:Masks.lean.txt@@
namespace Jvm.RoadKit
open Sem ClassFile Op Lib Jvm.Stand Jvm.Free Jvm.LawKit
section New
variable {p : Program} {l : Launch} {e : Env} {R : Room} {s : State} {m : MethodId} {args : Array Value} {below : List Frame} {meth : Method} {c : Code} {T : State} {locs : List Loc} {cells slots : Nat}
theorem retI (X : Stand p l e R s m args below meth c T locs cells slots) (hx : p.tables.exec = Jvm.exec) {pc : Nat} {Ls : Array Slot} {z : Int32} {rest : List Value} (hret : meth.sig.returnType = some .int) (hd : decode c.code pc = .ok (.ireturn, 1)) {fs : List Frame}
    (hl : ∀ (f : JFrame) (acts : List Action), f.method = m → f.locked = none → f.entered = [] → (doReturn e (T.setTop f) acts (some (.int z))).1 = T.setFrames fs) : Steps p.tables e below (T.setTop (mkF m pc Ls (.int z :: rest))) (T.setFrames fs) := by
  have hm' : T.vm.method? m = some meth := X.method'
  have hn : narrow .int (.int z) = .int z := rfl
  show Steps p.tables e below (T.setTop { method := m, pc := pc, locals := Ls, stack := _ :: rest, locked := none }) _
  jvm_step X.here [X.here.top, hx, hd, hm', hret, hn]
  first | (intro acts; rw [hl _ acts rfl rfl rfl]) | rw [hl _ _ rfl rfl rfl]
  exact Steps.refl _
theorem retJ (X : Stand p l e R s m args below meth c T locs cells slots) (hx : p.tables.exec = Jvm.exec) {pc : Nat} {Ls : Array Slot} {z : Int64} {rest : List Value} (hret : meth.sig.returnType = some .long) (hd : decode c.code pc = .ok (.lreturn, 1)) {fs : List Frame}
    (hl : ∀ (f : JFrame) (acts : List Action), f.method = m → f.locked = none → f.entered = [] → (doReturn e (T.setTop f) acts (some (.long z))).1 = T.setFrames fs) : Steps p.tables e below (T.setTop (mkF m pc Ls (.long z :: rest))) (T.setFrames fs) := by
  have hm' : T.vm.method? m = some meth := X.method'
  have hn : narrow .long (.long z) = .long z := rfl
  show Steps p.tables e below (T.setTop { method := m, pc := pc, locals := Ls, stack := _ :: rest, locked := none }) _
  jvm_step X.here [X.here.top, hx, hd, hm', hret, hn]
  first | (intro acts; rw [hl _ acts rfl rfl rfl]) | rw [hl _ _ rfl rfl rfl]
  exact Steps.refl _
end New
theorem own_ite {α : Type} {P : Prop} [Decidable P] {f : α → Prop} {a b : α} (ha : f a) (hb : f b) : f (if P then a else b) := by split <;> assumption
theorem own_lc_eq {x y : Int64} : lcmpW x y = 0 ↔ x = y := by rw [lcW]; exact lc_eq x y
theorem own_lc_lt {x y : Int64} : lcmpW x y < 0 ↔ x < y := by rw [lcW]; exact lc_lt x y
theorem own_lc_gt {x y : Int64} : 0 < lcmpW x y ↔ y < x := by rw [lcW]; exact lc_gt x y
end Jvm.RoadKit
namespace Jvm.RoadKit
open Sem ClassFile Op Lib Jvm.Stand Jvm.Free Jvm.LawKit
section Own
variable {Z : State} {h h' : Heap} {a b : Addr} {ty : FieldType} {n j : Int32} {sl : Nat} {v : Value} {ws : List Addr} {α : Type} {mk : α → Value} {g : Nat → α} {w : α}
/-- an array: its kind, its length and, by a function, what it holds -/
def JV (mk : α → Value) (Z : State) (h : Heap) (a : Addr) (ty : FieldType) (n : Int32) (g : Nat → α) : Prop := ∃ c : Cell, Arr Z h a c ty ∧ c.slots.size = n.toNatClampNeg ∧ ¬ n < 0 ∧ ∀ i, i < c.slots.size → c.slots[i]? = some (mk (g i))
def updF (g : Nat → α) (k : Nat) (w : α) : Nat → α := fun i => if i = k then w else g i
theorem JV.lt (F : JV mk Z h a ty n g) : a < h.size := by obtain ⟨c, A, -⟩ := F; exact A.lt
theorem JV.ext (F : JV mk Z h a ty n g) (E : Ext h h') : JV mk Z h' a ty n g := by obtain ⟨c, A, r⟩ := F; exact ⟨c, A.ext E, r⟩
theorem JV.other (F : JV mk Z h b ty n g) (W : Wr h h' a sl v) (q : b ≠ a) : JV mk Z h' b ty n g := by obtain ⟨c, A, r⟩ := F; exact ⟨c, A.other W q, r⟩
theorem JV.keep (F : JV mk Z h a ty n g) (K : Keep h h' ws) (q : a ∉ ws) : JV mk Z h' a ty n g := by obtain ⟨c, A, r⟩ := F; exact ⟨c, ⟨K.2.1 a c A.1 q, A.2⟩, r⟩
theorem JV.new {k : ClassId} (A : Arr Z h a (newA k ty n) ty) (q : ¬ n < 0) (w : α) (hd : defaultValue ty = mk w) : JV mk Z h a ty n (fun _ => w) := by
  obtain ⟨c, A', -, S, N, H, -⟩ := Arv.new A q
  exact ⟨c, A', S, N, fun i hi => by rw [H i hi, hd]; rfl⟩
theorem JV.in (F : JV mk Z h a ty n g) (q : ¬ j < 0 ∧ j < n) : ∃ c : Cell, Arr Z h a c ty ∧ ¬ (j < 0 ∨ c.slots.size ≤ j.toNatClampNeg) ∧ c.slots[j.toNatClampNeg]? = some (mk (g j.toNatClampNeg)) := by
  obtain ⟨c, A, S, N, H⟩ := F
  have hin := inb_of S q
  exact ⟨c, A, hin, H _ (Nat.lt_of_not_le fun y => hin (Or.inr y))⟩
theorem JV.len (F : JV mk Z h a ty n g) : ∃ c : Cell, Arr Z h a c ty ∧ c.slots.size.toInt32 = n := by
  obtain ⟨c, A, S, N, H⟩ := F
  exact ⟨c, A, len_of S N⟩
theorem JV.nn (F : JV mk Z h a ty n g) : ¬ n < 0 := by obtain ⟨c, A, S, N, H⟩ := F; exact N
theorem JV.set (F : JV mk Z h a ty n g) (W : Wr h h' a j.toNatClampNeg (mk w)) : JV mk Z h' a ty n (updF g j.toNatClampNeg w) := by
  obtain ⟨c, A, S, N, H⟩ := F
  refine ⟨_, A.same W, ?_, N, ?_⟩
  · rw [← S]; simp [Cell.setSlot]
  · intro i hi
    have hi' : i < c.slots.size := by simpa [Cell.setSlot] using hi
    obtain ⟨cell, h1, -, h3, rfl⟩ := W
    cases A.1.symm.trans h1
    by_cases e : i = j.toNatClampNeg
    · subst e; simp [Cell.setSlot, updF, hi']
    · rw [show (c.setSlot j.toNatClampNeg (mk w)).slots[i]? = c.slots[i]? from by simp [Cell.setSlot, Array.getElem?_setIfInBounds, Ne.symm e], H i hi']
      simp [updF, e]
end Own
end Jvm.RoadKit
namespace Jvm.Pilot.@@N@@
open Jvm Jvm.ClassFile Sem Op Lib Jvm.Free Jvm.Stand Jvm.LawKit Jvm.RoadKit Bundle Jvm.Pilot.@@N@@.Jvm.D
def Lead (p : Program) (e : Env) (below : List Frame) (A B : State) : Prop := ∀ t, Steps p.tables e below B t → Steps p.tables e below A t
theorem d1_0 : decode prog_29_method_7_code 0 = .ok (.iload_n 0, 1) := by decide +kernel
theorem d1_1 : decode prog_29_method_7_code 1 = .ok (.i2l, 1) := by decide +kernel
theorem d1_2 : decode prog_29_method_7_code 2 = .ok (.iload_n 1, 1) := by decide +kernel
theorem d1_3 : decode prog_29_method_7_code 3 = .ok (.i2l, 1) := by decide +kernel
theorem d1_4 : decode prog_29_method_7_code 4 = .ok (.lmul, 1) := by decide +kernel
theorem d1_5 : decode prog_29_method_7_code 5 = .ok (.ldc2_w 70, 3) := by decide +kernel
theorem d1_8 : decode prog_29_method_7_code 8 = .ok (.ladd, 1) := by decide +kernel
theorem d1_9 : decode prog_29_method_7_code 9 = .ok (.lconst 1, 1) := by decide +kernel
theorem d1_10 : decode prog_29_method_7_code 10 = .ok (.lsub, 1) := by decide +kernel
theorem d1_11 : decode prog_29_method_7_code 11 = .ok (.bipush 6, 2) := by decide +kernel
theorem d1_13 : decode prog_29_method_7_code 13 = .ok (.lushr, 1) := by decide +kernel
theorem d1_14 : decode prog_29_method_7_code 14 = .ok (.l2i, 1) := by decide +kernel
theorem d1_15 : decode prog_29_method_7_code 15 = .ok (.ireturn, 1) := by decide +kernel
def F1 (p0 : Int32) (p1 : Int32) : Int32 := (((((((p0.toInt64) * (p1.toInt64)) + (64 : Int64)) - (1 : Int64)).toUInt64 >>> ((6 : Int32) &&& 0x3f).toInt64.toUInt64).toInt64).toInt32)
theorem pn_com_example_findwright_findwright_PackedInts : plainName "com/example/findwright/findwright/PackedInts" = true := by first | (simp [plainName, overriddenIn]; done) | decide +kernel
theorem ef_1 (m : MethodId) (p0 : Int32) (p1 : Int32) : entryFrame m #[(.int p0), (.int p1)] 2 = mkF m 0 #[.val (.int p0), .val (.int p1)] [] := by first | (simp [entryFrame, mkF, argsToLocals, Value.category]; done) | rfl
def Q1 (Z : State) (p0 : Int32) (p1 : Int32)  (h0 : Heap) (n0 : Nat) (v : Option Value) (h : Heap) (L : List Loc) : Prop := v = some (.int (F1 p0 p1)) ∧ Fr n0 L ∧ h = h0
set_option maxRecDepth 65536 in
set_option maxHeartbeats 40000000 in
theorem rm1 (l : Launch) (Z : State) (a0 : Array Value) (hw : ∀ d ∈ tables_1, d.before a0 Z = true) (ws : List Jvm.Cond) (p0 : Int32) (p1 : Int32)  (h0 : Heap) (n0 : Nat) (Z0 : n0 ≤ h0.size)  :
    MetFree l (⟨"com/example/findwright/findwright/PackedInts", "longs", "(II)I"⟩ : MethodName) (head1 (Jvm.Cond.code (⟨"com/example/findwright/findwright/PackedInts", "longs", "(II)I"⟩ : MethodName) prog_29_method_7_code 2 (some .int) :: ws) ({ frames := 0, cells := 0, slots := 0, locals := 0 } : Room)) (fun a U => a = #[(.int p0), (.int p1)] ∧ Z.Warmed39 U.vm ∧ U.heap = h0) (fun _ _ _ _ _ => True) (fun _ U o U' => ∃ v L, o = .returned v ∧ Q1 Z p0 p1 h0 n0 v U'.heap L ∧ FrameEnd U o U' L ({ frames := 0, cells := 0, slots := 0, locals := 0 } : Room).cells ({ frames := 0, cells := 0, slots := 0, locals := 0 } : Room).slots) := by
  refine MetFree.of_bodySF (plainFor_of_name pn_com_example_findwright_findwright_PackedInts) hisR ?_
  intro p e s m args below meth c s₁ Bd hml0 hP hK
  obtain ⟨rfl, hZ, hh⟩ := hP
  have hx := Bd.exec
  have hby := Bd.bytes
  have hml : c.maxLocals = 2 := hml0
  have hown : s.vm.findClass "com/example/findwright/findwright/PackedInts" = some m.cls := findClass_of_methodNamed Bd.named
  have hnm := (name_of_methodNamed Bd.named Bd.method).1
  have X0 : Stand p l e ({ frames := 0, cells := 0, slots := 0, locals := 0 } : Room) s m #[(.int p0), (.int p1)] below meth c s₁ [] 0 0 := Stand.of_body Bd
  have e0 : s₁.heap = h0 := by rw [← hh, Bd.state]; rfl
  have N0 := Fr.nil n0
  obtain ⟨G, hG⟩ : ∃ z, z = s₁.setTop (entryFrame m #[(.int p0), (.int p1)] 2) := ⟨_, rfl⟩
  have pre0 : Lead p e below G (s₁.setTop (mkF m 0 #[.val (.int p0), .val (.int p1)] [])) := fun t k => by rw [hG]; exact castTop (ef_1 m p0 p1) k
  obtain ⟨fs, hr, hrun, hended, hW, hsame⟩ := X0.leave (v := some (.int (((((((p0.toInt64) * (p1.toInt64)) + (64 : Int64)) - (1 : Int64)).toUInt64 >>> ((6 : Int32) &&& 0x3f).toInt64.toUInt64).toInt64).toInt32))) (fun h => by rw [Bd.returns] at h; cases h)
  subst hG
  refine ⟨_, _, pre0 _ ?_, hrun, hended, _, _, rfl, ?_, ⟨_, rfl⟩, hW, hsame.mono (by decide) (by decide)⟩
  · show Steps p.tables e below (s₁.setTop (mkF m 0 #[.val (.int p0), .val (.int p1)] [])) _
    refine XS.iloadN X0.here hx rfl (hb hby d1_0) rfl ?_
    show Steps p.tables e below (s₁.setTop (mkF m 1 #[.val (.int p0), .val (.int p1)] [(.int p0)])) _
    refine XS.i2l X0.here hx rfl (hb hby d1_1) rfl ?_
    show Steps p.tables e below (s₁.setTop (mkF m 2 #[.val (.int p0), .val (.int p1)] [(.long (p0.toInt64))])) _
    refine XS.iloadN X0.here hx rfl (hb hby d1_2) rfl ?_
    show Steps p.tables e below (s₁.setTop (mkF m 3 #[.val (.int p0), .val (.int p1)] [(.int p1), (.long (p0.toInt64))])) _
    refine XS.i2l X0.here hx rfl (hb hby d1_3) rfl ?_
    show Steps p.tables e below (s₁.setTop (mkF m 4 #[.val (.int p0), .val (.int p1)] [(.long (p1.toInt64)), (.long (p0.toInt64))])) _
    refine XS.lmul X0.here hx rfl (hb hby d1_4) rfl ?_
    show Steps p.tables e below (s₁.setTop (mkF m 5 #[.val (.int p0), .val (.int p1)] [(.long ((p0.toInt64) * (p1.toInt64)))])) _
    refine X0.ldc2Long hx hown (mvT hZ (hw _ (List.mem_of_getElem? (i := 5) rfl))) (g := (mkF m 5 #[.val (.int p0), .val (.int p1)] [(.long ((p0.toInt64) * (p1.toInt64)))])) rfl (hb hby d1_5) _ ?_
    show Steps p.tables e below (s₁.setTop (mkF m 8 #[.val (.int p0), .val (.int p1)] [(.long (64 : Int64)), (.long ((p0.toInt64) * (p1.toInt64)))])) _
    refine XS.ladd X0.here hx rfl (hb hby d1_8) rfl ?_
    show Steps p.tables e below (s₁.setTop (mkF m 9 #[.val (.int p0), .val (.int p1)] [(.long (((p0.toInt64) * (p1.toInt64)) + (64 : Int64)))])) _
    refine XS.lconst X0.here hx rfl (hb hby d1_9) ?_
    show Steps p.tables e below (s₁.setTop (mkF m 10 #[.val (.int p0), .val (.int p1)] [(.long (1 : Int64)), (.long (((p0.toInt64) * (p1.toInt64)) + (64 : Int64)))])) _
    refine XS.lsub X0.here hx rfl (hb hby d1_10) rfl ?_
    show Steps p.tables e below (s₁.setTop (mkF m 11 #[.val (.int p0), .val (.int p1)] [(.long ((((p0.toInt64) * (p1.toInt64)) + (64 : Int64)) - (1 : Int64)))])) _
    refine XS.bipush X0.here hx rfl (hb hby d1_11) ?_
    show Steps p.tables e below (s₁.setTop (mkF m 13 #[.val (.int p0), .val (.int p1)] [(.int (6 : Int32)), (.long ((((p0.toInt64) * (p1.toInt64)) + (64 : Int64)) - (1 : Int64)))])) _
    refine XS.lushr X0.here hx rfl (hb hby d1_13) rfl ?_
    show Steps p.tables e below (s₁.setTop (mkF m 14 #[.val (.int p0), .val (.int p1)] [(.long ((((((p0.toInt64) * (p1.toInt64)) + (64 : Int64)) - (1 : Int64)).toUInt64 >>> ((6 : Int32) &&& 0x3f).toInt64.toUInt64).toInt64))])) _
    refine XS.l2i X0.here hx rfl (hb hby d1_14) rfl ?_
    show Steps p.tables e below (s₁.setTop (mkF m 15 #[.val (.int p0), .val (.int p1)] [(.int (((((((p0.toInt64) * (p1.toInt64)) + (64 : Int64)) - (1 : Int64)).toUInt64 >>> ((6 : Int32) &&& 0x3f).toInt64.toUInt64).toInt64).toInt32))])) _
    exact retI X0 hx Bd.returns (hb hby d1_15) hr
  · show Q1 Z p0 p1 h0 n0 _ s₁.heap _
    rw [e0]
    refine ⟨congrArg (fun z => some (Value.int z)) (?_ : (((((((p0.toInt64) * (p1.toInt64)) + (64 : Int64)) - (1 : Int64)).toUInt64 >>> ((6 : Int32) &&& 0x3f).toInt64.toUInt64).toInt64).toInt32) = F1 p0 p1), N0, rfl⟩
    skip
    rfl
theorem pd__28_II_29_I : parseMethodDescriptor "(II)I" = some ⟨[.int, .int], some .int⟩ := by decide +kernel
def F0 (p0 : Int32) (p1 : Int32) : Int32 := let v2 : Int32 := ((p1 &&& (2147483647 : Int32)) - ((p1 &&& (2147483647 : Int32)) / (65 : Int32)) * (65 : Int32)); let v4 : Int64 := (((p0 &&& (2147483647 : Int32)).toInt64) * (v2.toInt64)); let v13 : Int32 := (if ((F1 (p0 &&& (2147483647 : Int32)) v2).toInt64) < (0 : Int64) then (0 : Int32) else (if (((F1 (p0 &&& (2147483647 : Int32)) v2).toInt64) * (64 : Int64)) < v4 then (0 : Int32) else (if ((((F1 (p0 &&& (2147483647 : Int32)) v2).toInt64) * (64 : Int64)) - (64 : Int64)) < v4 then (1 : Int32) else (0 : Int32)))); (nar .boolean v13)
theorem own_max (x : Int32) : (x &&& (2147483647 : Int32)).toInt = x.toInt % 2 ^ 31 := Jvm.Kit.i32_mask x _ (k := 31) (by decide) (by decide)
theorem own_rem (a k : Int32) (ha : 0 ≤ a.toInt) (hk : 0 < k.toInt) : (a - a / k * k).toInt = a.toInt % k.toInt := by
  have b1 := Int32.le_toInt a; have b2 := Int32.toInt_lt a
  have d : (a / k).toInt = a.toInt / k.toInt := by rw [Jvm.Kit.i32_div (by omega), Int.tdiv_eq_ediv_of_nonneg ha]
  have q0 : 0 ≤ a.toInt / k.toInt := Int.ediv_nonneg ha (by omega)
  have q1 : a.toInt / k.toInt * k.toInt ≤ a.toInt := Int.ediv_mul_le _ (by omega)
  have q2 : 0 ≤ a.toInt / k.toInt * k.toInt := Int.mul_nonneg q0 (by omega)
  have m : (a / k * k).toInt = a.toInt / k.toInt * k.toInt := by rw [Jvm.Kit.i32_mul, d] <;> rw [d] <;> omega
  rw [Jvm.Kit.i32_sub (by omega) (by omega), m, Int.emod_def, Int.mul_comm]
theorem own_nar0 : nar .boolean (0 : Int32) = 0 := by decide
theorem own_nar1 : nar .boolean (1 : Int32) = 1 := by decide
theorem own_nat {a : Int32} {k : Nat} (h : a.toInt ≤ k) : a.toNatClampNeg ≤ k := by
  show a.toInt.toNat ≤ k
  omega
theorem own_core (t : Int64) (r0 : Int64) (hr : r0 = (((t + (64 : Int64)) - (1 : Int64)).toUInt64 >>> ((6 : Int32) &&& 0x3f).toInt64.toUInt64).toInt64) (h0 : 0 ≤ t.toInt) (h1 : t.toInt ≤ 137438953408) :
    ¬ r0.toInt32.toInt64 < 0 ∧ ¬ r0.toInt32.toInt64 * 64 < t ∧ r0.toInt32.toInt64 * 64 - 64 < t := by
  have c64 : (64 : Int64).toInt = 64 := by decide
  have c1 : (1 : Int64).toInt = 1 := by decide
  have s1 : (t + 64).toInt = t.toInt + 64 := by
    have := Jvm.Kit.i64_add (x := t) (y := 64) (by omega) (by omega)
    omega
  have s2 : (t + 64 - 1).toInt = t.toInt + 63 := by
    have := Jvm.Kit.i64_sub (x := t + 64) (y := 1) (by omega) (by omega)
    omega
  have s3 : r0.toInt = (t.toInt + 63) / 64 := by
    rw [hr, Jvm.Kit.i64_lushr (k := 6) (Jvm.Kit.i64_nonneg.mpr (by omega)) (by decide) (by decide), s2]; rfl
  have s4 : (r0.toInt32).toInt = r0.toInt := Jvm.Kit.i32_of_i64 (by omega) (by omega)
  have s5 : (r0.toInt32.toInt64).toInt = r0.toInt := by rw [Int32.toInt_toInt64, s4]
  obtain ⟨r, er⟩ : ∃ r, r = r0.toInt32.toInt64 := ⟨_, rfl⟩
  rw [← er] at s5 ⊢
  have m1 : (r * 64).toInt = r.toInt * 64 := by
    have := Jvm.Kit.i64_mul (x := r) (y := 64) (by rw [c64]; omega) (by rw [c64]; omega)
    rw [c64] at this; exact this
  have m2 : (r * 64 - 64).toInt = r.toInt * 64 - 64 := by
    have := Jvm.Kit.i64_sub (x := r * 64) (y := 64) (by omega) (by omega)
    omega
  refine ⟨?_, ?_, ?_⟩
  · rw [Int64.lt_iff_toInt_lt, Int64.toInt_zero]; omega
  · rw [Int64.lt_iff_toInt_lt]; omega
  · rw [Int64.lt_iff_toInt_lt]; omega
theorem own_prod (a b : Int32) (a0 : 0 ≤ a.toInt) (b0 : 0 ≤ b.toInt) (b1 : b.toInt ≤ 64) : 0 ≤ (a.toInt64 * b.toInt64).toInt ∧ (a.toInt64 * b.toInt64).toInt ≤ 137438953408 := by
  have a1 := Int32.toInt_lt a
  have p0 : 0 ≤ a.toInt * b.toInt := Int.mul_nonneg a0 b0
  have p1 : a.toInt * b.toInt ≤ 2147483647 * 64 := Int.mul_le_mul (by omega) b1 b0 (by decide)
  have e : (a.toInt64 * b.toInt64).toInt = a.toInt * b.toInt := by
    rw [Jvm.Kit.i64_mul, Int32.toInt_toInt64, Int32.toInt_toInt64] <;> rw [Int32.toInt_toInt64, Int32.toInt_toInt64] <;> omega
  omega
theorem own_w (p : Int32) : 0 ≤ ((p &&& (2147483647 : Int32)) - ((p &&& (2147483647 : Int32)) / (65 : Int32)) * (65 : Int32)).toInt ∧ ((p &&& (2147483647 : Int32)) - ((p &&& (2147483647 : Int32)) / (65 : Int32)) * (65 : Int32)).toInt ≤ 64 := by
  have h := own_max p
  have c : (65 : Int32).toInt = 65 := by decide
  have r := own_rem (p &&& 2147483647) 65 (by omega) (by omega)
  rw [c] at r
  omega
theorem own_law (p0 p1 : Int32) : F0 p0 p1 = 1 := by
  have hw := own_w p1
  have ha := own_max p0
  have hp := own_prod (p0 &&& 2147483647) _ (by omega) hw.1 hw.2
  obtain ⟨k1, k2, k3⟩ := own_core _ _ rfl hp.1 hp.2
  unfold F0 F1
  dsimp only
  refine Eq.trans (congrArg (nar .boolean) ((if_neg k1).trans ((if_neg k2).trans (if_pos k3)))) (by decide)

theorem pn_com_example_findwright_findwright_PackedIntsLongsPinLaw : plainName "com/example/findwright/findwright/PackedIntsLongsPinLaw" = true := by first | (simp [plainName, overriddenIn]; done) | decide +kernel
theorem ef_0 (m : MethodId) (p0 : Int32) (p1 : Int32) : entryFrame m #[(.int p0), (.int p1)] maxLocals = mkF m 0 #[.val (.int p0), .val (.int p1), .unset, .unset, .unset, .unset, .unset, .unset] [] := by first | (simp [entryFrame, mkF, argsToLocals, Value.category, maxLocals]; done) | rfl
def Q0 (Z : State) (p0 : Int32) (p1 : Int32)  (h0 : Heap) (n0 : Nat) (v : Option Value) (h : Heap) (L : List Loc) : Prop := v = some (.int (1 : Int32)) ∧ Fr n0 L
set_option maxRecDepth 65536 in
set_option maxHeartbeats 40000000 in
theorem rm0 (l : Launch) (Z : State) (a0 : Array Value) (hw : ∀ d ∈ tables_1, d.before a0 Z = true) (ws : List Jvm.Cond) (p0 : Int32) (p1 : Int32)  (h0 : Heap) (n0 : Nat) (Z0 : n0 ≤ h0.size)  :
    MetFree l x (head1 (Jvm.Cond.code x code maxLocals ret :: ws) room_1) (fun a U => a = #[(.int p0), (.int p1)] ∧ Z.Warmed39 U.vm ∧ U.heap = h0) (fun _ _ _ _ _ => True) (fun _ U o U' => ∃ v L, o = .returned v ∧ Q0 Z p0 p1 h0 n0 v U'.heap L ∧ FrameEnd U o U' L room_1.cells room_1.slots) := by
  refine MetFree.of_bodySF (plainFor_of_name pn_com_example_findwright_findwright_PackedIntsLongsPinLaw) hisR ?_
  intro p e s m args below meth c s₁ Bd hml0 hP hK
  obtain ⟨rfl, hZ, hh⟩ := hP
  have hx := Bd.exec
  have hby := Bd.bytes
  have hml : c.maxLocals = 8 := hml0
  have hown : s.vm.findClass "com/example/findwright/findwright/PackedIntsLongsPinLaw" = some m.cls := findClass_of_methodNamed Bd.named
  have hnm := (name_of_methodNamed Bd.named Bd.method).1
  have X0 : Stand p l e room_1 s m #[(.int p0), (.int p1)] below meth c s₁ [] 0 0 := Stand.of_body Bd
  have e0 : s₁.heap = h0 := by rw [← hh, Bd.state]; rfl
  have N0 := Fr.nil n0
  obtain ⟨G, hG⟩ : ∃ z, z = s₁.setTop (entryFrame m #[(.int p0), (.int p1)] maxLocals) := ⟨_, rfl⟩
  have pre0 : Lead p e below G (s₁.setTop (mkF m 0 #[.val (.int p0), .val (.int p1), .unset, .unset, .unset, .unset, .unset, .unset] [])) := fun t k => by rw [hG]; exact castTop (ef_0 m p0 p1) k
  have pre1 : Lead p e below G (s₁.setTop (mkF m 13 #[.val (.int p0), .val (.int p1), .val (.int (p0 &&& (2147483647 : Int32))), .val (.int ((p1 &&& (2147483647 : Int32)) - ((p1 &&& (2147483647 : Int32)) / (65 : Int32)) * (65 : Int32))), .unset, .unset, .unset, .unset] [])) := fun t k => by
    refine pre0 t ?_
    show Steps p.tables e below (s₁.setTop (mkF m 0 #[.val (.int p0), .val (.int p1), .unset, .unset, .unset, .unset, .unset, .unset] [])) _
    refine XS.iloadN X0.here hx rfl (hb hby at_0) rfl ?_
    show Steps p.tables e below (s₁.setTop (mkF m 1 #[.val (.int p0), .val (.int p1), .unset, .unset, .unset, .unset, .unset, .unset] [(.int p0)])) _
    refine X0.ldcInt hx hown (mvT hZ (hw _ (List.mem_of_getElem? (i := 0) rfl))) (g := (mkF m 1 #[.val (.int p0), .val (.int p1), .unset, .unset, .unset, .unset, .unset, .unset] [(.int p0)])) rfl (hb hby at_1) _ ?_
    show Steps p.tables e below (s₁.setTop (mkF m 3 #[.val (.int p0), .val (.int p1), .unset, .unset, .unset, .unset, .unset, .unset] [(.int (2147483647 : Int32)), (.int p0)])) _
    refine XS.iand X0.here hx rfl (hb hby at_3) rfl ?_
    show Steps p.tables e below (s₁.setTop (mkF m 4 #[.val (.int p0), .val (.int p1), .unset, .unset, .unset, .unset, .unset, .unset] [(.int (p0 &&& (2147483647 : Int32)))])) _
    refine XS.istoreN X0.here hx rfl (hb hby at_4) rfl (l' := #[.val (.int p0), .val (.int p1), .val (.int (p0 &&& (2147483647 : Int32))), .unset, .unset, .unset, .unset, .unset]) rfl ?_
    show Steps p.tables e below (s₁.setTop (mkF m 5 #[.val (.int p0), .val (.int p1), .val (.int (p0 &&& (2147483647 : Int32))), .unset, .unset, .unset, .unset, .unset] [])) _
    refine XS.iloadN X0.here hx rfl (hb hby at_5) rfl ?_
    show Steps p.tables e below (s₁.setTop (mkF m 6 #[.val (.int p0), .val (.int p1), .val (.int (p0 &&& (2147483647 : Int32))), .unset, .unset, .unset, .unset, .unset] [(.int p1)])) _
    refine X0.ldcInt hx hown (mvT hZ (hw _ (List.mem_of_getElem? (i := 0) rfl))) (g := (mkF m 6 #[.val (.int p0), .val (.int p1), .val (.int (p0 &&& (2147483647 : Int32))), .unset, .unset, .unset, .unset, .unset] [(.int p1)])) rfl (hb hby at_6) _ ?_
    show Steps p.tables e below (s₁.setTop (mkF m 8 #[.val (.int p0), .val (.int p1), .val (.int (p0 &&& (2147483647 : Int32))), .unset, .unset, .unset, .unset, .unset] [(.int (2147483647 : Int32)), (.int p1)])) _
    refine XS.iand X0.here hx rfl (hb hby at_8) rfl ?_
    show Steps p.tables e below (s₁.setTop (mkF m 9 #[.val (.int p0), .val (.int p1), .val (.int (p0 &&& (2147483647 : Int32))), .unset, .unset, .unset, .unset, .unset] [(.int (p1 &&& (2147483647 : Int32)))])) _
    refine XS.bipush X0.here hx rfl (hb hby at_9) ?_
    show Steps p.tables e below (s₁.setTop (mkF m 11 #[.val (.int p0), .val (.int p1), .val (.int (p0 &&& (2147483647 : Int32))), .unset, .unset, .unset, .unset, .unset] [(.int (65 : Int32)), (.int (p1 &&& (2147483647 : Int32)))])) _
    refine XS.irem X0.here hx rfl (hb hby at_11) rfl (by decide) ?_
    show Steps p.tables e below (s₁.setTop (mkF m 12 #[.val (.int p0), .val (.int p1), .val (.int (p0 &&& (2147483647 : Int32))), .unset, .unset, .unset, .unset, .unset] [(.int ((p1 &&& (2147483647 : Int32)) - ((p1 &&& (2147483647 : Int32)) / (65 : Int32)) * (65 : Int32)))])) _
    refine XS.istoreN X0.here hx rfl (hb hby at_12) rfl (l' := #[.val (.int p0), .val (.int p1), .val (.int (p0 &&& (2147483647 : Int32))), .val (.int ((p1 &&& (2147483647 : Int32)) - ((p1 &&& (2147483647 : Int32)) / (65 : Int32)) * (65 : Int32))), .unset, .unset, .unset, .unset]) rfl ?_
    show Steps p.tables e below (s₁.setTop (mkF m 13 #[.val (.int p0), .val (.int p1), .val (.int (p0 &&& (2147483647 : Int32))), .val (.int ((p1 &&& (2147483647 : Int32)) - ((p1 &&& (2147483647 : Int32)) / (65 : Int32)) * (65 : Int32))), .unset, .unset, .unset, .unset] [])) _
    exact k
  obtain ⟨v2, hv2⟩ : ∃ z : Int32, z = ((p1 &&& (2147483647 : Int32)) - ((p1 &&& (2147483647 : Int32)) / (65 : Int32)) * (65 : Int32)) := ⟨_, rfl⟩
  have pre2 : Lead p e below G (s₁.setTop (mkF m 13 #[.val (.int p0), .val (.int p1), .val (.int (p0 &&& (2147483647 : Int32))), .val (.int v2), .unset, .unset, .unset, .unset] [])) := by rw [hv2]; exact pre1
  have pre3 : Lead p e below G (s₁.setTop (mkF m 22 #[.val (.int p0), .val (.int p1), .val (.int (p0 &&& (2147483647 : Int32))), .val (.int v2), .val (.long (((p0 &&& (2147483647 : Int32)).toInt64) * (v2.toInt64))), .second, .unset, .unset] [(.int v2), (.int (p0 &&& (2147483647 : Int32)))])) := fun t k => by
    refine pre2 t ?_
    show Steps p.tables e below (s₁.setTop (mkF m 13 #[.val (.int p0), .val (.int p1), .val (.int (p0 &&& (2147483647 : Int32))), .val (.int v2), .unset, .unset, .unset, .unset] [])) _
    refine XS.iloadN X0.here hx rfl (hb hby at_13) rfl ?_
    show Steps p.tables e below (s₁.setTop (mkF m 14 #[.val (.int p0), .val (.int p1), .val (.int (p0 &&& (2147483647 : Int32))), .val (.int v2), .unset, .unset, .unset, .unset] [(.int (p0 &&& (2147483647 : Int32)))])) _
    refine XS.i2l X0.here hx rfl (hb hby at_14) rfl ?_
    show Steps p.tables e below (s₁.setTop (mkF m 15 #[.val (.int p0), .val (.int p1), .val (.int (p0 &&& (2147483647 : Int32))), .val (.int v2), .unset, .unset, .unset, .unset] [(.long ((p0 &&& (2147483647 : Int32)).toInt64))])) _
    refine XS.iloadN X0.here hx rfl (hb hby at_15) rfl ?_
    show Steps p.tables e below (s₁.setTop (mkF m 16 #[.val (.int p0), .val (.int p1), .val (.int (p0 &&& (2147483647 : Int32))), .val (.int v2), .unset, .unset, .unset, .unset] [(.int v2), (.long ((p0 &&& (2147483647 : Int32)).toInt64))])) _
    refine XS.i2l X0.here hx rfl (hb hby at_16) rfl ?_
    show Steps p.tables e below (s₁.setTop (mkF m 17 #[.val (.int p0), .val (.int p1), .val (.int (p0 &&& (2147483647 : Int32))), .val (.int v2), .unset, .unset, .unset, .unset] [(.long (v2.toInt64)), (.long ((p0 &&& (2147483647 : Int32)).toInt64))])) _
    refine XS.lmul X0.here hx rfl (hb hby at_17) rfl ?_
    show Steps p.tables e below (s₁.setTop (mkF m 18 #[.val (.int p0), .val (.int p1), .val (.int (p0 &&& (2147483647 : Int32))), .val (.int v2), .unset, .unset, .unset, .unset] [(.long (((p0 &&& (2147483647 : Int32)).toInt64) * (v2.toInt64)))])) _
    refine XS.lstore X0.here hx rfl (hb hby at_18) rfl (l' := #[.val (.int p0), .val (.int p1), .val (.int (p0 &&& (2147483647 : Int32))), .val (.int v2), .val (.long (((p0 &&& (2147483647 : Int32)).toInt64) * (v2.toInt64))), .second, .unset, .unset]) rfl ?_
    show Steps p.tables e below (s₁.setTop (mkF m 20 #[.val (.int p0), .val (.int p1), .val (.int (p0 &&& (2147483647 : Int32))), .val (.int v2), .val (.long (((p0 &&& (2147483647 : Int32)).toInt64) * (v2.toInt64))), .second, .unset, .unset] [])) _
    refine XS.iloadN X0.here hx rfl (hb hby at_20) rfl ?_
    show Steps p.tables e below (s₁.setTop (mkF m 21 #[.val (.int p0), .val (.int p1), .val (.int (p0 &&& (2147483647 : Int32))), .val (.int v2), .val (.long (((p0 &&& (2147483647 : Int32)).toInt64) * (v2.toInt64))), .second, .unset, .unset] [(.int (p0 &&& (2147483647 : Int32)))])) _
    refine XS.iloadN X0.here hx rfl (hb hby at_21) rfl ?_
    show Steps p.tables e below (s₁.setTop (mkF m 22 #[.val (.int p0), .val (.int p1), .val (.int (p0 &&& (2147483647 : Int32))), .val (.int v2), .val (.long (((p0 &&& (2147483647 : Int32)).toInt64) * (v2.toInt64))), .second, .unset, .unset] [(.int v2), (.int (p0 &&& (2147483647 : Int32)))])) _
    exact k
  obtain ⟨v4, hv4⟩ : ∃ z : Int64, z = (((p0 &&& (2147483647 : Int32)).toInt64) * (v2.toInt64)) := ⟨_, rfl⟩
  have pre4 : Lead p e below G (s₁.setTop (mkF m 22 #[.val (.int p0), .val (.int p1), .val (.int (p0 &&& (2147483647 : Int32))), .val (.int v2), .val (.long v4), .second, .unset, .unset] [(.int v2), (.int (p0 &&& (2147483647 : Int32)))])) := by rw [hv4]; exact pre3
  obtain ⟨_, _, ⟨T5, L5, k5, n5⟩, -, X5, ⟨Lc5, hQ5, l5, y5, z5⟩, st5⟩ := Jvm.LawKit.callS X0 hx (y := (⟨"com/example/findwright/findwright/PackedInts", "longs", "(II)I"⟩ : MethodName)) hown (mvT hZ (hw _ (List.mem_of_getElem? (i := 1) rfl))) (mvT hZ (hw _ (List.mem_of_getElem? (i := 2) rfl))) (mvT hZ (hw _ (List.mem_of_getElem? (i := 3) rfl))) (mvT hZ (hw _ (List.mem_of_getElem? (i := 4) rfl))) (by decide) (backOf (W := 0) (rm1 l Z a0 hw [] (p0 &&& (2147483647 : Int32)) v2 h0 n0 Z0) hZ (hw _ (List.mem_of_getElem? (i := 4) rfl)) (hw _ (List.mem_of_getElem? (i := 3) rfl)) (by decide) (by decide)) (g := (mkF m 22 #[.val (.int p0), .val (.int p1), .val (.int (p0 &&& (2147483647 : Int32))), .val (.int v2), .val (.long v4), .second, .unset, .unset] [(.int v2), (.int (p0 &&& (2147483647 : Int32)))])) rfl (by rw [hml]; rfl) (argsL := [(.int (p0 &&& (2147483647 : Int32))), (.int v2)]) (rest := []) (lenOf pd__28_II_29_I rfl) rfl (by show 2 * 0 + _ ≤ _; exact Nat.le_of_eq rfl) (hb hby at_22) (fun _ _ => ⟨rfl, e0, (by decide : 0 + 0 ≤ _), (by decide : 0 + 0 ≤ _)⟩)
  dsimp only [Pt.U, Pt.locs, Pt.cells, Pt.slots] at X5 l5 y5 z5 st5 hQ5
  subst l5 y5 z5
  obtain ⟨rfl, N5q, e5⟩ := hQ5
  have N5 := Fr.app N0 N5q
  have pre5 : Lead p e below G (T5.setTop (mkF m 25 #[.val (.int p0), .val (.int p1), .val (.int (p0 &&& (2147483647 : Int32))), .val (.int v2), .val (.long v4), .second, .unset, .unset] [(.int (F1 (p0 &&& (2147483647 : Int32)) v2))])) := fun t k => pre4 t (st5 _ k)
  have pre12 : Lead p e below G (T5.setTop (mkF m 68 #[.val (.int p0), .val (.int p1), .val (.int (p0 &&& (2147483647 : Int32))), .val (.int v2), .val (.long v4), .second, .val (.long ((F1 (p0 &&& (2147483647 : Int32)) v2).toInt64)), .second] [(.int (if ((F1 (p0 &&& (2147483647 : Int32)) v2).toInt64) < (0 : Int64) then (0 : Int32) else (if (((F1 (p0 &&& (2147483647 : Int32)) v2).toInt64) * (64 : Int64)) < v4 then (0 : Int32) else (if ((((F1 (p0 &&& (2147483647 : Int32)) v2).toInt64) * (64 : Int64)) - (64 : Int64)) < v4 then (1 : Int32) else (0 : Int32)))))])) := fun t k => by
    refine pre5 t ?_
    show Steps p.tables e below (T5.setTop (mkF m 25 #[.val (.int p0), .val (.int p1), .val (.int (p0 &&& (2147483647 : Int32))), .val (.int v2), .val (.long v4), .second, .unset, .unset] [(.int (F1 (p0 &&& (2147483647 : Int32)) v2))])) _
    refine XS.i2l X5.here hx rfl (hb hby at_25) rfl ?_
    show Steps p.tables e below (T5.setTop (mkF m 26 #[.val (.int p0), .val (.int p1), .val (.int (p0 &&& (2147483647 : Int32))), .val (.int v2), .val (.long v4), .second, .unset, .unset] [(.long ((F1 (p0 &&& (2147483647 : Int32)) v2).toInt64))])) _
    refine XS.lstore X5.here hx rfl (hb hby at_26) rfl (l' := #[.val (.int p0), .val (.int p1), .val (.int (p0 &&& (2147483647 : Int32))), .val (.int v2), .val (.long v4), .second, .val (.long ((F1 (p0 &&& (2147483647 : Int32)) v2).toInt64)), .second]) rfl ?_
    show Steps p.tables e below (T5.setTop (mkF m 28 #[.val (.int p0), .val (.int p1), .val (.int (p0 &&& (2147483647 : Int32))), .val (.int v2), .val (.long v4), .second, .val (.long ((F1 (p0 &&& (2147483647 : Int32)) v2).toInt64)), .second] [])) _
    refine XS.lload X5.here hx rfl (hb hby at_28) rfl ?_
    show Steps p.tables e below (T5.setTop (mkF m 30 #[.val (.int p0), .val (.int p1), .val (.int (p0 &&& (2147483647 : Int32))), .val (.int v2), .val (.long v4), .second, .val (.long ((F1 (p0 &&& (2147483647 : Int32)) v2).toInt64)), .second] [(.long ((F1 (p0 &&& (2147483647 : Int32)) v2).toInt64))])) _
    refine XS.lconst X5.here hx rfl (hb hby at_30) ?_
    show Steps p.tables e below (T5.setTop (mkF m 31 #[.val (.int p0), .val (.int p1), .val (.int (p0 &&& (2147483647 : Int32))), .val (.int v2), .val (.long v4), .second, .val (.long ((F1 (p0 &&& (2147483647 : Int32)) v2).toInt64)), .second] [(.long (0 : Int64)), (.long ((F1 (p0 &&& (2147483647 : Int32)) v2).toInt64))])) _
    refine XS.lcmp X5.here hx rfl (hb hby at_31) rfl ?_
    show Steps p.tables e below (T5.setTop (mkF m 32 #[.val (.int p0), .val (.int p1), .val (.int (p0 &&& (2147483647 : Int32))), .val (.int v2), .val (.long v4), .second, .val (.long ((F1 (p0 &&& (2147483647 : Int32)) v2).toInt64)), .second] [(.int (lcmpW ((F1 (p0 &&& (2147483647 : Int32)) v2).toInt64) (0 : Int64)))])) _
    have j11 : ∀ t, Steps p.tables e below (T5.setTop (mkF m 68 #[.val (.int p0), .val (.int p1), .val (.int (p0 &&& (2147483647 : Int32))), .val (.int v2), .val (.long v4), .second, .val (.long ((F1 (p0 &&& (2147483647 : Int32)) v2).toInt64)), .second] [(.int (if ((F1 (p0 &&& (2147483647 : Int32)) v2).toInt64) < (0 : Int64) then (0 : Int32) else (if (((F1 (p0 &&& (2147483647 : Int32)) v2).toInt64) * (64 : Int64)) < v4 then (0 : Int32) else (if ((((F1 (p0 &&& (2147483647 : Int32)) v2).toInt64) * (64 : Int64)) - (64 : Int64)) < v4 then (1 : Int32) else (0 : Int32)))))])) t → Steps p.tables e below (T5.setTop (mkF m 32 #[.val (.int p0), .val (.int p1), .val (.int (p0 &&& (2147483647 : Int32))), .val (.int v2), .val (.long v4), .second, .val (.long ((F1 (p0 &&& (2147483647 : Int32)) v2).toInt64)), .second] [(.int (lcmpW ((F1 (p0 &&& (2147483647 : Int32)) v2).toInt64) (0 : Int64)))])) t := fun t k => by
      by_cases hc32_6 : ((F1 (p0 &&& (2147483647 : Int32)) v2).toInt64) < (0 : Int64)
      · simp only [if_pos hc32_6] at k
        refine XS.ifYes X5.here hx rfl (pc0 := 32) (pc' := 67) rfl (hb hby at_32) rfl ((if0 _ _).trans (tlt (own_lc_lt.mpr hc32_6)).1) (by decide) (by decide) ?_
        show Steps p.tables e below (T5.setTop (mkF m 67 #[.val (.int p0), .val (.int p1), .val (.int (p0 &&& (2147483647 : Int32))), .val (.int v2), .val (.long v4), .second, .val (.long ((F1 (p0 &&& (2147483647 : Int32)) v2).toInt64)), .second] [])) _
        refine XS.iconst X5.here hx rfl (hb hby at_67) ?_
        show Steps p.tables e below (T5.setTop (mkF m 68 #[.val (.int p0), .val (.int p1), .val (.int (p0 &&& (2147483647 : Int32))), .val (.int v2), .val (.long v4), .second, .val (.long ((F1 (p0 &&& (2147483647 : Int32)) v2).toInt64)), .second] [(.int (0 : Int32))])) _
        exact k
      · simp only [if_neg hc32_6] at k
        refine XS.ifNo X5.here hx rfl (hb hby at_32) rfl ((if0 _ _).trans (flt (fun q => hc32_6 (own_lc_lt.mp q))).1) ?_
        show Steps p.tables e below (T5.setTop (mkF m 35 #[.val (.int p0), .val (.int p1), .val (.int (p0 &&& (2147483647 : Int32))), .val (.int v2), .val (.long v4), .second, .val (.long ((F1 (p0 &&& (2147483647 : Int32)) v2).toInt64)), .second] [])) _
        refine XS.lload X5.here hx rfl (hb hby at_35) rfl ?_
        show Steps p.tables e below (T5.setTop (mkF m 37 #[.val (.int p0), .val (.int p1), .val (.int (p0 &&& (2147483647 : Int32))), .val (.int v2), .val (.long v4), .second, .val (.long ((F1 (p0 &&& (2147483647 : Int32)) v2).toInt64)), .second] [(.long ((F1 (p0 &&& (2147483647 : Int32)) v2).toInt64))])) _
        refine X5.ldc2Long hx hown (mvT hZ (hw _ (List.mem_of_getElem? (i := 6) rfl))) (g := (mkF m 37 #[.val (.int p0), .val (.int p1), .val (.int (p0 &&& (2147483647 : Int32))), .val (.int v2), .val (.long v4), .second, .val (.long ((F1 (p0 &&& (2147483647 : Int32)) v2).toInt64)), .second] [(.long ((F1 (p0 &&& (2147483647 : Int32)) v2).toInt64))])) rfl (hb hby at_37) _ ?_
        show Steps p.tables e below (T5.setTop (mkF m 40 #[.val (.int p0), .val (.int p1), .val (.int (p0 &&& (2147483647 : Int32))), .val (.int v2), .val (.long v4), .second, .val (.long ((F1 (p0 &&& (2147483647 : Int32)) v2).toInt64)), .second] [(.long (64 : Int64)), (.long ((F1 (p0 &&& (2147483647 : Int32)) v2).toInt64))])) _
        refine XS.lmul X5.here hx rfl (hb hby at_40) rfl ?_
        show Steps p.tables e below (T5.setTop (mkF m 41 #[.val (.int p0), .val (.int p1), .val (.int (p0 &&& (2147483647 : Int32))), .val (.int v2), .val (.long v4), .second, .val (.long ((F1 (p0 &&& (2147483647 : Int32)) v2).toInt64)), .second] [(.long (((F1 (p0 &&& (2147483647 : Int32)) v2).toInt64) * (64 : Int64)))])) _
        refine XS.lload X5.here hx rfl (hb hby at_41) rfl ?_
        show Steps p.tables e below (T5.setTop (mkF m 43 #[.val (.int p0), .val (.int p1), .val (.int (p0 &&& (2147483647 : Int32))), .val (.int v2), .val (.long v4), .second, .val (.long ((F1 (p0 &&& (2147483647 : Int32)) v2).toInt64)), .second] [(.long v4), (.long (((F1 (p0 &&& (2147483647 : Int32)) v2).toInt64) * (64 : Int64)))])) _
        refine XS.lcmp X5.here hx rfl (hb hby at_43) rfl ?_
        show Steps p.tables e below (T5.setTop (mkF m 44 #[.val (.int p0), .val (.int p1), .val (.int (p0 &&& (2147483647 : Int32))), .val (.int v2), .val (.long v4), .second, .val (.long ((F1 (p0 &&& (2147483647 : Int32)) v2).toInt64)), .second] [(.int (lcmpW (((F1 (p0 &&& (2147483647 : Int32)) v2).toInt64) * (64 : Int64)) v4))])) _
        have j10 : ∀ t, Steps p.tables e below (T5.setTop (mkF m 68 #[.val (.int p0), .val (.int p1), .val (.int (p0 &&& (2147483647 : Int32))), .val (.int v2), .val (.long v4), .second, .val (.long ((F1 (p0 &&& (2147483647 : Int32)) v2).toInt64)), .second] [(.int (if (((F1 (p0 &&& (2147483647 : Int32)) v2).toInt64) * (64 : Int64)) < v4 then (0 : Int32) else (if ((((F1 (p0 &&& (2147483647 : Int32)) v2).toInt64) * (64 : Int64)) - (64 : Int64)) < v4 then (1 : Int32) else (0 : Int32))))])) t → Steps p.tables e below (T5.setTop (mkF m 44 #[.val (.int p0), .val (.int p1), .val (.int (p0 &&& (2147483647 : Int32))), .val (.int v2), .val (.long v4), .second, .val (.long ((F1 (p0 &&& (2147483647 : Int32)) v2).toInt64)), .second] [(.int (lcmpW (((F1 (p0 &&& (2147483647 : Int32)) v2).toInt64) * (64 : Int64)) v4))])) t := fun t k => by
          by_cases hc44_7 : (((F1 (p0 &&& (2147483647 : Int32)) v2).toInt64) * (64 : Int64)) < v4
          · simp only [if_pos hc44_7] at k
            refine XS.ifYes X5.here hx rfl (pc0 := 44) (pc' := 67) rfl (hb hby at_44) rfl ((if0 _ _).trans (tlt (own_lc_lt.mpr hc44_7)).1) (by decide) (by decide) ?_
            show Steps p.tables e below (T5.setTop (mkF m 67 #[.val (.int p0), .val (.int p1), .val (.int (p0 &&& (2147483647 : Int32))), .val (.int v2), .val (.long v4), .second, .val (.long ((F1 (p0 &&& (2147483647 : Int32)) v2).toInt64)), .second] [])) _
            refine XS.iconst X5.here hx rfl (hb hby at_67) ?_
            show Steps p.tables e below (T5.setTop (mkF m 68 #[.val (.int p0), .val (.int p1), .val (.int (p0 &&& (2147483647 : Int32))), .val (.int v2), .val (.long v4), .second, .val (.long ((F1 (p0 &&& (2147483647 : Int32)) v2).toInt64)), .second] [(.int (0 : Int32))])) _
            exact k
          · simp only [if_neg hc44_7] at k
            refine XS.ifNo X5.here hx rfl (hb hby at_44) rfl ((if0 _ _).trans (flt (fun q => hc44_7 (own_lc_lt.mp q))).1) ?_
            show Steps p.tables e below (T5.setTop (mkF m 47 #[.val (.int p0), .val (.int p1), .val (.int (p0 &&& (2147483647 : Int32))), .val (.int v2), .val (.long v4), .second, .val (.long ((F1 (p0 &&& (2147483647 : Int32)) v2).toInt64)), .second] [])) _
            refine XS.lload X5.here hx rfl (hb hby at_47) rfl ?_
            show Steps p.tables e below (T5.setTop (mkF m 49 #[.val (.int p0), .val (.int p1), .val (.int (p0 &&& (2147483647 : Int32))), .val (.int v2), .val (.long v4), .second, .val (.long ((F1 (p0 &&& (2147483647 : Int32)) v2).toInt64)), .second] [(.long ((F1 (p0 &&& (2147483647 : Int32)) v2).toInt64))])) _
            refine X5.ldc2Long hx hown (mvT hZ (hw _ (List.mem_of_getElem? (i := 6) rfl))) (g := (mkF m 49 #[.val (.int p0), .val (.int p1), .val (.int (p0 &&& (2147483647 : Int32))), .val (.int v2), .val (.long v4), .second, .val (.long ((F1 (p0 &&& (2147483647 : Int32)) v2).toInt64)), .second] [(.long ((F1 (p0 &&& (2147483647 : Int32)) v2).toInt64))])) rfl (hb hby at_49) _ ?_
            show Steps p.tables e below (T5.setTop (mkF m 52 #[.val (.int p0), .val (.int p1), .val (.int (p0 &&& (2147483647 : Int32))), .val (.int v2), .val (.long v4), .second, .val (.long ((F1 (p0 &&& (2147483647 : Int32)) v2).toInt64)), .second] [(.long (64 : Int64)), (.long ((F1 (p0 &&& (2147483647 : Int32)) v2).toInt64))])) _
            refine XS.lmul X5.here hx rfl (hb hby at_52) rfl ?_
            show Steps p.tables e below (T5.setTop (mkF m 53 #[.val (.int p0), .val (.int p1), .val (.int (p0 &&& (2147483647 : Int32))), .val (.int v2), .val (.long v4), .second, .val (.long ((F1 (p0 &&& (2147483647 : Int32)) v2).toInt64)), .second] [(.long (((F1 (p0 &&& (2147483647 : Int32)) v2).toInt64) * (64 : Int64)))])) _
            refine X5.ldc2Long hx hown (mvT hZ (hw _ (List.mem_of_getElem? (i := 6) rfl))) (g := (mkF m 53 #[.val (.int p0), .val (.int p1), .val (.int (p0 &&& (2147483647 : Int32))), .val (.int v2), .val (.long v4), .second, .val (.long ((F1 (p0 &&& (2147483647 : Int32)) v2).toInt64)), .second] [(.long (((F1 (p0 &&& (2147483647 : Int32)) v2).toInt64) * (64 : Int64)))])) rfl (hb hby at_53) _ ?_
            show Steps p.tables e below (T5.setTop (mkF m 56 #[.val (.int p0), .val (.int p1), .val (.int (p0 &&& (2147483647 : Int32))), .val (.int v2), .val (.long v4), .second, .val (.long ((F1 (p0 &&& (2147483647 : Int32)) v2).toInt64)), .second] [(.long (64 : Int64)), (.long (((F1 (p0 &&& (2147483647 : Int32)) v2).toInt64) * (64 : Int64)))])) _
            refine XS.lsub X5.here hx rfl (hb hby at_56) rfl ?_
            show Steps p.tables e below (T5.setTop (mkF m 57 #[.val (.int p0), .val (.int p1), .val (.int (p0 &&& (2147483647 : Int32))), .val (.int v2), .val (.long v4), .second, .val (.long ((F1 (p0 &&& (2147483647 : Int32)) v2).toInt64)), .second] [(.long ((((F1 (p0 &&& (2147483647 : Int32)) v2).toInt64) * (64 : Int64)) - (64 : Int64)))])) _
            refine XS.lload X5.here hx rfl (hb hby at_57) rfl ?_
            show Steps p.tables e below (T5.setTop (mkF m 59 #[.val (.int p0), .val (.int p1), .val (.int (p0 &&& (2147483647 : Int32))), .val (.int v2), .val (.long v4), .second, .val (.long ((F1 (p0 &&& (2147483647 : Int32)) v2).toInt64)), .second] [(.long v4), (.long ((((F1 (p0 &&& (2147483647 : Int32)) v2).toInt64) * (64 : Int64)) - (64 : Int64)))])) _
            refine XS.lcmp X5.here hx rfl (hb hby at_59) rfl ?_
            show Steps p.tables e below (T5.setTop (mkF m 60 #[.val (.int p0), .val (.int p1), .val (.int (p0 &&& (2147483647 : Int32))), .val (.int v2), .val (.long v4), .second, .val (.long ((F1 (p0 &&& (2147483647 : Int32)) v2).toInt64)), .second] [(.int (lcmpW ((((F1 (p0 &&& (2147483647 : Int32)) v2).toInt64) * (64 : Int64)) - (64 : Int64)) v4))])) _
            have j9 : ∀ t, Steps p.tables e below (T5.setTop (mkF m 68 #[.val (.int p0), .val (.int p1), .val (.int (p0 &&& (2147483647 : Int32))), .val (.int v2), .val (.long v4), .second, .val (.long ((F1 (p0 &&& (2147483647 : Int32)) v2).toInt64)), .second] [(.int (if ((((F1 (p0 &&& (2147483647 : Int32)) v2).toInt64) * (64 : Int64)) - (64 : Int64)) < v4 then (1 : Int32) else (0 : Int32)))])) t → Steps p.tables e below (T5.setTop (mkF m 60 #[.val (.int p0), .val (.int p1), .val (.int (p0 &&& (2147483647 : Int32))), .val (.int v2), .val (.long v4), .second, .val (.long ((F1 (p0 &&& (2147483647 : Int32)) v2).toInt64)), .second] [(.int (lcmpW ((((F1 (p0 &&& (2147483647 : Int32)) v2).toInt64) * (64 : Int64)) - (64 : Int64)) v4))])) t := fun t k => by
              by_cases hc60_8 : ((((F1 (p0 &&& (2147483647 : Int32)) v2).toInt64) * (64 : Int64)) - (64 : Int64)) < v4
              · simp only [if_pos hc60_8] at k
                refine XS.ifNo X5.here hx rfl (hb hby at_60) rfl ((if0 _ _).trans (tlt (own_lc_lt.mpr hc60_8)).2.1) ?_
                show Steps p.tables e below (T5.setTop (mkF m 63 #[.val (.int p0), .val (.int p1), .val (.int (p0 &&& (2147483647 : Int32))), .val (.int v2), .val (.long v4), .second, .val (.long ((F1 (p0 &&& (2147483647 : Int32)) v2).toInt64)), .second] [])) _
                refine XS.iconst X5.here hx rfl (hb hby at_63) ?_
                show Steps p.tables e below (T5.setTop (mkF m 64 #[.val (.int p0), .val (.int p1), .val (.int (p0 &&& (2147483647 : Int32))), .val (.int v2), .val (.long v4), .second, .val (.long ((F1 (p0 &&& (2147483647 : Int32)) v2).toInt64)), .second] [(.int (1 : Int32))])) _
                refine XS.goto X5.here hx rfl (pc0 := 64) (pc' := 68) rfl (hb hby at_64) (by decide) (by decide) ?_
                show Steps p.tables e below (T5.setTop (mkF m 68 #[.val (.int p0), .val (.int p1), .val (.int (p0 &&& (2147483647 : Int32))), .val (.int v2), .val (.long v4), .second, .val (.long ((F1 (p0 &&& (2147483647 : Int32)) v2).toInt64)), .second] [(.int (1 : Int32))])) _
                exact k
              · simp only [if_neg hc60_8] at k
                refine XS.ifYes X5.here hx rfl (pc0 := 60) (pc' := 67) rfl (hb hby at_60) rfl ((if0 _ _).trans (flt (fun q => hc60_8 (own_lc_lt.mp q))).2.1) (by decide) (by decide) ?_
                show Steps p.tables e below (T5.setTop (mkF m 67 #[.val (.int p0), .val (.int p1), .val (.int (p0 &&& (2147483647 : Int32))), .val (.int v2), .val (.long v4), .second, .val (.long ((F1 (p0 &&& (2147483647 : Int32)) v2).toInt64)), .second] [])) _
                refine XS.iconst X5.here hx rfl (hb hby at_67) ?_
                show Steps p.tables e below (T5.setTop (mkF m 68 #[.val (.int p0), .val (.int p1), .val (.int (p0 &&& (2147483647 : Int32))), .val (.int v2), .val (.long v4), .second, .val (.long ((F1 (p0 &&& (2147483647 : Int32)) v2).toInt64)), .second] [(.int (0 : Int32))])) _
                exact k
            refine j9 _ ?_
            show Steps p.tables e below (T5.setTop (mkF m 68 #[.val (.int p0), .val (.int p1), .val (.int (p0 &&& (2147483647 : Int32))), .val (.int v2), .val (.long v4), .second, .val (.long ((F1 (p0 &&& (2147483647 : Int32)) v2).toInt64)), .second] [(.int (if ((((F1 (p0 &&& (2147483647 : Int32)) v2).toInt64) * (64 : Int64)) - (64 : Int64)) < v4 then (1 : Int32) else (0 : Int32)))])) _
            exact k
        refine j10 _ ?_
        show Steps p.tables e below (T5.setTop (mkF m 68 #[.val (.int p0), .val (.int p1), .val (.int (p0 &&& (2147483647 : Int32))), .val (.int v2), .val (.long v4), .second, .val (.long ((F1 (p0 &&& (2147483647 : Int32)) v2).toInt64)), .second] [(.int (if (((F1 (p0 &&& (2147483647 : Int32)) v2).toInt64) * (64 : Int64)) < v4 then (0 : Int32) else (if ((((F1 (p0 &&& (2147483647 : Int32)) v2).toInt64) * (64 : Int64)) - (64 : Int64)) < v4 then (1 : Int32) else (0 : Int32))))])) _
        exact k
    refine j11 _ ?_
    show Steps p.tables e below (T5.setTop (mkF m 68 #[.val (.int p0), .val (.int p1), .val (.int (p0 &&& (2147483647 : Int32))), .val (.int v2), .val (.long v4), .second, .val (.long ((F1 (p0 &&& (2147483647 : Int32)) v2).toInt64)), .second] [(.int (if ((F1 (p0 &&& (2147483647 : Int32)) v2).toInt64) < (0 : Int64) then (0 : Int32) else (if (((F1 (p0 &&& (2147483647 : Int32)) v2).toInt64) * (64 : Int64)) < v4 then (0 : Int32) else (if ((((F1 (p0 &&& (2147483647 : Int32)) v2).toInt64) * (64 : Int64)) - (64 : Int64)) < v4 then (1 : Int32) else (0 : Int32)))))])) _
    exact k
  obtain ⟨v13, hv13⟩ : ∃ z : Int32, z = (if ((F1 (p0 &&& (2147483647 : Int32)) v2).toInt64) < (0 : Int64) then (0 : Int32) else (if (((F1 (p0 &&& (2147483647 : Int32)) v2).toInt64) * (64 : Int64)) < v4 then (0 : Int32) else (if ((((F1 (p0 &&& (2147483647 : Int32)) v2).toInt64) * (64 : Int64)) - (64 : Int64)) < v4 then (1 : Int32) else (0 : Int32)))) := ⟨_, rfl⟩
  have pre13 : Lead p e below G (T5.setTop (mkF m 68 #[.val (.int p0), .val (.int p1), .val (.int (p0 &&& (2147483647 : Int32))), .val (.int v2), .val (.long v4), .second, .val (.long ((F1 (p0 &&& (2147483647 : Int32)) v2).toInt64)), .second] [(.int v13)])) := by rw [hv13]; exact pre12
  obtain ⟨fs, hr, hrun, hended, hW, hsame⟩ := X5.leave (v := some (.int (nar .boolean v13))) (fun h => by rw [Bd.returns] at h; cases h)
  subst hG
  refine ⟨_, _, pre13 _ ?_, hrun, hended, _, _, rfl, ?_, ⟨_, rfl⟩, hW, hsame.mono (by decide) (by decide)⟩
  · show Steps p.tables e below (T5.setTop (mkF m 68 #[.val (.int p0), .val (.int p1), .val (.int (p0 &&& (2147483647 : Int32))), .val (.int v2), .val (.long v4), .second, .val (.long ((F1 (p0 &&& (2147483647 : Int32)) v2).toInt64)), .second] [(.int v13)])) _
    exact retN X5 hx (t := .boolean) Bd.returns (by simp) (hb hby at_68) hr
  · show Q0 Z p0 p1 h0 n0 _ T5.heap _
    rw [e5]
    refine ⟨congrArg (fun z => some (Value.int z)) (Eq.trans (?_ : (nar .boolean v13) = F0 p0 p1) (own_law p0 p1)), N5⟩
    subst hv13 hv4 hv2
    rfl
set_option maxRecDepth 65536 in
set_option maxHeartbeats 40000000 in
theorem comes_1 {Post : Tables → Env → Array Value → State → Outcome → State → Prop} (hpost : ∀ tb e args s v u, (limb_1_1.after args s (.returned v) u = true ∧ limb_1_2.after args s (.returned v) u = true ∧ True) → FrameEnd s (.returned v) u (Jvm.fieldLocs frame_1_writes args s ++ Jvm.arrayLocs frame_1_arrays args s ++ Jvm.staticLocs frame_1_statics s) 0 0 → Post tb e args s (.returned v) u) :
    ArmFor flags0 classFile x code maxLocals ret World_1 tables_1 room_1 Calls_1 rest_1 Pre_1 Post := by
  intro l hfl _ _ p e ha hc hk s m args below hf hA hF happ hP
  obtain ⟨hcalls, hrest, hpre⟩ := hP
  obtain ⟨-, -, -, hnamed, -, -, -, hat⟩ := (Spec.applies_iff hf).mp happ
  obtain ⟨hg, hn⟩ := and_e (Cond.before_iff.mp (show (Jvm.Cond.and given_1 narrow_1).before args s = true from hpre))
  obtain ⟨g1, g2⟩ := and_e hg
  obtain ⟨g3, g4⟩ := and_e g2
  obtain ⟨w0, w1, rfl⟩ : ∃ w0 w1 : Value, args = #[w0, w1] := by
    have hs : args.size = 2 := by simpa [Cond.value, given_1] using g1
    obtain ⟨L⟩ := args
    match L, hs with
    | [w0, w1], _ => exact ⟨w0, w1, rfl⟩
  have hw := fun d (hd : d ∈ tables_1) => atoms_spec (ws := Jvm.Cond.code x code maxLocals ret :: tables_1) hat d (List.mem_cons_of_mem _ hd)
  obtain ⟨i0, ei0⟩ := is_v g3
  obtain rfl : w0 = (.int i0) := Option.some.inj ei0
  obtain ⟨i1, ei1⟩ := is_v g4
  obtain rfl : w1 = (.int i1) := Option.some.inj ei1
  obtain ⟨n, o, h1, h2, h3, _, L, rfl, ⟨rfl, N⟩, hq⟩ := rm0 l s _ hw tables_1 i0 i1 s.heap s.heap.size (Nat.le_refl _) p e ha hc hk s m _ below hf ((Spec.applies_iff_loose hf).mp happ).1 ⟨rfl, State.Warmed39.refl s, rfl⟩ trivial
  refine ⟨n, _, h1, h2, h3, hpost _ _ _ _ _ _ ⟨Cond.after_iff.mpr rfl, Cond.after_iff.mpr (eq_i res_at (Term.int_eval (1)) rfl), trivial⟩ ⟨hq.1, hq.2.1, (hq.2.2.sift fun y hy => Or.inr (N y hy)).mono (by decide) (by decide)⟩⟩
theorem main_1_1 : Claimed_1_1 := comes_1 fun _ _ _ _ _ _ h hF => ⟨h.1, hF⟩
theorem main_1_2 : Claimed_1_2 := comes_1 fun _ _ _ _ _ _ h hF => ⟨h.2.1, hF⟩
end Jvm.Pilot.@@N@@
namespace Jvm.Pilot.@@N@@
open Jvm Jvm.ClassFile Sem Op Lib Jvm.Free Jvm.Stand Jvm.Pilot.@@N@@.Jvm.D
/-! MADE BY PROGRAM (witnessworld.py) out of the Statement's table words and the real class files: 9 classes; the members and pool entries that the words name. The judged class is class 1, her method 1. -/
namespace start1
open Jvm.ClassFile
def u (s : String) : CpInfo := .utf8 (stringToUtf16 s)
/-- a pool by its gaps: so many unusable entries, then the entry; so many at the end -/
def gap : Nat → List CpInfo → List CpInfo
  | 0, r => r
  | n + 1, r => .unusable :: gap n r
def poolList (es : List (Nat × CpInfo)) (last : Nat) : List CpInfo := es.foldr (fun e r => gap e.1 (e.2 :: r)) (gap last [])
def pool (es : List (Nat × CpInfo)) (last : Nat) : Array CpInfo := ⟨poolList es last⟩
def fileOf (pool : Array CpInfo) (this : Nat) (attrs : Array Attribute := #[]) (ms : Array MethodInfo := #[]) (fl : Nat := 33) (sup : Nat := 0) (ifs : Array Nat := #[]) (fds : Array FieldInfo := #[]) : ClassFile where
  minorVersion := 0
  majorVersion := 65
  constantPool := pool
  accessFlags := fl
  thisClass := this
  superClass := sup
  interfaces := ifs
  fields := fds
  methods := ms
  attributes := attrs
def plain (name : String) (sup : Option ClassId) : Class where
  name := name
  kind := .ordinary
  loader := none
  accessFlags := 33
  super := sup
  interfaces := #[]
  cf := none
  fields := #[]
  methods := #[]
  instanceTypes := #[]
  staticTypes := #[]
  resolved := #[]
  callSites := []
  init := .initialized
  statics := none
  mirror := none

def pool0 : Array CpInfo := pool [(5, u "<init>"), (0, u "()V"), (1, .class_ 10), (1, u "java/lang/Object")] 113

def k0m0 : Method := { name := "<init>", desc := "()V", sig := { parameters := [], returnType := none }, accessFlags := 1, code := none }
/-- java/lang/Object -/
def k0 : Class := { plain "java/lang/Object" none with
  accessFlags := 33
  interfaces := #[]
  cf := some (fileOf pool0 8 #[] #[{ accessFlags := 1, nameIndex := 5, descriptorIndex := 6, attributes := #[] }] 33 0 #[] #[])
  fields := #[]
  methods := #[k0m0]
  instanceTypes := #[]
  staticTypes := #[]
  resolved := Array.replicate 124 none
  statics := none }

def pool1 : Array CpInfo := pool [(2, .class_ 4), (1, u "java/lang/Object"), (0, u "<init>"), (0, u "()V"), (0, .integer 2147483647), (0, .methodref 9 10), (0, .class_ 11), (0, .nameAndType 12 13), (0, u "com/example/findwright/findwright/PackedInts"), (0, u "longs"), (0, u "(II)I"), (0, .long 64), (1, .class_ 17), (0, u "com/example/findwright/findwright/PackedIntsLongsPinLaw"), (2, u "law"), (0, u "(II)Z")] 3

def k1m0 : Method := { name := "<init>", desc := "()V", sig := { parameters := [], returnType := none }, accessFlags := 1, code := none }
def k1c1 : Code := { maxStack := 4, maxLocals := 8, code := code, exceptionTable := #[], attributes := #[] }
def k1m1 : Method := { name := "law", desc := "(II)Z", sig := { parameters := [.int, .int], returnType := some .boolean }, accessFlags := 9, code := some k1c1 }
/-- com/example/findwright/findwright/PackedIntsLongsPinLaw -/
def k1 : Class := { plain "com/example/findwright/findwright/PackedIntsLongsPinLaw" (some 0) with
  accessFlags := 49
  interfaces := #[]
  cf := some (fileOf pool1 16 #[] #[{ accessFlags := 1, nameIndex := 5, descriptorIndex := 6, attributes := #[] }, { accessFlags := 9, nameIndex := 20, descriptorIndex := 21, attributes := #[] }] 49 2 #[] #[])
  fields := #[]
  methods := #[k1m0, k1m1]
  instanceTypes := #[]
  staticTypes := #[]
  resolved := Array.replicate 25 none
  statics := none }

def pool2 : Array CpInfo := pool [(2, .class_ 4), (1, u "java/lang/Object"), (3, .class_ 10), (1, u "com/example/findwright/findwright/PackedInts"), (0, u "size"), (0, u "I"), (2, u "least"), (0, u "[I"), (2, u "widths"), (0, u "[B"), (2, u "starts"), (2, u "bits"), (0, u "[J"), (0, .class_ 29), (0, u "com/example/findwright/findwright/PackedInts$Builder"), (20, u "BLOCK_SHIFT"), (12, u "(II)I"), (6, .long 64), (11, u "BLOCK"), (13, u "longs")] 25

def k2c0 : Code := { maxStack := 4, maxLocals := 2, code := prog_29_method_7_code, exceptionTable := #[], attributes := #[] }
def k2m0 : Method := { name := "longs", desc := "(II)I", sig := { parameters := [.int, .int], returnType := some .int }, accessFlags := 8, code := some k2c0 }
/-- com/example/findwright/findwright/PackedInts -/
def k2 : Class := { plain "com/example/findwright/findwright/PackedInts" (some 0) with
  accessFlags := 32
  interfaces := #[]
  cf := some (fileOf pool2 8 #[.nestMembers #[28]] #[{ accessFlags := 8, nameIndex := 96, descriptorIndex := 63, attributes := #[] }] 32 2 #[] #[{ accessFlags := 24, nameIndex := 82, descriptorIndex := 12, attributes := #[] }, { accessFlags := 26, nameIndex := 50, descriptorIndex := 12, attributes := #[] }, { accessFlags := 18, nameIndex := 11, descriptorIndex := 12, attributes := #[] }, { accessFlags := 18, nameIndex := 15, descriptorIndex := 16, attributes := #[] }, { accessFlags := 18, nameIndex := 19, descriptorIndex := 20, attributes := #[] }, { accessFlags := 18, nameIndex := 23, descriptorIndex := 16, attributes := #[] }, { accessFlags := 18, nameIndex := 26, descriptorIndex := 27, attributes := #[] }])
  fields := #[{ name := "BLOCK", type := .int, accessFlags := 24, slot := 0, constantValue := 0 }, { name := "BLOCK_SHIFT", type := .int, accessFlags := 26, slot := 1, constantValue := 0 }, { name := "size", type := .int, accessFlags := 18, slot := 0, constantValue := 0 }, { name := "least", type := (.array .int), accessFlags := 18, slot := 1, constantValue := 0 }, { name := "widths", type := (.array .byte), accessFlags := 18, slot := 2, constantValue := 0 }, { name := "starts", type := (.array .int), accessFlags := 18, slot := 3, constantValue := 0 }, { name := "bits", type := (.array .long), accessFlags := 18, slot := 4, constantValue := 0 }]
  methods := #[k2m0]
  instanceTypes := #[.int, (.array .int), (.array .byte), (.array .int), (.array .long)]
  staticTypes := #[.int, .int]
  resolved := Array.replicate 122 none
  statics := none }

def pool3 : Array CpInfo := pool [(1, u "java/lang/Cloneable"), (0, .class_ 1), (0, u "java/lang/Object"), (0, .class_ 3)] 3

/-- java/lang/Cloneable -/
def k3 : Class := { plain "java/lang/Cloneable" (some 0) with
  accessFlags := 1537
  interfaces := #[]
  cf := some (fileOf pool3 2 #[] #[] 1537 4 #[] #[])
  fields := #[]
  methods := #[]
  instanceTypes := #[]
  staticTypes := #[]
  resolved := Array.replicate 8 none
  statics := none }

def pool4 : Array CpInfo := pool [(1, u "java/io/Serializable"), (0, .class_ 1), (0, u "java/lang/Object"), (0, .class_ 3)] 3

/-- java/io/Serializable -/
def k4 : Class := { plain "java/io/Serializable" (some 0) with
  accessFlags := 1537
  interfaces := #[]
  cf := some (fileOf pool4 2 #[] #[] 1537 4 #[] #[])
  fields := #[]
  methods := #[]
  instanceTypes := #[]
  staticTypes := #[]
  resolved := Array.replicate 8 none
  statics := none }

/-- the primitive byte -/
def k5 : Class := { plain "byte" none with kind := .primitive 'B', accessFlags := 0x411 }
/-- [B -/
def k6 : Class := { plain "[B" (some 0) with kind := .array 5 .byte, interfaces := #[3, 4], accessFlags := 1041 }

/-- the primitive int -/
def k7 : Class := { plain "int" none with kind := .primitive 'I', accessFlags := 0x411 }
/-- [I -/
def k8 : Class := { plain "[I" (some 0) with kind := .array 7 .int, interfaces := #[3, 4], accessFlags := 1041 }

def heap : Heap := #[]
def classes : Array Class := #[k0, k1, k2, k3, k4, k5, k6, k7, k8]
def interned : List (Array UInt16 × Addr) := []
def slotsUsed : Nat := 0
def theMethod : MethodId := ⟨1, 1⟩
def args0 : Array Value := #[.int 5, .int 9]
def aboutOver (below : List Frame) : State where
  vm := { classes := classes, interned := interned.toArray }
  heap := heap
  slotsUsed := slotsUsed
  threads := #[{ frames := .invoking theMethod args0 :: below }]
def below0 : List Frame := [.native { method := ⟨0, 0⟩, args := #[] }]
def about1 : State := aboutOver below0
def p0 : Program := .bare "" "" ""
def e0 : Env := launch0.env 0 0 0
theorem w_frames : about1.frames = Frame.invoking theMethod args0 :: below0 := rfl
set_option maxRecDepth 65536 in
theorem w_args : argsFit about1.vm theMethod args0 = true := by decide +kernel
set_option maxRecDepth 65536 in
theorem w_heap : heapFits about1 = true := by decide +kernel
set_option maxRecDepth 65536 in
theorem w_runnable : about1.curStatus? = some .runnable := by decide +kernel
set_option maxRecDepth 65536 in
theorem w_alone : about1.alone = true := by decide +kernel
set_option maxRecDepth 65536 in
theorem w_named : about1.methodNamed? x = some theMethod := by decide +kernel
set_option maxRecDepth 65536 in
theorem w_hears : about1.hears theMethod below0 = true := by decide +kernel
set_option maxRecDepth 65536 in
theorem w_ripe : about1.ripe theMethod args0 below0 = true := by decide +kernel
theorem w_running : about1.status = .running := rfl
set_option maxRecDepth 65536 in
theorem w_room : about1.hasRoom e0.platform room_1 = true :=
  launch0.hasRoom_least _ room_1 (by decide +kernel) (by decide +kernel) (by decide +kernel) (by decide +kernel) (by decide +kernel) (by decide +kernel)
theorem allAtoms_all (ts : List Jvm.Cond) (a : Array Jvm.Value) (st : Jvm.State) : (allAtoms ts).before a st = ts.all (fun c => c.before a st) := by
  induction ts with
  | nil => rfl
  | cons c t ih =>
    show (Jvm.Cond.and c (allAtoms t)).before a st = _
    rw [Jvm.Cond.before_and, ih, List.all_cons]
def words1 : List Jvm.Cond := Jvm.Cond.code x code maxLocals ret :: tables_1
/-- a 'code' word, met by the world's own term for the bytes: nothing is compared byte by byte -/
theorem code_word {y : MethodName} {bytes : ByteArray} {mx : Nat} {rt : Option FieldType} {a : Array Value} {s : State} {m : MethodId} {meth : Method} {c : Code} (h1 : s.methodNamed? y = some m) (h2 : s.vm.method? m = some meth) (h3 : meth.code = some c) (h4 : c.code = bytes)
    (h5 : (c.maxLocals == mx && c.exceptionTable.isEmpty && decide (c.maxStack ≤ mostOperands) && decide (meth.sig.returnType = rt) && !meth.locks && decide (parseMethodDescriptor y.desc = some meth.sig)) = true) : (Jvm.Cond.code y bytes mx rt).before a s = true := by
  simp only [Bool.and_eq_true, beq_iff_eq, Bool.not_eq_true', decide_eq_true_eq] at h5
  obtain ⟨⟨⟨⟨⟨g1, g2⟩, g3⟩, g4⟩, g5⟩, g6⟩ := h5
  simp [Cond.before, Cond.holds, Cond.value, h1, h2, h3, h4, g1, g2, g3, g4, g5, g6]
def isCode : Jvm.Cond → Bool
  | .code _ _ _ _ => true
  | _ => false
theorem all_split {L : List Jvm.Cond} {P : Jvm.Cond → Bool} (h1 : L.all (fun c => isCode c || P c) = true) (h2 : ∀ c ∈ L.filter isCode, P c = true) : L.all P = true := by
  refine List.all_eq_true.mpr fun c hc => ?_
  have h := List.all_eq_true.mp h1 c hc
  rcases Bool.eq_false_or_eq_true (isCode c) with hi | hi
  · exact h2 c (List.mem_filter.mpr ⟨hc, hi⟩)
  · simpa [hi] using h
set_option maxRecDepth 65536 in
theorem w_c0 : (Jvm.Cond.code x code maxLocals ret).before args0 about1 = true := code_word (m := ⟨1, 1⟩) (meth := k1m1) (c := k1c1) (by decide +kernel) rfl rfl rfl (by decide +kernel)
set_option maxRecDepth 65536 in
theorem w_c1 : (Jvm.Cond.code ({ cls := "com/example/findwright/findwright/PackedInts", name := "longs", desc := "(II)I" } : Jvm.MethodName) prog_29_method_7_code (2 : Nat) (Option.some Jvm.ClassFile.FieldType.int)).before args0 about1 = true := code_word (m := ⟨2, 0⟩) (meth := k2m0) (c := k2c0) (by decide +kernel) rfl rfl rfl (by decide +kernel)
def codes1 : List Jvm.Cond := [Jvm.Cond.code x code maxLocals ret, Jvm.Cond.code ({ cls := "com/example/findwright/findwright/PackedInts", name := "longs", desc := "(II)I" } : Jvm.MethodName) prog_29_method_7_code (2 : Nat) (Option.some Jvm.ClassFile.FieldType.int)]
set_option maxRecDepth 65536 in
theorem codes_eq : words1.filter isCode = codes1 := rfl
theorem w_codes : ∀ c ∈ words1.filter isCode, c.before args0 about1 = true := by
  rw [codes_eq]
  intro c hc
  simp only [codes1, List.mem_cons, List.not_mem_nil, or_false] at hc
  rcases hc with rfl | rfl
  · exact w_c0
  · exact w_c1
set_option maxRecDepth 65536 in
theorem w_t1 : words1.all (fun c => isCode c || c.before args0 about1) = true := by decide +kernel
theorem w_tables : (allAtoms (Jvm.Cond.code x code maxLocals ret :: tables_1)).before args0 about1 = true := by
  rw [allAtoms_all]
  show words1.all (fun c => c.before args0 about1) = true
  refine all_split ?_ w_codes
  rw [w_t1]
set_option maxRecDepth 65536 in
theorem w_case : (Jvm.Cond.and given_1 narrow_1).before args0 about1 = true := by decide +kernel
theorem w_applies : (headSpec (Jvm.Cond.code x code maxLocals ret :: tables_1) room_1).applies x e0.platform about1 = true :=
  (Spec.applies_iff w_frames).mpr ⟨w_running, w_runnable, w_alone, w_named, w_hears, w_ripe, w_room, w_tables⟩
theorem atStart : AtStart classFile x code maxLocals ret World_1 tables_1 room_1 Calls_1 rest_1 Pre_1 launch0 p0 e0 about1 theMethod args0 below0 :=
  ⟨lists_1, trivial, launch0.admits_env _ _ _, launch0.least_env, fairChoices_fair.cas, fairChoices_fair.clock, w_frames, w_args, w_heap, w_applies, trivial, trivial, w_case⟩
end start1
theorem witness_1 : WitnessClaimed_1 := ⟨start1.p0, start1.e0, start1.about1, start1.theMethod, start1.args0, start1.below0, start1.atStart⟩
end Jvm.Pilot.@@N@@

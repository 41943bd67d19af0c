import JvmDerived
import JvmDerived.Pilot.@@N@@Statement
import JvmDerived.Pilot.@@N@@Code
set_option linter.unusedVariables false
set_option linter.unusedSimpArgs false
@@BLOCK:NumsL.lean.txt@@
@@BLOCK:Masks.lean.txt@@
namespace Jvm.RoadKit
open Sem ClassFile Op Lib Jvm.Stand Jvm.Free Jvm.LawKit
section New
variable {p : Program} {l : Launch} {e : Env} {R : Room} {s : State} {m : MethodId} {args : Array Value} {below : List Frame} {meth : Method} {c : Code} {T : State} {locs : List Loc} {cells slots : Nat}
theorem retI (X : Stand p l e R s m args below meth c T locs cells slots) (hx : p.tables.exec = Jvm.exec) {pc : Nat} {Ls : Array Slot} {z : Int32} {rest : List Value} (hret : meth.sig.returnType = some .int) (hd : decode c.code pc = .ok (.ireturn, 1)) {fs : List Frame}
    (hl : ∀ (f : JFrame) (acts : List Action), f.method = m → f.locked = none → f.entered = [] → (doReturn e (T.setTop f) acts (some (.int z))).1 = T.setFrames fs) : Steps p.tables e below (T.setTop (mkF m pc Ls (.int z :: rest))) (T.setFrames fs) := by
  have hm' : T.vm.method? m = some meth := X.method'
  have hn : narrow .int (.int z) = .int z := rfl
  show Steps p.tables e below (T.setTop { method := m, pc := pc, locals := Ls, stack := _ :: rest, locked := none }) _
  jvm_step X.here [X.here.top, hx, hd, hm', hret, hn]
  first | (intro acts; rw [hl _ acts rfl rfl rfl]) | rw [hl _ _ rfl rfl rfl]
  exact Steps.refl _
theorem retJ (X : Stand p l e R s m args below meth c T locs cells slots) (hx : p.tables.exec = Jvm.exec) {pc : Nat} {Ls : Array Slot} {z : Int64} {rest : List Value} (hret : meth.sig.returnType = some .long) (hd : decode c.code pc = .ok (.lreturn, 1)) {fs : List Frame}
    (hl : ∀ (f : JFrame) (acts : List Action), f.method = m → f.locked = none → f.entered = [] → (doReturn e (T.setTop f) acts (some (.long z))).1 = T.setFrames fs) : Steps p.tables e below (T.setTop (mkF m pc Ls (.long z :: rest))) (T.setFrames fs) := by
  have hm' : T.vm.method? m = some meth := X.method'
  have hn : narrow .long (.long z) = .long z := rfl
  show Steps p.tables e below (T.setTop { method := m, pc := pc, locals := Ls, stack := _ :: rest, locked := none }) _
  jvm_step X.here [X.here.top, hx, hd, hm', hret, hn]
  first | (intro acts; rw [hl _ acts rfl rfl rfl]) | rw [hl _ _ rfl rfl rfl]
  exact Steps.refl _
end New
theorem own_ite {α : Type} {P : Prop} [Decidable P] {f : α → Prop} {a b : α} (ha : f a) (hb : f b) : f (if P then a else b) := by split <;> assumption
theorem own_lc_eq {x y : Int64} : lcmpW x y = 0 ↔ x = y := by rw [lcW]; exact lc_eq x y
theorem own_lc_lt {x y : Int64} : lcmpW x y < 0 ↔ x < y := by rw [lcW]; exact lc_lt x y
theorem own_lc_gt {x y : Int64} : 0 < lcmpW x y ↔ y < x := by rw [lcW]; exact lc_gt x y
end Jvm.RoadKit
namespace Jvm.RoadKit
open Sem ClassFile Op Lib Jvm.Stand Jvm.Free Jvm.LawKit
section Own
variable {Z : State} {h h' : Heap} {a b : Addr} {ty : FieldType} {n j : Int32} {sl : Nat} {v : Value} {ws : List Addr} {α : Type} {mk : α → Value} {g : Nat → α} {w : α}
/-- an array: its kind, its length and, by a function, what it holds -/
def JV (mk : α → Value) (Z : State) (h : Heap) (a : Addr) (ty : FieldType) (n : Int32) (g : Nat → α) : Prop := ∃ c : Cell, Arr Z h a c ty ∧ c.slots.size = n.toNatClampNeg ∧ ¬ n < 0 ∧ ∀ i, i < c.slots.size → c.slots[i]? = some (mk (g i))
def updF (g : Nat → α) (k : Nat) (w : α) : Nat → α := fun i => if i = k then w else g i
theorem JV.lt (F : JV mk Z h a ty n g) : a < h.size := by obtain ⟨c, A, -⟩ := F; exact A.lt
theorem JV.ext (F : JV mk Z h a ty n g) (E : Ext h h') : JV mk Z h' a ty n g := by obtain ⟨c, A, r⟩ := F; exact ⟨c, A.ext E, r⟩
theorem JV.other (F : JV mk Z h b ty n g) (W : Wr h h' a sl v) (q : b ≠ a) : JV mk Z h' b ty n g := by obtain ⟨c, A, r⟩ := F; exact ⟨c, A.other W q, r⟩
theorem JV.keep (F : JV mk Z h a ty n g) (K : Keep h h' ws) (q : a ∉ ws) : JV mk Z h' a ty n g := by obtain ⟨c, A, r⟩ := F; exact ⟨c, ⟨K.2.1 a c A.1 q, A.2⟩, r⟩
theorem JV.new {k : ClassId} (A : Arr Z h a (newA k ty n) ty) (q : ¬ n < 0) (w : α) (hd : defaultValue ty = mk w) : JV mk Z h a ty n (fun _ => w) := by
  obtain ⟨c, A', -, S, N, H, -⟩ := Arv.new A q
  exact ⟨c, A', S, N, fun i hi => by rw [H i hi, hd]; rfl⟩
theorem JV.in (F : JV mk Z h a ty n g) (q : ¬ j < 0 ∧ j < n) : ∃ c : Cell, Arr Z h a c ty ∧ ¬ (j < 0 ∨ c.slots.size ≤ j.toNatClampNeg) ∧ c.slots[j.toNatClampNeg]? = some (mk (g j.toNatClampNeg)) := by
  obtain ⟨c, A, S, N, H⟩ := F
  have hin := inb_of S q
  exact ⟨c, A, hin, H _ (Nat.lt_of_not_le fun y => hin (Or.inr y))⟩
theorem JV.len (F : JV mk Z h a ty n g) : ∃ c : Cell, Arr Z h a c ty ∧ c.slots.size.toInt32 = n := by
  obtain ⟨c, A, S, N, H⟩ := F
  exact ⟨c, A, len_of S N⟩
theorem JV.nn (F : JV mk Z h a ty n g) : ¬ n < 0 := by obtain ⟨c, A, S, N, H⟩ := F; exact N
theorem JV.set (F : JV mk Z h a ty n g) (W : Wr h h' a j.toNatClampNeg (mk w)) : JV mk Z h' a ty n (updF g j.toNatClampNeg w) := by
  obtain ⟨c, A, S, N, H⟩ := F
  refine ⟨_, A.same W, ?_, N, ?_⟩
  · rw [← S]; simp [Cell.setSlot]
  · intro i hi
    have hi' : i < c.slots.size := by simpa [Cell.setSlot] using hi
    obtain ⟨cell, h1, -, h3, rfl⟩ := W
    cases A.1.symm.trans h1
    by_cases e : i = j.toNatClampNeg
    · subst e; simp [Cell.setSlot, updF, hi']
    · rw [show (c.setSlot j.toNatClampNeg (mk w)).slots[i]? = c.slots[i]? from by simp [Cell.setSlot, Array.getElem?_setIfInBounds, Ne.symm e], H i hi']
      simp [updF, e]
end Own
end Jvm.RoadKit
namespace Jvm.Pilot.@@N@@
open Jvm Jvm.ClassFile Sem Op Lib Jvm.Free Jvm.Stand Jvm.LawKit Jvm.RoadKit Bundle Jvm.Pilot.@@N@@.Jvm.D
def Lead (p : Program) (e : Env) (below : List Frame) (A B : State) : Prop := ∀ t, Steps p.tables e below B t → Steps p.tables e below A t
def rdAt (p1 p2 p3 : Int32) : Int64 := (((p1.toInt64) <<< ((6 : Int32) &&& 0x3f).toInt64) + ((p3.toInt64) * (p2.toInt64)))
def rdWord (p1 p2 p3 : Int32) : Int32 := (((rdAt p1 p2 p3).toUInt64 >>> ((6 : Int32) &&& 0x3f).toInt64.toUInt64).toInt64).toInt32
def rdShift (p1 p2 p3 : Int32) : Int32 := ((rdAt p1 p2 p3) &&& (63 : Int64)).toInt32
theorem d1_0 : decode prog_29_method_9_code 0 = .ok (.lconst 0, 1) := by decide +kernel
theorem d1_1 : decode prog_29_method_9_code 1 = .ok (.lstore 4, 2) := by decide +kernel
theorem d1_3 : decode prog_29_method_9_code 3 = .ok (.iload_n 2, 1) := by decide +kernel
theorem d1_4 : decode prog_29_method_9_code 4 = .ok (.ifCond .le 81, 3) := by decide +kernel
theorem d1_7 : decode prog_29_method_9_code 7 = .ok (.iload_n 1, 1) := by decide +kernel
theorem d1_8 : decode prog_29_method_9_code 8 = .ok (.i2l, 1) := by decide +kernel
theorem d1_9 : decode prog_29_method_9_code 9 = .ok (.bipush 6, 2) := by decide +kernel
theorem d1_11 : decode prog_29_method_9_code 11 = .ok (.lshl, 1) := by decide +kernel
theorem d1_12 : decode prog_29_method_9_code 12 = .ok (.iload_n 3, 1) := by decide +kernel
theorem d1_13 : decode prog_29_method_9_code 13 = .ok (.i2l, 1) := by decide +kernel
theorem d1_14 : decode prog_29_method_9_code 14 = .ok (.iload_n 2, 1) := by decide +kernel
theorem d1_15 : decode prog_29_method_9_code 15 = .ok (.i2l, 1) := by decide +kernel
theorem d1_16 : decode prog_29_method_9_code 16 = .ok (.lmul, 1) := by decide +kernel
theorem d1_17 : decode prog_29_method_9_code 17 = .ok (.ladd, 1) := by decide +kernel
theorem d1_18 : decode prog_29_method_9_code 18 = .ok (.lstore 6, 2) := by decide +kernel
theorem d1_20 : decode prog_29_method_9_code 20 = .ok (.lload 6, 2) := by decide +kernel
theorem d1_22 : decode prog_29_method_9_code 22 = .ok (.bipush 6, 2) := by decide +kernel
theorem d1_24 : decode prog_29_method_9_code 24 = .ok (.lushr, 1) := by decide +kernel
theorem d1_25 : decode prog_29_method_9_code 25 = .ok (.l2i, 1) := by decide +kernel
theorem d1_26 : decode prog_29_method_9_code 26 = .ok (.istore 8, 2) := by decide +kernel
theorem d1_28 : decode prog_29_method_9_code 28 = .ok (.lload 6, 2) := by decide +kernel
theorem d1_30 : decode prog_29_method_9_code 30 = .ok (.ldc2_w 72, 3) := by decide +kernel
theorem d1_33 : decode prog_29_method_9_code 33 = .ok (.land, 1) := by decide +kernel
theorem d1_34 : decode prog_29_method_9_code 34 = .ok (.l2i, 1) := by decide +kernel
theorem d1_35 : decode prog_29_method_9_code 35 = .ok (.istore 9, 2) := by decide +kernel
theorem d1_37 : decode prog_29_method_9_code 37 = .ok (.aload_n 0, 1) := by decide +kernel
theorem d1_38 : decode prog_29_method_9_code 38 = .ok (.iload 8, 2) := by decide +kernel
theorem d1_40 : decode prog_29_method_9_code 40 = .ok (.laload, 1) := by decide +kernel
theorem d1_41 : decode prog_29_method_9_code 41 = .ok (.iload 9, 2) := by decide +kernel
theorem d1_43 : decode prog_29_method_9_code 43 = .ok (.lushr, 1) := by decide +kernel
theorem d1_44 : decode prog_29_method_9_code 44 = .ok (.lstore 4, 2) := by decide +kernel
theorem d1_46 : decode prog_29_method_9_code 46 = .ok (.iload 9, 2) := by decide +kernel
theorem d1_48 : decode prog_29_method_9_code 48 = .ok (.iload_n 2, 1) := by decide +kernel
theorem d1_49 : decode prog_29_method_9_code 49 = .ok (.iadd, 1) := by decide +kernel
theorem d1_50 : decode prog_29_method_9_code 50 = .ok (.bipush 64, 2) := by decide +kernel
theorem d1_52 : decode prog_29_method_9_code 52 = .ok (.if_icmp .le 20, 3) := by decide +kernel
theorem d1_55 : decode prog_29_method_9_code 55 = .ok (.lload 4, 2) := by decide +kernel
theorem d1_57 : decode prog_29_method_9_code 57 = .ok (.aload_n 0, 1) := by decide +kernel
theorem d1_58 : decode prog_29_method_9_code 58 = .ok (.iload 8, 2) := by decide +kernel
theorem d1_60 : decode prog_29_method_9_code 60 = .ok (.iconst 1, 1) := by decide +kernel
theorem d1_61 : decode prog_29_method_9_code 61 = .ok (.iadd, 1) := by decide +kernel
theorem d1_62 : decode prog_29_method_9_code 62 = .ok (.laload, 1) := by decide +kernel
theorem d1_63 : decode prog_29_method_9_code 63 = .ok (.bipush 64, 2) := by decide +kernel
theorem d1_65 : decode prog_29_method_9_code 65 = .ok (.iload 9, 2) := by decide +kernel
theorem d1_67 : decode prog_29_method_9_code 67 = .ok (.isub, 1) := by decide +kernel
theorem d1_68 : decode prog_29_method_9_code 68 = .ok (.lshl, 1) := by decide +kernel
theorem d1_69 : decode prog_29_method_9_code 69 = .ok (.lor, 1) := by decide +kernel
theorem d1_70 : decode prog_29_method_9_code 70 = .ok (.lstore 4, 2) := by decide +kernel
theorem d1_72 : decode prog_29_method_9_code 72 = .ok (.lload 4, 2) := by decide +kernel
theorem d1_74 : decode prog_29_method_9_code 74 = .ok (.ldc2_w 74, 3) := by decide +kernel
theorem d1_77 : decode prog_29_method_9_code 77 = .ok (.bipush 64, 2) := by decide +kernel
theorem d1_79 : decode prog_29_method_9_code 79 = .ok (.iload_n 2, 1) := by decide +kernel
theorem d1_80 : decode prog_29_method_9_code 80 = .ok (.isub, 1) := by decide +kernel
theorem d1_81 : decode prog_29_method_9_code 81 = .ok (.lushr, 1) := by decide +kernel
theorem d1_82 : decode prog_29_method_9_code 82 = .ok (.land, 1) := by decide +kernel
theorem d1_83 : decode prog_29_method_9_code 83 = .ok (.lstore 4, 2) := by decide +kernel
theorem d1_85 : decode prog_29_method_9_code 85 = .ok (.lload 4, 2) := by decide +kernel
theorem d1_87 : decode prog_29_method_9_code 87 = .ok (.lreturn, 1) := by decide +kernel
def F1 (p1 : Int32) (p2 : Int32) (p3 : Int32) (ga : Nat → Int64) : Int64 := if (0 : Int32) < p2 then (let v5 : Int64 := (((p1.toInt64) <<< ((6 : Int32) &&& 0x3f).toInt64) + ((p3.toInt64) * (p2.toInt64))); let v7 : Int32 := (((v5.toUInt64 >>> ((6 : Int32) &&& 0x3f).toInt64.toUInt64).toInt64).toInt32); let v11 : Int64 := (((ga (v7).toNatClampNeg).toUInt64 >>> (((v5 &&& (63 : Int64)).toInt32) &&& 0x3f).toInt64.toUInt64).toInt64); if (64 : Int32) < (((v5 &&& (63 : Int64)).toInt32) + p2) then (let v18 : Int64 := (v11 ||| ((ga ((v7 + (1 : Int32))).toNatClampNeg) <<< (((64 : Int32) - ((v5 &&& (63 : Int64)).toInt32)) &&& 0x3f).toInt64)); let v20 : Int64 := (v18 &&& (((-1 : Int64).toUInt64 >>> (((64 : Int32) - p2) &&& 0x3f).toInt64.toUInt64).toInt64)); v20) else (let v22 : Int64 := (v11 &&& (((-1 : Int64).toUInt64 >>> (((64 : Int32) - p2) &&& 0x3f).toInt64.toUInt64).toInt64)); v22)) else ((0 : Int64))
theorem pn_com_example_findwright_findwright_PackedInts : plainName "com/example/findwright/findwright/PackedInts" = true := by first | (simp [plainName, overriddenIn]; done) | decide +kernel
theorem ef_1 (m : MethodId) (o0 : Addr) (p1 : Int32) (p2 : Int32) (p3 : Int32) : entryFrame m #[(.ref o0), (.int p1), (.int p2), (.int p3)] 10 = mkF m 0 #[.val (.ref o0), .val (.int p1), .val (.int p2), .val (.int p3), .unset, .unset, .unset, .unset, .unset, .unset] [] := by first | (simp [entryFrame, mkF, argsToLocals, Value.category]; done) | rfl
def Q1 (Z : State) (o0 : Addr) (p1 : Int32) (p2 : Int32) (p3 : Int32) (nl : Int32) (ga : Nat → Int64) (h0 : Heap) (n0 : Nat) (v : Option Value) (h : Heap) (L : List Loc) : Prop := v = some (.long (F1 p1 p2 p3 ga)) ∧ Fr n0 L ∧ h = h0
set_option maxRecDepth 65536 in
set_option maxHeartbeats 40000000 in
theorem rm1 (l : Launch) (Z : State) (a0 : Array Value) (hw : ∀ d ∈ tables_1, d.before a0 Z = true) (ws : List Jvm.Cond) (o0 : Addr) (p1 : Int32) (p2 : Int32) (p3 : Int32) (nl : Int32) (ga : Nat → Int64) (h0 : Heap) (n0 : Nat) (Z0 : n0 ≤ h0.size) (P0_V : JV Value.long Z h0 o0 .long nl ga) (hb1 : (0 : Int32) < p2 → ¬ rdWord p1 p2 p3 < 0 ∧ rdWord p1 p2 p3 < nl) (hb2 : (0 : Int32) < p2 → (64 : Int32) < rdShift p1 p2 p3 + p2 → ¬ rdWord p1 p2 p3 + 1 < 0 ∧ rdWord p1 p2 p3 + 1 < nl) :
    MetFree l (⟨"com/example/findwright/findwright/PackedInts", "read", "([JIII)J"⟩ : MethodName) (head1 (Jvm.Cond.code (⟨"com/example/findwright/findwright/PackedInts", "read", "([JIII)J"⟩ : MethodName) prog_29_method_9_code 10 (some .long) :: ws) ({ frames := 0, cells := 0, slots := 0, locals := 0 } : Room)) (fun a U => a = #[(.ref o0), (.int p1), (.int p2), (.int p3)] ∧ Z.Warmed39 U.vm ∧ U.heap = h0) (fun _ _ _ _ _ => True) (fun _ U o U' => ∃ v L, o = .returned v ∧ Q1 Z o0 p1 p2 p3 nl ga h0 n0 v U'.heap L ∧ FrameEnd U o U' L ({ frames := 0, cells := 0, slots := 0, locals := 0 } : Room).cells ({ frames := 0, cells := 0, slots := 0, locals := 0 } : Room).slots) := by
  refine MetFree.of_bodySF (plainFor_of_name pn_com_example_findwright_findwright_PackedInts) hisR ?_
  intro p e s m args below meth c s₁ Bd hml0 hP hK
  obtain ⟨rfl, hZ, hh⟩ := hP
  have hx := Bd.exec
  have hby := Bd.bytes
  have hml : c.maxLocals = 10 := hml0
  have hown : s.vm.findClass "com/example/findwright/findwright/PackedInts" = some m.cls := findClass_of_methodNamed Bd.named
  have hnm := (name_of_methodNamed Bd.named Bd.method).1
  have X0 : Stand p l e ({ frames := 0, cells := 0, slots := 0, locals := 0 } : Room) s m #[(.ref o0), (.int p1), (.int p2), (.int p3)] below meth c s₁ [] 0 0 := Stand.of_body Bd
  have e0 : s₁.heap = h0 := by rw [← hh, Bd.state]; rfl
  have N0 := Fr.nil n0
  have K0 : Keep h0 h0 [] := Keep.refl _ _
  obtain ⟨G, hG⟩ : ∃ z, z = s₁.setTop (entryFrame m #[(.ref o0), (.int p1), (.int p2), (.int p3)] 10) := ⟨_, rfl⟩
  have pre0 : Lead p e below G (s₁.setTop (mkF m 0 #[.val (.ref o0), .val (.int p1), .val (.int p2), .val (.int p3), .unset, .unset, .unset, .unset, .unset, .unset] [])) := fun t k => by rw [hG]; exact castTop (ef_1 m o0 p1 p2 p3) k
  have pre2 : Lead p e below G (s₁.setTop (mkF m 4 #[.val (.ref o0), .val (.int p1), .val (.int p2), .val (.int p3), .val (.long (0 : Int64)), .second, .unset, .unset, .unset, .unset] [(.int p2)])) := fun t k => by
    refine pre0 t ?_
    show Steps p.tables e below (s₁.setTop (mkF m 0 #[.val (.ref o0), .val (.int p1), .val (.int p2), .val (.int p3), .unset, .unset, .unset, .unset, .unset, .unset] [])) _
    refine XS.lconst X0.here hx rfl (hb hby d1_0) ?_
    show Steps p.tables e below (s₁.setTop (mkF m 1 #[.val (.ref o0), .val (.int p1), .val (.int p2), .val (.int p3), .unset, .unset, .unset, .unset, .unset, .unset] [(.long (0 : Int64))])) _
    refine XS.lstore X0.here hx rfl (hb hby d1_1) rfl (l' := #[.val (.ref o0), .val (.int p1), .val (.int p2), .val (.int p3), .val (.long (0 : Int64)), .second, .unset, .unset, .unset, .unset]) rfl ?_
    show Steps p.tables e below (s₁.setTop (mkF m 3 #[.val (.ref o0), .val (.int p1), .val (.int p2), .val (.int p3), .val (.long (0 : Int64)), .second, .unset, .unset, .unset, .unset] [])) _
    refine XS.iloadN X0.here hx rfl (hb hby d1_3) rfl ?_
    show Steps p.tables e below (s₁.setTop (mkF m 4 #[.val (.ref o0), .val (.int p1), .val (.int p2), .val (.int p3), .val (.long (0 : Int64)), .second, .unset, .unset, .unset, .unset] [(.int p2)])) _
    exact k
  by_cases hs4_3 : (0 : Int32) < p2
  · have pre4 : Lead p e below G (s₁.setTop (mkF m 20 #[.val (.ref o0), .val (.int p1), .val (.int p2), .val (.int p3), .val (.long (0 : Int64)), .second, .val (.long (((p1.toInt64) <<< ((6 : Int32) &&& 0x3f).toInt64) + ((p3.toInt64) * (p2.toInt64)))), .second, .unset, .unset] [])) := fun t k => by
      refine pre2 t ?_
      show Steps p.tables e below (s₁.setTop (mkF m 4 #[.val (.ref o0), .val (.int p1), .val (.int p2), .val (.int p3), .val (.long (0 : Int64)), .second, .unset, .unset, .unset, .unset] [(.int p2)])) _
      refine XS.ifNo X0.here hx rfl (hb hby d1_4) rfl ((if0 _ _).trans (tlt hs4_3).2.2.2) ?_
      show Steps p.tables e below (s₁.setTop (mkF m 7 #[.val (.ref o0), .val (.int p1), .val (.int p2), .val (.int p3), .val (.long (0 : Int64)), .second, .unset, .unset, .unset, .unset] [])) _
      refine XS.iloadN X0.here hx rfl (hb hby d1_7) rfl ?_
      show Steps p.tables e below (s₁.setTop (mkF m 8 #[.val (.ref o0), .val (.int p1), .val (.int p2), .val (.int p3), .val (.long (0 : Int64)), .second, .unset, .unset, .unset, .unset] [(.int p1)])) _
      refine XS.i2l X0.here hx rfl (hb hby d1_8) rfl ?_
      show Steps p.tables e below (s₁.setTop (mkF m 9 #[.val (.ref o0), .val (.int p1), .val (.int p2), .val (.int p3), .val (.long (0 : Int64)), .second, .unset, .unset, .unset, .unset] [(.long (p1.toInt64))])) _
      refine XS.bipush X0.here hx rfl (hb hby d1_9) ?_
      show Steps p.tables e below (s₁.setTop (mkF m 11 #[.val (.ref o0), .val (.int p1), .val (.int p2), .val (.int p3), .val (.long (0 : Int64)), .second, .unset, .unset, .unset, .unset] [(.int (6 : Int32)), (.long (p1.toInt64))])) _
      refine XS.lshl X0.here hx rfl (hb hby d1_11) rfl ?_
      show Steps p.tables e below (s₁.setTop (mkF m 12 #[.val (.ref o0), .val (.int p1), .val (.int p2), .val (.int p3), .val (.long (0 : Int64)), .second, .unset, .unset, .unset, .unset] [(.long ((p1.toInt64) <<< ((6 : Int32) &&& 0x3f).toInt64))])) _
      refine XS.iloadN X0.here hx rfl (hb hby d1_12) rfl ?_
      show Steps p.tables e below (s₁.setTop (mkF m 13 #[.val (.ref o0), .val (.int p1), .val (.int p2), .val (.int p3), .val (.long (0 : Int64)), .second, .unset, .unset, .unset, .unset] [(.int p3), (.long ((p1.toInt64) <<< ((6 : Int32) &&& 0x3f).toInt64))])) _
      refine XS.i2l X0.here hx rfl (hb hby d1_13) rfl ?_
      show Steps p.tables e below (s₁.setTop (mkF m 14 #[.val (.ref o0), .val (.int p1), .val (.int p2), .val (.int p3), .val (.long (0 : Int64)), .second, .unset, .unset, .unset, .unset] [(.long (p3.toInt64)), (.long ((p1.toInt64) <<< ((6 : Int32) &&& 0x3f).toInt64))])) _
      refine XS.iloadN X0.here hx rfl (hb hby d1_14) rfl ?_
      show Steps p.tables e below (s₁.setTop (mkF m 15 #[.val (.ref o0), .val (.int p1), .val (.int p2), .val (.int p3), .val (.long (0 : Int64)), .second, .unset, .unset, .unset, .unset] [(.int p2), (.long (p3.toInt64)), (.long ((p1.toInt64) <<< ((6 : Int32) &&& 0x3f).toInt64))])) _
      refine XS.i2l X0.here hx rfl (hb hby d1_15) rfl ?_
      show Steps p.tables e below (s₁.setTop (mkF m 16 #[.val (.ref o0), .val (.int p1), .val (.int p2), .val (.int p3), .val (.long (0 : Int64)), .second, .unset, .unset, .unset, .unset] [(.long (p2.toInt64)), (.long (p3.toInt64)), (.long ((p1.toInt64) <<< ((6 : Int32) &&& 0x3f).toInt64))])) _
      refine XS.lmul X0.here hx rfl (hb hby d1_16) rfl ?_
      show Steps p.tables e below (s₁.setTop (mkF m 17 #[.val (.ref o0), .val (.int p1), .val (.int p2), .val (.int p3), .val (.long (0 : Int64)), .second, .unset, .unset, .unset, .unset] [(.long ((p3.toInt64) * (p2.toInt64))), (.long ((p1.toInt64) <<< ((6 : Int32) &&& 0x3f).toInt64))])) _
      refine XS.ladd X0.here hx rfl (hb hby d1_17) rfl ?_
      show Steps p.tables e below (s₁.setTop (mkF m 18 #[.val (.ref o0), .val (.int p1), .val (.int p2), .val (.int p3), .val (.long (0 : Int64)), .second, .unset, .unset, .unset, .unset] [(.long (((p1.toInt64) <<< ((6 : Int32) &&& 0x3f).toInt64) + ((p3.toInt64) * (p2.toInt64))))])) _
      refine XS.lstore X0.here hx rfl (hb hby d1_18) rfl (l' := #[.val (.ref o0), .val (.int p1), .val (.int p2), .val (.int p3), .val (.long (0 : Int64)), .second, .val (.long (((p1.toInt64) <<< ((6 : Int32) &&& 0x3f).toInt64) + ((p3.toInt64) * (p2.toInt64)))), .second, .unset, .unset]) rfl ?_
      show Steps p.tables e below (s₁.setTop (mkF m 20 #[.val (.ref o0), .val (.int p1), .val (.int p2), .val (.int p3), .val (.long (0 : Int64)), .second, .val (.long (((p1.toInt64) <<< ((6 : Int32) &&& 0x3f).toInt64) + ((p3.toInt64) * (p2.toInt64)))), .second, .unset, .unset] [])) _
      exact k
    obtain ⟨v5, hv5⟩ : ∃ z : Int64, z = (((p1.toInt64) <<< ((6 : Int32) &&& 0x3f).toInt64) + ((p3.toInt64) * (p2.toInt64))) := ⟨_, rfl⟩
    have pre5 : Lead p e below G (s₁.setTop (mkF m 20 #[.val (.ref o0), .val (.int p1), .val (.int p2), .val (.int p3), .val (.long (0 : Int64)), .second, .val (.long v5), .second, .unset, .unset] [])) := by rw [hv5]; exact pre4
    have pre6 : Lead p e below G (s₁.setTop (mkF m 28 #[.val (.ref o0), .val (.int p1), .val (.int p2), .val (.int p3), .val (.long (0 : Int64)), .second, .val (.long v5), .second, .val (.int (((v5.toUInt64 >>> ((6 : Int32) &&& 0x3f).toInt64.toUInt64).toInt64).toInt32)), .unset] [])) := fun t k => by
      refine pre5 t ?_
      show Steps p.tables e below (s₁.setTop (mkF m 20 #[.val (.ref o0), .val (.int p1), .val (.int p2), .val (.int p3), .val (.long (0 : Int64)), .second, .val (.long v5), .second, .unset, .unset] [])) _
      refine XS.lload X0.here hx rfl (hb hby d1_20) rfl ?_
      show Steps p.tables e below (s₁.setTop (mkF m 22 #[.val (.ref o0), .val (.int p1), .val (.int p2), .val (.int p3), .val (.long (0 : Int64)), .second, .val (.long v5), .second, .unset, .unset] [(.long v5)])) _
      refine XS.bipush X0.here hx rfl (hb hby d1_22) ?_
      show Steps p.tables e below (s₁.setTop (mkF m 24 #[.val (.ref o0), .val (.int p1), .val (.int p2), .val (.int p3), .val (.long (0 : Int64)), .second, .val (.long v5), .second, .unset, .unset] [(.int (6 : Int32)), (.long v5)])) _
      refine XS.lushr X0.here hx rfl (hb hby d1_24) rfl ?_
      show Steps p.tables e below (s₁.setTop (mkF m 25 #[.val (.ref o0), .val (.int p1), .val (.int p2), .val (.int p3), .val (.long (0 : Int64)), .second, .val (.long v5), .second, .unset, .unset] [(.long ((v5.toUInt64 >>> ((6 : Int32) &&& 0x3f).toInt64.toUInt64).toInt64))])) _
      refine XS.l2i X0.here hx rfl (hb hby d1_25) rfl ?_
      show Steps p.tables e below (s₁.setTop (mkF m 26 #[.val (.ref o0), .val (.int p1), .val (.int p2), .val (.int p3), .val (.long (0 : Int64)), .second, .val (.long v5), .second, .unset, .unset] [(.int (((v5.toUInt64 >>> ((6 : Int32) &&& 0x3f).toInt64.toUInt64).toInt64).toInt32))])) _
      refine XS.istore X0.here hx rfl (hb hby d1_26) rfl (l' := #[.val (.ref o0), .val (.int p1), .val (.int p2), .val (.int p3), .val (.long (0 : Int64)), .second, .val (.long v5), .second, .val (.int (((v5.toUInt64 >>> ((6 : Int32) &&& 0x3f).toInt64.toUInt64).toInt64).toInt32)), .unset]) rfl ?_
      show Steps p.tables e below (s₁.setTop (mkF m 28 #[.val (.ref o0), .val (.int p1), .val (.int p2), .val (.int p3), .val (.long (0 : Int64)), .second, .val (.long v5), .second, .val (.int (((v5.toUInt64 >>> ((6 : Int32) &&& 0x3f).toInt64.toUInt64).toInt64).toInt32)), .unset] [])) _
      exact k
    obtain ⟨v7, hv7⟩ : ∃ z : Int32, z = (((v5.toUInt64 >>> ((6 : Int32) &&& 0x3f).toInt64.toUInt64).toInt64).toInt32) := ⟨_, rfl⟩
    have pre7 : Lead p e below G (s₁.setTop (mkF m 28 #[.val (.ref o0), .val (.int p1), .val (.int p2), .val (.int p3), .val (.long (0 : Int64)), .second, .val (.long v5), .second, .val (.int v7), .unset] [])) := by rw [hv7]; exact pre6
    have pre8 : Lead p e below G (s₁.setTop (mkF m 40 #[.val (.ref o0), .val (.int p1), .val (.int p2), .val (.int p3), .val (.long (0 : Int64)), .second, .val (.long v5), .second, .val (.int v7), .val (.int ((v5 &&& (63 : Int64)).toInt32))] [(.int v7), (.ref o0)])) := fun t k => by
      refine pre7 t ?_
      show Steps p.tables e below (s₁.setTop (mkF m 28 #[.val (.ref o0), .val (.int p1), .val (.int p2), .val (.int p3), .val (.long (0 : Int64)), .second, .val (.long v5), .second, .val (.int v7), .unset] [])) _
      refine XS.lload X0.here hx rfl (hb hby d1_28) rfl ?_
      show Steps p.tables e below (s₁.setTop (mkF m 30 #[.val (.ref o0), .val (.int p1), .val (.int p2), .val (.int p3), .val (.long (0 : Int64)), .second, .val (.long v5), .second, .val (.int v7), .unset] [(.long v5)])) _
      refine X0.ldc2Long hx hown (mvT hZ (hw _ (List.mem_of_getElem? (i := 8) rfl))) (g := (mkF m 30 #[.val (.ref o0), .val (.int p1), .val (.int p2), .val (.int p3), .val (.long (0 : Int64)), .second, .val (.long v5), .second, .val (.int v7), .unset] [(.long v5)])) rfl (hb hby d1_30) _ ?_
      show Steps p.tables e below (s₁.setTop (mkF m 33 #[.val (.ref o0), .val (.int p1), .val (.int p2), .val (.int p3), .val (.long (0 : Int64)), .second, .val (.long v5), .second, .val (.int v7), .unset] [(.long (63 : Int64)), (.long v5)])) _
      refine XS.land X0.here hx rfl (hb hby d1_33) rfl ?_
      show Steps p.tables e below (s₁.setTop (mkF m 34 #[.val (.ref o0), .val (.int p1), .val (.int p2), .val (.int p3), .val (.long (0 : Int64)), .second, .val (.long v5), .second, .val (.int v7), .unset] [(.long (v5 &&& (63 : Int64)))])) _
      refine XS.l2i X0.here hx rfl (hb hby d1_34) rfl ?_
      show Steps p.tables e below (s₁.setTop (mkF m 35 #[.val (.ref o0), .val (.int p1), .val (.int p2), .val (.int p3), .val (.long (0 : Int64)), .second, .val (.long v5), .second, .val (.int v7), .unset] [(.int ((v5 &&& (63 : Int64)).toInt32))])) _
      refine XS.istore X0.here hx rfl (hb hby d1_35) rfl (l' := #[.val (.ref o0), .val (.int p1), .val (.int p2), .val (.int p3), .val (.long (0 : Int64)), .second, .val (.long v5), .second, .val (.int v7), .val (.int ((v5 &&& (63 : Int64)).toInt32))]) rfl ?_
      show Steps p.tables e below (s₁.setTop (mkF m 37 #[.val (.ref o0), .val (.int p1), .val (.int p2), .val (.int p3), .val (.long (0 : Int64)), .second, .val (.long v5), .second, .val (.int v7), .val (.int ((v5 &&& (63 : Int64)).toInt32))] [])) _
      refine XS.aloadN X0.here hx rfl (hb hby d1_37) rfl rfl ?_
      show Steps p.tables e below (s₁.setTop (mkF m 38 #[.val (.ref o0), .val (.int p1), .val (.int p2), .val (.int p3), .val (.long (0 : Int64)), .second, .val (.long v5), .second, .val (.int v7), .val (.int ((v5 &&& (63 : Int64)).toInt32))] [(.ref o0)])) _
      refine XS.iload X0.here hx rfl (hb hby d1_38) rfl ?_
      show Steps p.tables e below (s₁.setTop (mkF m 40 #[.val (.ref o0), .val (.int p1), .val (.int p2), .val (.int p3), .val (.long (0 : Int64)), .second, .val (.long v5), .second, .val (.int v7), .val (.int ((v5 &&& (63 : Int64)).toInt32))] [(.int v7), (.ref o0)])) _
      exact k
    obtain ⟨cl9, Ar9, hin9, hat9⟩ := P0_V.in (j := v7) (by subst hv7 hv5; exact (hb1 hs4_3))
    have st9 := X0.laload hx (j := v7) (v := (.long (ga (v7).toNatClampNeg))) (by rw [e0]; exact Ar9.1) (State.isArrayOf_alike hZ.alike Ar9.2.1) Ar9.2.2 hin9 hat9 (g := (mkF m 40 #[.val (.ref o0), .val (.int p1), .val (.int p2), .val (.int p3), .val (.long (0 : Int64)), .second, .val (.long v5), .second, .val (.int v7), .val (.int ((v5 &&& (63 : Int64)).toInt32))] [(.int v7), (.ref o0)])) rfl rfl (hb hby d1_40)
    have pre9 : Lead p e below G (s₁.setTop (mkF m 41 #[.val (.ref o0), .val (.int p1), .val (.int p2), .val (.int p3), .val (.long (0 : Int64)), .second, .val (.long v5), .second, .val (.int v7), .val (.int ((v5 &&& (63 : Int64)).toInt32))] [(.long (ga (v7).toNatClampNeg))])) := fun t k => pre8 t (st9 _ k)
    have pre10 : Lead p e below G (s₁.setTop (mkF m 46 #[.val (.ref o0), .val (.int p1), .val (.int p2), .val (.int p3), .val (.long (((ga (v7).toNatClampNeg).toUInt64 >>> (((v5 &&& (63 : Int64)).toInt32) &&& 0x3f).toInt64.toUInt64).toInt64)), .second, .val (.long v5), .second, .val (.int v7), .val (.int ((v5 &&& (63 : Int64)).toInt32))] [])) := fun t k => by
      refine pre9 t ?_
      show Steps p.tables e below (s₁.setTop (mkF m 41 #[.val (.ref o0), .val (.int p1), .val (.int p2), .val (.int p3), .val (.long (0 : Int64)), .second, .val (.long v5), .second, .val (.int v7), .val (.int ((v5 &&& (63 : Int64)).toInt32))] [(.long (ga (v7).toNatClampNeg))])) _
      refine XS.iload X0.here hx rfl (hb hby d1_41) rfl ?_
      show Steps p.tables e below (s₁.setTop (mkF m 43 #[.val (.ref o0), .val (.int p1), .val (.int p2), .val (.int p3), .val (.long (0 : Int64)), .second, .val (.long v5), .second, .val (.int v7), .val (.int ((v5 &&& (63 : Int64)).toInt32))] [(.int ((v5 &&& (63 : Int64)).toInt32)), (.long (ga (v7).toNatClampNeg))])) _
      refine XS.lushr X0.here hx rfl (hb hby d1_43) rfl ?_
      show Steps p.tables e below (s₁.setTop (mkF m 44 #[.val (.ref o0), .val (.int p1), .val (.int p2), .val (.int p3), .val (.long (0 : Int64)), .second, .val (.long v5), .second, .val (.int v7), .val (.int ((v5 &&& (63 : Int64)).toInt32))] [(.long (((ga (v7).toNatClampNeg).toUInt64 >>> (((v5 &&& (63 : Int64)).toInt32) &&& 0x3f).toInt64.toUInt64).toInt64))])) _
      refine XS.lstore X0.here hx rfl (hb hby d1_44) rfl (l' := #[.val (.ref o0), .val (.int p1), .val (.int p2), .val (.int p3), .val (.long (((ga (v7).toNatClampNeg).toUInt64 >>> (((v5 &&& (63 : Int64)).toInt32) &&& 0x3f).toInt64.toUInt64).toInt64)), .second, .val (.long v5), .second, .val (.int v7), .val (.int ((v5 &&& (63 : Int64)).toInt32))]) rfl ?_
      show Steps p.tables e below (s₁.setTop (mkF m 46 #[.val (.ref o0), .val (.int p1), .val (.int p2), .val (.int p3), .val (.long (((ga (v7).toNatClampNeg).toUInt64 >>> (((v5 &&& (63 : Int64)).toInt32) &&& 0x3f).toInt64.toUInt64).toInt64)), .second, .val (.long v5), .second, .val (.int v7), .val (.int ((v5 &&& (63 : Int64)).toInt32))] [])) _
      exact k
    obtain ⟨v11, hv11⟩ : ∃ z : Int64, z = (((ga (v7).toNatClampNeg).toUInt64 >>> (((v5 &&& (63 : Int64)).toInt32) &&& 0x3f).toInt64.toUInt64).toInt64) := ⟨_, rfl⟩
    have pre11 : Lead p e below G (s₁.setTop (mkF m 46 #[.val (.ref o0), .val (.int p1), .val (.int p2), .val (.int p3), .val (.long v11), .second, .val (.long v5), .second, .val (.int v7), .val (.int ((v5 &&& (63 : Int64)).toInt32))] [])) := by rw [hv11]; exact pre10
    have pre13 : Lead p e below G (s₁.setTop (mkF m 52 #[.val (.ref o0), .val (.int p1), .val (.int p2), .val (.int p3), .val (.long v11), .second, .val (.long v5), .second, .val (.int v7), .val (.int ((v5 &&& (63 : Int64)).toInt32))] [(.int (64 : Int32)), (.int (((v5 &&& (63 : Int64)).toInt32) + p2))])) := fun t k => by
      refine pre11 t ?_
      show Steps p.tables e below (s₁.setTop (mkF m 46 #[.val (.ref o0), .val (.int p1), .val (.int p2), .val (.int p3), .val (.long v11), .second, .val (.long v5), .second, .val (.int v7), .val (.int ((v5 &&& (63 : Int64)).toInt32))] [])) _
      refine XS.iload X0.here hx rfl (hb hby d1_46) rfl ?_
      show Steps p.tables e below (s₁.setTop (mkF m 48 #[.val (.ref o0), .val (.int p1), .val (.int p2), .val (.int p3), .val (.long v11), .second, .val (.long v5), .second, .val (.int v7), .val (.int ((v5 &&& (63 : Int64)).toInt32))] [(.int ((v5 &&& (63 : Int64)).toInt32))])) _
      refine XS.iloadN X0.here hx rfl (hb hby d1_48) rfl ?_
      show Steps p.tables e below (s₁.setTop (mkF m 49 #[.val (.ref o0), .val (.int p1), .val (.int p2), .val (.int p3), .val (.long v11), .second, .val (.long v5), .second, .val (.int v7), .val (.int ((v5 &&& (63 : Int64)).toInt32))] [(.int p2), (.int ((v5 &&& (63 : Int64)).toInt32))])) _
      refine XS.iadd X0.here hx rfl (hb hby d1_49) rfl ?_
      show Steps p.tables e below (s₁.setTop (mkF m 50 #[.val (.ref o0), .val (.int p1), .val (.int p2), .val (.int p3), .val (.long v11), .second, .val (.long v5), .second, .val (.int v7), .val (.int ((v5 &&& (63 : Int64)).toInt32))] [(.int (((v5 &&& (63 : Int64)).toInt32) + p2))])) _
      refine XS.bipush X0.here hx rfl (hb hby d1_50) ?_
      show Steps p.tables e below (s₁.setTop (mkF m 52 #[.val (.ref o0), .val (.int p1), .val (.int p2), .val (.int p3), .val (.long v11), .second, .val (.long v5), .second, .val (.int v7), .val (.int ((v5 &&& (63 : Int64)).toInt32))] [(.int (64 : Int32)), (.int (((v5 &&& (63 : Int64)).toInt32) + p2))])) _
      exact k
    by_cases hs52_14 : (64 : Int32) < (((v5 &&& (63 : Int64)).toInt32) + p2)
    · have pre15 : Lead p e below G (s₁.setTop (mkF m 62 #[.val (.ref o0), .val (.int p1), .val (.int p2), .val (.int p3), .val (.long v11), .second, .val (.long v5), .second, .val (.int v7), .val (.int ((v5 &&& (63 : Int64)).toInt32))] [(.int (v7 + (1 : Int32))), (.ref o0), (.long v11)])) := fun t k => by
        refine pre13 t ?_
        show Steps p.tables e below (s₁.setTop (mkF m 52 #[.val (.ref o0), .val (.int p1), .val (.int p2), .val (.int p3), .val (.long v11), .second, .val (.long v5), .second, .val (.int v7), .val (.int ((v5 &&& (63 : Int64)).toInt32))] [(.int (64 : Int32)), (.int (((v5 &&& (63 : Int64)).toInt32) + p2))])) _
        refine XS.icmpNo X0.here hx rfl (hb hby d1_52) rfl (tlt hs52_14).2.2.2 ?_
        show Steps p.tables e below (s₁.setTop (mkF m 55 #[.val (.ref o0), .val (.int p1), .val (.int p2), .val (.int p3), .val (.long v11), .second, .val (.long v5), .second, .val (.int v7), .val (.int ((v5 &&& (63 : Int64)).toInt32))] [])) _
        refine XS.lload X0.here hx rfl (hb hby d1_55) rfl ?_
        show Steps p.tables e below (s₁.setTop (mkF m 57 #[.val (.ref o0), .val (.int p1), .val (.int p2), .val (.int p3), .val (.long v11), .second, .val (.long v5), .second, .val (.int v7), .val (.int ((v5 &&& (63 : Int64)).toInt32))] [(.long v11)])) _
        refine XS.aloadN X0.here hx rfl (hb hby d1_57) rfl rfl ?_
        show Steps p.tables e below (s₁.setTop (mkF m 58 #[.val (.ref o0), .val (.int p1), .val (.int p2), .val (.int p3), .val (.long v11), .second, .val (.long v5), .second, .val (.int v7), .val (.int ((v5 &&& (63 : Int64)).toInt32))] [(.ref o0), (.long v11)])) _
        refine XS.iload X0.here hx rfl (hb hby d1_58) rfl ?_
        show Steps p.tables e below (s₁.setTop (mkF m 60 #[.val (.ref o0), .val (.int p1), .val (.int p2), .val (.int p3), .val (.long v11), .second, .val (.long v5), .second, .val (.int v7), .val (.int ((v5 &&& (63 : Int64)).toInt32))] [(.int v7), (.ref o0), (.long v11)])) _
        refine XS.iconst X0.here hx rfl (hb hby d1_60) ?_
        show Steps p.tables e below (s₁.setTop (mkF m 61 #[.val (.ref o0), .val (.int p1), .val (.int p2), .val (.int p3), .val (.long v11), .second, .val (.long v5), .second, .val (.int v7), .val (.int ((v5 &&& (63 : Int64)).toInt32))] [(.int (1 : Int32)), (.int v7), (.ref o0), (.long v11)])) _
        refine XS.iadd X0.here hx rfl (hb hby d1_61) rfl ?_
        show Steps p.tables e below (s₁.setTop (mkF m 62 #[.val (.ref o0), .val (.int p1), .val (.int p2), .val (.int p3), .val (.long v11), .second, .val (.long v5), .second, .val (.int v7), .val (.int ((v5 &&& (63 : Int64)).toInt32))] [(.int (v7 + (1 : Int32))), (.ref o0), (.long v11)])) _
        exact k
      obtain ⟨cl16, Ar16, hin16, hat16⟩ := P0_V.in (j := (v7 + (1 : Int32))) (by subst hv11 hv7 hv5; exact (hb2 hs4_3 hs52_14))
      have st16 := X0.laload hx (j := (v7 + (1 : Int32))) (v := (.long (ga ((v7 + (1 : Int32))).toNatClampNeg))) (by rw [e0]; exact Ar16.1) (State.isArrayOf_alike hZ.alike Ar16.2.1) Ar16.2.2 hin16 hat16 (g := (mkF m 62 #[.val (.ref o0), .val (.int p1), .val (.int p2), .val (.int p3), .val (.long v11), .second, .val (.long v5), .second, .val (.int v7), .val (.int ((v5 &&& (63 : Int64)).toInt32))] [(.int (v7 + (1 : Int32))), (.ref o0), (.long v11)])) rfl rfl (hb hby d1_62)
      have pre16 : Lead p e below G (s₁.setTop (mkF m 63 #[.val (.ref o0), .val (.int p1), .val (.int p2), .val (.int p3), .val (.long v11), .second, .val (.long v5), .second, .val (.int v7), .val (.int ((v5 &&& (63 : Int64)).toInt32))] [(.long (ga ((v7 + (1 : Int32))).toNatClampNeg)), (.long v11)])) := fun t k => pre15 t (st16 _ k)
      have pre17 : Lead p e below G (s₁.setTop (mkF m 72 #[.val (.ref o0), .val (.int p1), .val (.int p2), .val (.int p3), .val (.long (v11 ||| ((ga ((v7 + (1 : Int32))).toNatClampNeg) <<< (((64 : Int32) - ((v5 &&& (63 : Int64)).toInt32)) &&& 0x3f).toInt64))), .second, .val (.long v5), .second, .val (.int v7), .val (.int ((v5 &&& (63 : Int64)).toInt32))] [])) := fun t k => by
        refine pre16 t ?_
        show Steps p.tables e below (s₁.setTop (mkF m 63 #[.val (.ref o0), .val (.int p1), .val (.int p2), .val (.int p3), .val (.long v11), .second, .val (.long v5), .second, .val (.int v7), .val (.int ((v5 &&& (63 : Int64)).toInt32))] [(.long (ga ((v7 + (1 : Int32))).toNatClampNeg)), (.long v11)])) _
        refine XS.bipush X0.here hx rfl (hb hby d1_63) ?_
        show Steps p.tables e below (s₁.setTop (mkF m 65 #[.val (.ref o0), .val (.int p1), .val (.int p2), .val (.int p3), .val (.long v11), .second, .val (.long v5), .second, .val (.int v7), .val (.int ((v5 &&& (63 : Int64)).toInt32))] [(.int (64 : Int32)), (.long (ga ((v7 + (1 : Int32))).toNatClampNeg)), (.long v11)])) _
        refine XS.iload X0.here hx rfl (hb hby d1_65) rfl ?_
        show Steps p.tables e below (s₁.setTop (mkF m 67 #[.val (.ref o0), .val (.int p1), .val (.int p2), .val (.int p3), .val (.long v11), .second, .val (.long v5), .second, .val (.int v7), .val (.int ((v5 &&& (63 : Int64)).toInt32))] [(.int ((v5 &&& (63 : Int64)).toInt32)), (.int (64 : Int32)), (.long (ga ((v7 + (1 : Int32))).toNatClampNeg)), (.long v11)])) _
        refine XS.isub X0.here hx rfl (hb hby d1_67) rfl ?_
        show Steps p.tables e below (s₁.setTop (mkF m 68 #[.val (.ref o0), .val (.int p1), .val (.int p2), .val (.int p3), .val (.long v11), .second, .val (.long v5), .second, .val (.int v7), .val (.int ((v5 &&& (63 : Int64)).toInt32))] [(.int ((64 : Int32) - ((v5 &&& (63 : Int64)).toInt32))), (.long (ga ((v7 + (1 : Int32))).toNatClampNeg)), (.long v11)])) _
        refine XS.lshl X0.here hx rfl (hb hby d1_68) rfl ?_
        show Steps p.tables e below (s₁.setTop (mkF m 69 #[.val (.ref o0), .val (.int p1), .val (.int p2), .val (.int p3), .val (.long v11), .second, .val (.long v5), .second, .val (.int v7), .val (.int ((v5 &&& (63 : Int64)).toInt32))] [(.long ((ga ((v7 + (1 : Int32))).toNatClampNeg) <<< (((64 : Int32) - ((v5 &&& (63 : Int64)).toInt32)) &&& 0x3f).toInt64)), (.long v11)])) _
        refine XS.lor X0.here hx rfl (hb hby d1_69) rfl ?_
        show Steps p.tables e below (s₁.setTop (mkF m 70 #[.val (.ref o0), .val (.int p1), .val (.int p2), .val (.int p3), .val (.long v11), .second, .val (.long v5), .second, .val (.int v7), .val (.int ((v5 &&& (63 : Int64)).toInt32))] [(.long (v11 ||| ((ga ((v7 + (1 : Int32))).toNatClampNeg) <<< (((64 : Int32) - ((v5 &&& (63 : Int64)).toInt32)) &&& 0x3f).toInt64)))])) _
        refine XS.lstore X0.here hx rfl (hb hby d1_70) rfl (l' := #[.val (.ref o0), .val (.int p1), .val (.int p2), .val (.int p3), .val (.long (v11 ||| ((ga ((v7 + (1 : Int32))).toNatClampNeg) <<< (((64 : Int32) - ((v5 &&& (63 : Int64)).toInt32)) &&& 0x3f).toInt64))), .second, .val (.long v5), .second, .val (.int v7), .val (.int ((v5 &&& (63 : Int64)).toInt32))]) rfl ?_
        show Steps p.tables e below (s₁.setTop (mkF m 72 #[.val (.ref o0), .val (.int p1), .val (.int p2), .val (.int p3), .val (.long (v11 ||| ((ga ((v7 + (1 : Int32))).toNatClampNeg) <<< (((64 : Int32) - ((v5 &&& (63 : Int64)).toInt32)) &&& 0x3f).toInt64))), .second, .val (.long v5), .second, .val (.int v7), .val (.int ((v5 &&& (63 : Int64)).toInt32))] [])) _
        exact k
      obtain ⟨v18, hv18⟩ : ∃ z : Int64, z = (v11 ||| ((ga ((v7 + (1 : Int32))).toNatClampNeg) <<< (((64 : Int32) - ((v5 &&& (63 : Int64)).toInt32)) &&& 0x3f).toInt64)) := ⟨_, rfl⟩
      have pre18 : Lead p e below G (s₁.setTop (mkF m 72 #[.val (.ref o0), .val (.int p1), .val (.int p2), .val (.int p3), .val (.long v18), .second, .val (.long v5), .second, .val (.int v7), .val (.int ((v5 &&& (63 : Int64)).toInt32))] [])) := by rw [hv18]; exact pre17
      have pre19 : Lead p e below G (s₁.setTop (mkF m 85 #[.val (.ref o0), .val (.int p1), .val (.int p2), .val (.int p3), .val (.long (v18 &&& (((-1 : Int64).toUInt64 >>> (((64 : Int32) - p2) &&& 0x3f).toInt64.toUInt64).toInt64))), .second, .val (.long v5), .second, .val (.int v7), .val (.int ((v5 &&& (63 : Int64)).toInt32))] [])) := fun t k => by
        refine pre18 t ?_
        show Steps p.tables e below (s₁.setTop (mkF m 72 #[.val (.ref o0), .val (.int p1), .val (.int p2), .val (.int p3), .val (.long v18), .second, .val (.long v5), .second, .val (.int v7), .val (.int ((v5 &&& (63 : Int64)).toInt32))] [])) _
        refine XS.lload X0.here hx rfl (hb hby d1_72) rfl ?_
        show Steps p.tables e below (s₁.setTop (mkF m 74 #[.val (.ref o0), .val (.int p1), .val (.int p2), .val (.int p3), .val (.long v18), .second, .val (.long v5), .second, .val (.int v7), .val (.int ((v5 &&& (63 : Int64)).toInt32))] [(.long v18)])) _
        refine X0.ldc2Long hx hown (mvT hZ (hw _ (List.mem_of_getElem? (i := 9) rfl))) (g := (mkF m 74 #[.val (.ref o0), .val (.int p1), .val (.int p2), .val (.int p3), .val (.long v18), .second, .val (.long v5), .second, .val (.int v7), .val (.int ((v5 &&& (63 : Int64)).toInt32))] [(.long v18)])) rfl (hb hby d1_74) _ ?_
        show Steps p.tables e below (s₁.setTop (mkF m 77 #[.val (.ref o0), .val (.int p1), .val (.int p2), .val (.int p3), .val (.long v18), .second, .val (.long v5), .second, .val (.int v7), .val (.int ((v5 &&& (63 : Int64)).toInt32))] [(.long (-1 : Int64)), (.long v18)])) _
        refine XS.bipush X0.here hx rfl (hb hby d1_77) ?_
        show Steps p.tables e below (s₁.setTop (mkF m 79 #[.val (.ref o0), .val (.int p1), .val (.int p2), .val (.int p3), .val (.long v18), .second, .val (.long v5), .second, .val (.int v7), .val (.int ((v5 &&& (63 : Int64)).toInt32))] [(.int (64 : Int32)), (.long (-1 : Int64)), (.long v18)])) _
        refine XS.iloadN X0.here hx rfl (hb hby d1_79) rfl ?_
        show Steps p.tables e below (s₁.setTop (mkF m 80 #[.val (.ref o0), .val (.int p1), .val (.int p2), .val (.int p3), .val (.long v18), .second, .val (.long v5), .second, .val (.int v7), .val (.int ((v5 &&& (63 : Int64)).toInt32))] [(.int p2), (.int (64 : Int32)), (.long (-1 : Int64)), (.long v18)])) _
        refine XS.isub X0.here hx rfl (hb hby d1_80) rfl ?_
        show Steps p.tables e below (s₁.setTop (mkF m 81 #[.val (.ref o0), .val (.int p1), .val (.int p2), .val (.int p3), .val (.long v18), .second, .val (.long v5), .second, .val (.int v7), .val (.int ((v5 &&& (63 : Int64)).toInt32))] [(.int ((64 : Int32) - p2)), (.long (-1 : Int64)), (.long v18)])) _
        refine XS.lushr X0.here hx rfl (hb hby d1_81) rfl ?_
        show Steps p.tables e below (s₁.setTop (mkF m 82 #[.val (.ref o0), .val (.int p1), .val (.int p2), .val (.int p3), .val (.long v18), .second, .val (.long v5), .second, .val (.int v7), .val (.int ((v5 &&& (63 : Int64)).toInt32))] [(.long (((-1 : Int64).toUInt64 >>> (((64 : Int32) - p2) &&& 0x3f).toInt64.toUInt64).toInt64)), (.long v18)])) _
        refine XS.land X0.here hx rfl (hb hby d1_82) rfl ?_
        show Steps p.tables e below (s₁.setTop (mkF m 83 #[.val (.ref o0), .val (.int p1), .val (.int p2), .val (.int p3), .val (.long v18), .second, .val (.long v5), .second, .val (.int v7), .val (.int ((v5 &&& (63 : Int64)).toInt32))] [(.long (v18 &&& (((-1 : Int64).toUInt64 >>> (((64 : Int32) - p2) &&& 0x3f).toInt64.toUInt64).toInt64)))])) _
        refine XS.lstore X0.here hx rfl (hb hby d1_83) rfl (l' := #[.val (.ref o0), .val (.int p1), .val (.int p2), .val (.int p3), .val (.long (v18 &&& (((-1 : Int64).toUInt64 >>> (((64 : Int32) - p2) &&& 0x3f).toInt64.toUInt64).toInt64))), .second, .val (.long v5), .second, .val (.int v7), .val (.int ((v5 &&& (63 : Int64)).toInt32))]) rfl ?_
        show Steps p.tables e below (s₁.setTop (mkF m 85 #[.val (.ref o0), .val (.int p1), .val (.int p2), .val (.int p3), .val (.long (v18 &&& (((-1 : Int64).toUInt64 >>> (((64 : Int32) - p2) &&& 0x3f).toInt64.toUInt64).toInt64))), .second, .val (.long v5), .second, .val (.int v7), .val (.int ((v5 &&& (63 : Int64)).toInt32))] [])) _
        exact k
      obtain ⟨v20, hv20⟩ : ∃ z : Int64, z = (v18 &&& (((-1 : Int64).toUInt64 >>> (((64 : Int32) - p2) &&& 0x3f).toInt64.toUInt64).toInt64)) := ⟨_, rfl⟩
      have pre20 : Lead p e below G (s₁.setTop (mkF m 85 #[.val (.ref o0), .val (.int p1), .val (.int p2), .val (.int p3), .val (.long v20), .second, .val (.long v5), .second, .val (.int v7), .val (.int ((v5 &&& (63 : Int64)).toInt32))] [])) := by rw [hv20]; exact pre19
      obtain ⟨fs, hr, hrun, hended, hW, hsame⟩ := X0.leave (v := some (.long v20)) (fun h => by rw [Bd.returns] at h; cases h)
      subst hG
      refine ⟨_, _, pre20 _ ?_, hrun, hended, _, _, rfl, ?_, ⟨_, rfl⟩, hW, hsame.mono (by decide) (by decide)⟩
      · show Steps p.tables e below (s₁.setTop (mkF m 85 #[.val (.ref o0), .val (.int p1), .val (.int p2), .val (.int p3), .val (.long v20), .second, .val (.long v5), .second, .val (.int v7), .val (.int ((v5 &&& (63 : Int64)).toInt32))] [])) _
        refine XS.lload X0.here hx rfl (hb hby d1_85) rfl ?_
        show Steps p.tables e below (s₁.setTop (mkF m 87 #[.val (.ref o0), .val (.int p1), .val (.int p2), .val (.int p3), .val (.long v20), .second, .val (.long v5), .second, .val (.int v7), .val (.int ((v5 &&& (63 : Int64)).toInt32))] [(.long v20)])) _
        exact retJ X0 hx Bd.returns (hb hby d1_87) hr
      · show Q1 Z o0 p1 p2 p3 nl ga h0 n0 _ s₁.heap _
        rw [e0]
        have hv_ : v20 = F1 p1 p2 p3 ga := by
          subst hv20 hv18 hv11 hv7 hv5
          refine Eq.symm ?_; unfold F1; refine Eq.trans (if_pos hs4_3) ?_; refine Eq.trans (if_pos hs52_14) ?_; rfl
        exact ⟨congrArg (fun z => some (Value.long z)) hv_, N0, rfl⟩
    · have pre21 : Lead p e below G (s₁.setTop (mkF m 85 #[.val (.ref o0), .val (.int p1), .val (.int p2), .val (.int p3), .val (.long (v11 &&& (((-1 : Int64).toUInt64 >>> (((64 : Int32) - p2) &&& 0x3f).toInt64.toUInt64).toInt64))), .second, .val (.long v5), .second, .val (.int v7), .val (.int ((v5 &&& (63 : Int64)).toInt32))] [])) := fun t k => by
        refine pre13 t ?_
        show Steps p.tables e below (s₁.setTop (mkF m 52 #[.val (.ref o0), .val (.int p1), .val (.int p2), .val (.int p3), .val (.long v11), .second, .val (.long v5), .second, .val (.int v7), .val (.int ((v5 &&& (63 : Int64)).toInt32))] [(.int (64 : Int32)), (.int (((v5 &&& (63 : Int64)).toInt32) + p2))])) _
        refine XS.icmpYes X0.here hx rfl (pc0 := 52) (pc' := 72) rfl (hb hby d1_52) rfl (flt hs52_14).2.2.2 (by decide) (by decide) ?_
        show Steps p.tables e below (s₁.setTop (mkF m 72 #[.val (.ref o0), .val (.int p1), .val (.int p2), .val (.int p3), .val (.long v11), .second, .val (.long v5), .second, .val (.int v7), .val (.int ((v5 &&& (63 : Int64)).toInt32))] [])) _
        refine XS.lload X0.here hx rfl (hb hby d1_72) rfl ?_
        show Steps p.tables e below (s₁.setTop (mkF m 74 #[.val (.ref o0), .val (.int p1), .val (.int p2), .val (.int p3), .val (.long v11), .second, .val (.long v5), .second, .val (.int v7), .val (.int ((v5 &&& (63 : Int64)).toInt32))] [(.long v11)])) _
        refine X0.ldc2Long hx hown (mvT hZ (hw _ (List.mem_of_getElem? (i := 9) rfl))) (g := (mkF m 74 #[.val (.ref o0), .val (.int p1), .val (.int p2), .val (.int p3), .val (.long v11), .second, .val (.long v5), .second, .val (.int v7), .val (.int ((v5 &&& (63 : Int64)).toInt32))] [(.long v11)])) rfl (hb hby d1_74) _ ?_
        show Steps p.tables e below (s₁.setTop (mkF m 77 #[.val (.ref o0), .val (.int p1), .val (.int p2), .val (.int p3), .val (.long v11), .second, .val (.long v5), .second, .val (.int v7), .val (.int ((v5 &&& (63 : Int64)).toInt32))] [(.long (-1 : Int64)), (.long v11)])) _
        refine XS.bipush X0.here hx rfl (hb hby d1_77) ?_
        show Steps p.tables e below (s₁.setTop (mkF m 79 #[.val (.ref o0), .val (.int p1), .val (.int p2), .val (.int p3), .val (.long v11), .second, .val (.long v5), .second, .val (.int v7), .val (.int ((v5 &&& (63 : Int64)).toInt32))] [(.int (64 : Int32)), (.long (-1 : Int64)), (.long v11)])) _
        refine XS.iloadN X0.here hx rfl (hb hby d1_79) rfl ?_
        show Steps p.tables e below (s₁.setTop (mkF m 80 #[.val (.ref o0), .val (.int p1), .val (.int p2), .val (.int p3), .val (.long v11), .second, .val (.long v5), .second, .val (.int v7), .val (.int ((v5 &&& (63 : Int64)).toInt32))] [(.int p2), (.int (64 : Int32)), (.long (-1 : Int64)), (.long v11)])) _
        refine XS.isub X0.here hx rfl (hb hby d1_80) rfl ?_
        show Steps p.tables e below (s₁.setTop (mkF m 81 #[.val (.ref o0), .val (.int p1), .val (.int p2), .val (.int p3), .val (.long v11), .second, .val (.long v5), .second, .val (.int v7), .val (.int ((v5 &&& (63 : Int64)).toInt32))] [(.int ((64 : Int32) - p2)), (.long (-1 : Int64)), (.long v11)])) _
        refine XS.lushr X0.here hx rfl (hb hby d1_81) rfl ?_
        show Steps p.tables e below (s₁.setTop (mkF m 82 #[.val (.ref o0), .val (.int p1), .val (.int p2), .val (.int p3), .val (.long v11), .second, .val (.long v5), .second, .val (.int v7), .val (.int ((v5 &&& (63 : Int64)).toInt32))] [(.long (((-1 : Int64).toUInt64 >>> (((64 : Int32) - p2) &&& 0x3f).toInt64.toUInt64).toInt64)), (.long v11)])) _
        refine XS.land X0.here hx rfl (hb hby d1_82) rfl ?_
        show Steps p.tables e below (s₁.setTop (mkF m 83 #[.val (.ref o0), .val (.int p1), .val (.int p2), .val (.int p3), .val (.long v11), .second, .val (.long v5), .second, .val (.int v7), .val (.int ((v5 &&& (63 : Int64)).toInt32))] [(.long (v11 &&& (((-1 : Int64).toUInt64 >>> (((64 : Int32) - p2) &&& 0x3f).toInt64.toUInt64).toInt64)))])) _
        refine XS.lstore X0.here hx rfl (hb hby d1_83) rfl (l' := #[.val (.ref o0), .val (.int p1), .val (.int p2), .val (.int p3), .val (.long (v11 &&& (((-1 : Int64).toUInt64 >>> (((64 : Int32) - p2) &&& 0x3f).toInt64.toUInt64).toInt64))), .second, .val (.long v5), .second, .val (.int v7), .val (.int ((v5 &&& (63 : Int64)).toInt32))]) rfl ?_
        show Steps p.tables e below (s₁.setTop (mkF m 85 #[.val (.ref o0), .val (.int p1), .val (.int p2), .val (.int p3), .val (.long (v11 &&& (((-1 : Int64).toUInt64 >>> (((64 : Int32) - p2) &&& 0x3f).toInt64.toUInt64).toInt64))), .second, .val (.long v5), .second, .val (.int v7), .val (.int ((v5 &&& (63 : Int64)).toInt32))] [])) _
        exact k
      obtain ⟨v22, hv22⟩ : ∃ z : Int64, z = (v11 &&& (((-1 : Int64).toUInt64 >>> (((64 : Int32) - p2) &&& 0x3f).toInt64.toUInt64).toInt64)) := ⟨_, rfl⟩
      have pre22 : Lead p e below G (s₁.setTop (mkF m 85 #[.val (.ref o0), .val (.int p1), .val (.int p2), .val (.int p3), .val (.long v22), .second, .val (.long v5), .second, .val (.int v7), .val (.int ((v5 &&& (63 : Int64)).toInt32))] [])) := by rw [hv22]; exact pre21
      obtain ⟨fs, hr, hrun, hended, hW, hsame⟩ := X0.leave (v := some (.long v22)) (fun h => by rw [Bd.returns] at h; cases h)
      subst hG
      refine ⟨_, _, pre22 _ ?_, hrun, hended, _, _, rfl, ?_, ⟨_, rfl⟩, hW, hsame.mono (by decide) (by decide)⟩
      · show Steps p.tables e below (s₁.setTop (mkF m 85 #[.val (.ref o0), .val (.int p1), .val (.int p2), .val (.int p3), .val (.long v22), .second, .val (.long v5), .second, .val (.int v7), .val (.int ((v5 &&& (63 : Int64)).toInt32))] [])) _
        refine XS.lload X0.here hx rfl (hb hby d1_85) rfl ?_
        show Steps p.tables e below (s₁.setTop (mkF m 87 #[.val (.ref o0), .val (.int p1), .val (.int p2), .val (.int p3), .val (.long v22), .second, .val (.long v5), .second, .val (.int v7), .val (.int ((v5 &&& (63 : Int64)).toInt32))] [(.long v22)])) _
        exact retJ X0 hx Bd.returns (hb hby d1_87) hr
      · show Q1 Z o0 p1 p2 p3 nl ga h0 n0 _ s₁.heap _
        rw [e0]
        have hv_ : v22 = F1 p1 p2 p3 ga := by
          subst hv22 hv11 hv7 hv5
          refine Eq.symm ?_; unfold F1; refine Eq.trans (if_pos hs4_3) ?_; refine Eq.trans (if_neg hs52_14) ?_; rfl
        exact ⟨congrArg (fun z => some (Value.long z)) hv_, N0, rfl⟩
  · obtain ⟨fs, hr, hrun, hended, hW, hsame⟩ := X0.leave (v := some (.long (0 : Int64))) (fun h => by rw [Bd.returns] at h; cases h)
    subst hG
    refine ⟨_, _, pre2 _ ?_, hrun, hended, _, _, rfl, ?_, ⟨_, rfl⟩, hW, hsame.mono (by decide) (by decide)⟩
    · show Steps p.tables e below (s₁.setTop (mkF m 4 #[.val (.ref o0), .val (.int p1), .val (.int p2), .val (.int p3), .val (.long (0 : Int64)), .second, .unset, .unset, .unset, .unset] [(.int p2)])) _
      refine XS.ifYes X0.here hx rfl (pc0 := 4) (pc' := 85) rfl (hb hby d1_4) rfl ((if0 _ _).trans (flt hs4_3).2.2.2) (by decide) (by decide) ?_
      show Steps p.tables e below (s₁.setTop (mkF m 85 #[.val (.ref o0), .val (.int p1), .val (.int p2), .val (.int p3), .val (.long (0 : Int64)), .second, .unset, .unset, .unset, .unset] [])) _
      refine XS.lload X0.here hx rfl (hb hby d1_85) rfl ?_
      show Steps p.tables e below (s₁.setTop (mkF m 87 #[.val (.ref o0), .val (.int p1), .val (.int p2), .val (.int p3), .val (.long (0 : Int64)), .second, .unset, .unset, .unset, .unset] [(.long (0 : Int64))])) _
      exact retJ X0 hx Bd.returns (hb hby d1_87) hr
    · show Q1 Z o0 p1 p2 p3 nl ga h0 n0 _ s₁.heap _
      rw [e0]
      have hv_ : (0 : Int64) = F1 p1 p2 p3 ga := by
        skip
        refine Eq.symm ?_; unfold F1; refine Eq.trans (if_neg hs4_3) ?_; rfl
      exact ⟨congrArg (fun z => some (Value.long z)) hv_, N0, rfl⟩
theorem pd__28__5b_JIII_29_J : parseMethodDescriptor "([JIII)J" = some ⟨[(.array .long), .int, .int, .int], some .long⟩ := by decide +kernel
def F0 (q0 : Int64) (q1 : Int64) (q2 : Int64) (p3 : Int32) (p4 : Int32) (p5 : Int32) : Int32 := let v2 : Int32 := ((p4 &&& (2147483647 : Int32)) - ((p4 &&& (2147483647 : Int32)) / (65 : Int32)) * (65 : Int32)); let v6 : Int32 := (if (0 : Int32) < v2 then ((p5 &&& (2147483647 : Int32)) - ((p5 &&& (2147483647 : Int32)) / (((256 : Int32) - ((64 : Int32) * (p3 &&& (3 : Int32)))) / v2)) * (((256 : Int32) - ((64 : Int32) * (p3 &&& (3 : Int32)))) / v2)) else p5); let v10 : Int64 := (if v2 = (64 : Int32) then (-1 : Int64) else (((1 : Int64) <<< (v2 &&& 0x3f).toInt64) - (1 : Int64))); let g18 : Nat → Int64 := (updF (updF (updF (fun _ => (0 : Int64)) 0 q0) 1 q1) 2 (q0 ^^^ (-1 : Int64))); let v22 : Int64 := ((((p3 &&& (3 : Int32)).toInt64) * (64 : Int64)) + ((v6.toInt64) * (v2.toInt64))); if (0 : Int32) < v2 then (let v27 : Int32 := ((v22 - (v22 / (64 : Int64)) * (64 : Int64)).toInt32); let v30 : Int64 := ((((updF g18 3 (q1 ^^^ (-1 : Int64))) (((v22 / (64 : Int64)).toInt32)).toNatClampNeg) &&& ((v10 <<< (v27 &&& 0x3f).toInt64) ^^^ (-1 : Int64))) ||| ((q2 &&& v10) <<< (v27 &&& 0x3f).toInt64)); let g31 : Nat → Int64 := (updF (updF g18 3 (q1 ^^^ (-1 : Int64))) (((v22 / (64 : Int64)).toInt32)).toNatClampNeg v30); if (64 : Int32) < (v27 + v2) then (let v36 : Int32 := (((v22 / (64 : Int64)).toInt32) + (1 : Int32)); let v39 : Int64 := (((g31 (v36).toNatClampNeg) &&& (((v10.toUInt64 >>> (((64 : Int32) - v27) &&& 0x3f).toInt64.toUInt64).toInt64) ^^^ (-1 : Int64))) ||| (((q2 &&& v10).toUInt64 >>> (((64 : Int32) - v27) &&& 0x3f).toInt64.toUInt64).toInt64)); let v46 : Int32 := (if (F1 (p3 &&& (3 : Int32)) v2 v6 (updF g31 (v36).toNatClampNeg v39)) = (q2 &&& v10) then (1 : Int32) else (0 : Int32)); (nar .boolean v46)) else (let v52 : Int32 := (if (F1 (p3 &&& (3 : Int32)) v2 v6 g31) = (q2 &&& v10) then (1 : Int32) else (0 : Int32)); (nar .boolean v52))) else (let v58 : Int32 := (if (F1 (p3 &&& (3 : Int32)) v2 v6 (updF g18 3 (q1 ^^^ (-1 : Int64)))) = (q2 &&& v10) then (1 : Int32) else (0 : Int32)); (nar .boolean v58))
theorem own_max (x : Int32) : (x &&& (2147483647 : Int32)).toInt = x.toInt % 2 ^ 31 := Jvm.Kit.i32_mask x _ (k := 31) (by decide) (by decide)
theorem own_rem (a k : Int32) (ha : 0 ≤ a.toInt) (hk : 0 < k.toInt) : (a - a / k * k).toInt = a.toInt % k.toInt := by
  have b1 := Int32.le_toInt a; have b2 := Int32.toInt_lt a
  have d : (a / k).toInt = a.toInt / k.toInt := by rw [Jvm.Kit.i32_div (by omega), Int.tdiv_eq_ediv_of_nonneg ha]
  have q0 : 0 ≤ a.toInt / k.toInt := Int.ediv_nonneg ha (by omega)
  have q1 : a.toInt / k.toInt * k.toInt ≤ a.toInt := Int.ediv_mul_le _ (by omega)
  have q2 : 0 ≤ a.toInt / k.toInt * k.toInt := Int.mul_nonneg q0 (by omega)
  have m : (a / k * k).toInt = a.toInt / k.toInt * k.toInt := by rw [Jvm.Kit.i32_mul, d] <;> rw [d] <;> omega
  rw [Jvm.Kit.i32_sub (by omega) (by omega), m, Int.emod_def, Int.mul_comm]
theorem own_nar0 : nar .boolean (0 : Int32) = 0 := by decide
theorem own_nar1 : nar .boolean (1 : Int32) = 1 := by decide
theorem own_nat {a : Int32} {k : Nat} (h : a.toInt ≤ k) : a.toNatClampNeg ≤ k := by
  show a.toInt.toNat ≤ k
  omega
theorem own_st (p : Int32) : (p &&& (3 : Int32)).toInt = p.toInt % 4 := Jvm.Kit.i32_mask p _ (k := 2) (by decide) (by decide)
theorem own_nz1 {v : Int32} (h : (0 : Int32) < v) : v ≠ 0 := fun e => by rw [e] at h; exact absurd h (by decide)
theorem own_wd (p : Int32) : 0 ≤ ((p &&& (2147483647 : Int32)) - ((p &&& (2147483647 : Int32)) / (65 : Int32)) * (65 : Int32)).toInt ∧ ((p &&& (2147483647 : Int32)) - ((p &&& (2147483647 : Int32)) / (65 : Int32)) * (65 : Int32)).toInt ≤ 64 := by
  have h := own_max p
  have c : (65 : Int32).toInt = 65 := by decide
  have r := own_rem (p &&& 2147483647) 65 (by omega) (by omega)
  rw [c] at r
  omega
/-- the greatest number of values -/
theorem own_cap (p3 w : Int32) (h0 : (0 : Int32) < w) (h1 : w.toInt ≤ 64) : ((((256 : Int32) - ((64 : Int32) * (p3 &&& (3 : Int32)))) / w)).toInt = (256 - 64 * (p3.toInt % 4)) / w.toInt ∧ 1 ≤ (256 - 64 * (p3.toInt % 4)) / w.toInt ∧ (256 - 64 * (p3.toInt % 4)) / w.toInt * w.toInt ≤ 256 - 64 * (p3.toInt % 4) ∧ (256 - 64 * (p3.toInt % 4)) / w.toInt ≤ 256 := by
  have s := own_st p3
  have c64 : (64 : Int32).toInt = 64 := by decide
  have c256 : (256 : Int32).toInt = 256 := by decide
  rw [Int32.lt_iff_toInt_lt, Int32.toInt_zero] at h0
  have m : ((64 : Int32) * (p3 &&& (3 : Int32))).toInt = 64 * (p3.toInt % 4) := by
    have := Jvm.Kit.i32_mul (p := 64) (q := p3 &&& 3) (by rw [c64]; omega) (by rw [c64]; omega)
    rw [this, c64, s]
  have d : ((256 : Int32) - ((64 : Int32) * (p3 &&& (3 : Int32)))).toInt = 256 - 64 * (p3.toInt % 4) := by
    have := Jvm.Kit.i32_sub (p := 256) (q := (64 : Int32) * (p3 &&& (3 : Int32))) (by omega) (by omega)
    omega
  have q : ((((256 : Int32) - ((64 : Int32) * (p3 &&& (3 : Int32)))) / w)).toInt = (256 - 64 * (p3.toInt % 4)) / w.toInt := by
    rw [Jvm.Kit.i32_div (by omega), d, Int.tdiv_eq_ediv_of_nonneg (by omega)]
  refine ⟨q, ?_, Int.ediv_mul_le _ (by omega), ?_⟩
  · exact (Int.le_ediv_iff_mul_le h0).mpr (by omega)
  · exact Int.le_trans (Int.ediv_le_self _ (by omega)) (by omega)
theorem own_nz2 (p3 p4 : Int32) (h : (0 : Int32) < ((p4 &&& (2147483647 : Int32)) - ((p4 &&& (2147483647 : Int32)) / (65 : Int32)) * (65 : Int32))) : (((256 : Int32) - ((64 : Int32) * (p3 &&& (3 : Int32)))) / ((p4 &&& (2147483647 : Int32)) - ((p4 &&& (2147483647 : Int32)) / (65 : Int32)) * (65 : Int32))) ≠ 0 := fun e => by
  have c := own_cap p3 _ h (own_wd p4).2
  rw [e, Int32.toInt_zero] at c; omega
def own_width (p4 : Int32) : Int32 := ((p4 &&& (2147483647 : Int32)) - ((p4 &&& (2147483647 : Int32)) / (65 : Int32)) * (65 : Int32))
def own_i (p3 p4 p5 : Int32) : Int32 := (if (0 : Int32) < own_width p4 then ((p5 &&& (2147483647 : Int32)) - ((p5 &&& (2147483647 : Int32)) / (((256 : Int32) - ((64 : Int32) * (p3 &&& (3 : Int32)))) / own_width p4)) * (((256 : Int32) - ((64 : Int32) * (p3 &&& (3 : Int32)))) / own_width p4)) else p5)
def own_p (p3 p4 p5 : Int32) : Int64 := ((((p3 &&& (3 : Int32)).toInt64) * (64 : Int64)) + (((own_i p3 p4 p5).toInt64) * ((own_width p4).toInt64)))
theorem own_place (p3 p4 p5 : Int32) (h : (0 : Int32) < own_width p4) : ∃ s i w : Int, (p3 &&& (3 : Int32)).toInt = s ∧ (own_i p3 p4 p5).toInt = i ∧ (own_width p4).toInt = w ∧ 0 ≤ s ∧ s ≤ 3 ∧ 0 ≤ i ∧ i ≤ 255 ∧ 1 ≤ w ∧ w ≤ 64 ∧ 0 ≤ i * w ∧ s * 64 + i * w + w ≤ 256 ∧ (own_p p3 p4 p5).toInt = s * 64 + i * w := by
  have s := own_st p3
  have hw := own_wd p4
  have c := own_cap p3 (own_width p4) h hw.2
  have hw' : 0 ≤ (own_width p4).toInt ∧ (own_width p4).toInt ≤ 64 := hw
  have h0 : 0 < (own_width p4).toInt := by rw [Int32.lt_iff_toInt_lt, Int32.toInt_zero] at h; exact h
  have e : own_i p3 p4 p5 = ((p5 &&& (2147483647 : Int32)) - ((p5 &&& (2147483647 : Int32)) / (((256 : Int32) - ((64 : Int32) * (p3 &&& (3 : Int32)))) / own_width p4)) * (((256 : Int32) - ((64 : Int32) * (p3 &&& (3 : Int32)))) / own_width p4)) := if_pos h
  have m := own_max p5
  have r := own_rem (p5 &&& 2147483647) (((256 : Int32) - ((64 : Int32) * (p3 &&& (3 : Int32)))) / own_width p4) (by omega) (by omega)
  rw [← e, c.1] at r
  have b1 := Int.emod_nonneg (p5 &&& 2147483647).toInt (show (256 - 64 * (p3.toInt % 4)) / (own_width p4).toInt ≠ 0 by omega)
  have b2 := Int.emod_lt_of_pos (p5 &&& 2147483647).toInt (show 0 < (256 - 64 * (p3.toInt % 4)) / (own_width p4).toInt by omega)
  rw [← r] at b1 b2
  obtain ⟨cap, hc⟩ : ∃ z, z = (256 - 64 * (p3.toInt % 4)) / (own_width p4).toInt := ⟨_, rfl⟩
  rw [← hc] at b2 c
  obtain ⟨w, ew⟩ : ∃ z, z = (own_width p4).toInt := ⟨_, rfl⟩
  obtain ⟨i, ei⟩ : ∃ z, z = (own_i p3 p4 p5).toInt := ⟨_, rfl⟩
  rw [← ew] at c hw' h0
  rw [← ei] at b1 b2
  have g1 : 0 ≤ i * w := Int.mul_nonneg b1 (by omega)
  have g2 : (i + 1) * w ≤ cap * w := Int.mul_le_mul_of_nonneg_right (by omega) (by omega)
  have g3 : (i + 1) * w = i * w + w := by rw [Int.add_mul, Int.one_mul]
  refine ⟨_, i, w, s, ei.symm, ew.symm, by omega, by omega, b1, by omega, by omega, by omega, g1, by omega, ?_⟩
  have c64 : (64 : Int64).toInt = 64 := by decide
  have e1 : ((p3 &&& (3 : Int32)).toInt64).toInt = p3.toInt % 4 := by rw [Int32.toInt_toInt64, s]
  have e2 : ((own_i p3 p4 p5).toInt64).toInt = i := by rw [Int32.toInt_toInt64, ← ei]
  have e3 : ((own_width p4).toInt64).toInt = w := by rw [Int32.toInt_toInt64, ← ew]
  have f1 : (((p3 &&& (3 : Int32)).toInt64) * (64 : Int64)).toInt = p3.toInt % 4 * 64 := by
    have := Jvm.Kit.i64_mul (x := (p3 &&& (3 : Int32)).toInt64) (y := 64) (by rw [e1, c64]; omega) (by rw [e1, c64]; omega)
    rw [this, e1, c64]
  have f2 : (((own_i p3 p4 p5).toInt64) * ((own_width p4).toInt64)).toInt = i * w := by
    have := Jvm.Kit.i64_mul (x := (own_i p3 p4 p5).toInt64) (y := (own_width p4).toInt64) (by rw [e2, e3]; omega) (by rw [e2, e3]; omega)
    rw [this, e2, e3]
  unfold own_p
  rw [Jvm.Kit.i64_add (by omega) (by omega), f1, f2]
theorem own_k (p3 p4 p5 : Int32) (h : (0 : Int32) < own_width p4) : (((own_p p3 p4 p5) / (64 : Int64)).toInt32).toInt = (own_p p3 p4 p5).toInt / 64 ∧ (((own_p p3 p4 p5) - (own_p p3 p4 p5) / (64 : Int64) * (64 : Int64)).toInt32).toInt = (own_p p3 p4 p5).toInt % 64 := by
  obtain ⟨s, i, w, -, -, -, h1, h2, h3, h4, h5, h6, h7, h8, h9⟩ := own_place p3 p4 p5 h
  have c64 : (64 : Int64).toInt = 64 := by decide
  have d : ((own_p p3 p4 p5) / (64 : Int64)).toInt = (own_p p3 p4 p5).toInt / 64 := by rw [Jvm.Kit.i64_div (by omega), c64, Int.tdiv_eq_ediv_of_nonneg (by omega)]
  have r : ((own_p p3 p4 p5) - (own_p p3 p4 p5) / (64 : Int64) * (64 : Int64)).toInt = (own_p p3 p4 p5).toInt % 64 := by rw [Jvm.Kit.i64_rem_nonneg (by omega), c64]
  exact ⟨by rw [Jvm.Kit.i32_of_i64 (by omega) (by omega), d], by rw [Jvm.Kit.i32_of_i64 (by omega) (by omega), r]⟩
theorem own_b1 (p3 p4 p5 : Int32) (h : (0 : Int32) < own_width p4) : ¬ ((own_p p3 p4 p5) / (64 : Int64)).toInt32 < 0 ∧ ((own_p p3 p4 p5) / (64 : Int64)).toInt32 < 4 := by
  obtain ⟨s, i, w, -, -, -, h1, h2, h3, h4, h5, h6, h7, h8, h9⟩ := own_place p3 p4 p5 h
  have k := own_k p3 p4 p5 h
  have c4 : (4 : Int32).toInt = 4 := by decide
  rw [Int32.lt_iff_toInt_lt, Int32.lt_iff_toInt_lt, Int32.toInt_zero, c4, k.1]; omega
theorem own_b2 (p3 p4 p5 : Int32) (h : (0 : Int32) < own_width p4) (h2 : (64 : Int32) < ((own_p p3 p4 p5) - (own_p p3 p4 p5) / (64 : Int64) * (64 : Int64)).toInt32 + own_width p4) : ¬ ((own_p p3 p4 p5) / (64 : Int64)).toInt32 + 1 < 0 ∧ ((own_p p3 p4 p5) / (64 : Int64)).toInt32 + 1 < 4 := by
  obtain ⟨s, i, w, -, -, ew, h1, h2', h3, h4, h5, h6, h7, h8, h9⟩ := own_place p3 p4 p5 h
  have k := own_k p3 p4 p5 h
  have c4 : (4 : Int32).toInt = 4 := by decide
  have c1 : (1 : Int32).toInt = 1 := by decide
  have c64 : (64 : Int32).toInt = 64 := by decide
  rw [Int32.lt_iff_toInt_lt, c64, Jvm.Kit.i32_add (by omega) (by omega), k.2, ew] at h2
  have a : (((own_p p3 p4 p5) / (64 : Int64)).toInt32 + 1).toInt = (own_p p3 p4 p5).toInt / 64 + 1 := by
    have := Jvm.Kit.i32_add (p := ((own_p p3 p4 p5) / (64 : Int64)).toInt32) (q := 1) (by omega) (by omega)
    omega
  rw [Int32.lt_iff_toInt_lt, Int32.lt_iff_toInt_lt, Int32.toInt_zero, c4, a]; omega
/-- the reader finds the same place -/
theorem own_at (p3 p4 p5 : Int32) (h : (0 : Int32) < own_width p4) : rdAt (p3 &&& (3 : Int32)) (own_width p4) (own_i p3 p4 p5) = own_p p3 p4 p5 := by
  have s := own_st p3
  have e : ((p3 &&& (3 : Int32)).toInt64 <<< ((6 : Int32) &&& 0x3f).toInt64) = (p3 &&& (3 : Int32)).toInt64 * 64 := by
    have c64 : (64 : Int64).toInt = 64 := by decide
    have e1 : ((p3 &&& (3 : Int32)).toInt64).toInt = p3.toInt % 4 := by rw [Int32.toInt_toInt64, s]
    apply Int64.toInt_inj.mp
    have a := Jvm.Kit.i64_shl ((p3 &&& (3 : Int32)).toInt64) ((6 : Int32) &&& 0x3f).toInt64 (k := 6) (by decide) (by rw [e1]; omega) (by rw [e1]; omega)
    have b := Jvm.Kit.i64_mul (x := (p3 &&& (3 : Int32)).toInt64) (y := 64) (by rw [e1, c64]; omega) (by rw [e1, c64]; omega)
    rw [a, b, c64]; rfl
  unfold rdAt own_p
  rw [e]
theorem own_word (p3 p4 p5 : Int32) (h : (0 : Int32) < own_width p4) : rdWord (p3 &&& (3 : Int32)) (own_width p4) (own_i p3 p4 p5) = ((own_p p3 p4 p5) / (64 : Int64)).toInt32 ∧ rdShift (p3 &&& (3 : Int32)) (own_width p4) (own_i p3 p4 p5) = ((own_p p3 p4 p5) - (own_p p3 p4 p5) / (64 : Int64) * (64 : Int64)).toInt32 := by
  obtain ⟨s, i, w, -, -, ew, h1, h2', h3, h4, h5, h6, h7, h8, h9⟩ := own_place p3 p4 p5 h
  have k := own_k p3 p4 p5 h
  unfold rdWord rdShift
  rw [own_at p3 p4 p5 h]
  have a : (((own_p p3 p4 p5).toUInt64 >>> ((6 : Int32) &&& 0x3f).toInt64.toUInt64).toInt64).toInt = (own_p p3 p4 p5).toInt / 2 ^ 6 := Jvm.Kit.i64_lushr (Jvm.Kit.i64_nonneg.mpr (by omega)) (by decide) (by decide)
  have b : ((own_p p3 p4 p5) &&& (63 : Int64)).toInt = (own_p p3 p4 p5).toInt % 2 ^ 6 := Jvm.Kit.i64_mask _ _ (k := 6) (by decide) (by decide)
  constructor
  · apply Int32.toInt_inj.mp
    rw [k.1, Jvm.Kit.i32_of_i64 (by omega) (by omega), a]; rfl
  · apply Int32.toInt_inj.mp
    rw [k.2, Jvm.Kit.i32_of_i64 (by omega) (by omega), b]; rfl
theorem own_r1 (p3 p4 p5 : Int32) : (0 : Int32) < own_width p4 → ¬ rdWord (p3 &&& (3 : Int32)) (own_width p4) (own_i p3 p4 p5) < 0 ∧ rdWord (p3 &&& (3 : Int32)) (own_width p4) (own_i p3 p4 p5) < 4 := fun h => by
  rw [(own_word p3 p4 p5 h).1]; exact own_b1 p3 p4 p5 h
theorem own_r2 (p3 p4 p5 : Int32) : (0 : Int32) < own_width p4 → (64 : Int32) < rdShift (p3 &&& (3 : Int32)) (own_width p4) (own_i p3 p4 p5) + own_width p4 → ¬ rdWord (p3 &&& (3 : Int32)) (own_width p4) (own_i p3 p4 p5) + 1 < 0 ∧ rdWord (p3 &&& (3 : Int32)) (own_width p4) (own_i p3 p4 p5) + 1 < 4 := fun h => by
  rw [(own_word p3 p4 p5 h).1, (own_word p3 p4 p5 h).2]; exact own_b2 p3 p4 p5 h

theorem own_smod : ∀ k : Fin 64, ((Int32.ofNat k.val &&& 0x3f).toInt64.toBitVec.smod 64) = BitVec.ofNat 64 k.val := by decide +kernel
theorem own_of (k : Int32) (n : Nat) (hn : n < 64) (hk : k.toInt = n) : k = Int32.ofNat n := Int32.toInt_inj.mp (by rw [hk, Int32.toInt_ofNat_small (by omega)])
theorem own_shl (x : Int64) (k : Int32) (n : Nat) (hn : n < 64) (hk : k.toInt = n) : (x <<< (k &&& 0x3f).toInt64).toBitVec = x.toBitVec <<< n := by
  rw [own_of k n hn hk, Int64.toBitVec_shiftLeft, own_smod ⟨n, hn⟩, BitVec.shiftLeft_eq', BitVec.toNat_ofNat, Nat.mod_eq_of_lt (by omega)]
theorem own_u : ∀ k : Fin 64, (Int32.ofNat k.val &&& 0x3f).toInt64.toUInt64.toNat = k.val := by decide +kernel
theorem own_shr (x : Int64) (k : Int32) (n : Nat) (hn : n < 64) (hk : k.toInt = n) : ((x.toUInt64 >>> (k &&& 0x3f).toInt64.toUInt64).toInt64).toBitVec = x.toBitVec >>> n := by
  rw [own_of k n hn hk]
  show (x.toUInt64 >>> (Int32.ofNat n &&& 0x3f).toInt64.toUInt64).toBitVec = _
  rw [UInt64.toBitVec_shiftRight]
  show x.toBitVec >>> ((Int32.ofNat n &&& 0x3f).toInt64.toUInt64.toBitVec % 64) = _
  rw [BitVec.ushiftRight_eq']
  congr 1
  rw [BitVec.toNat_umod]
  show (Int32.ofNat n &&& 0x3f).toInt64.toUInt64.toNat % 64 = n
  rw [own_u ⟨n, hn⟩]; exact Nat.mod_eq_of_lt hn
theorem own_mbit : ∀ n : Fin 64, ∀ i : Fin 64, (((1 : Int64) <<< (Int32.ofNat n.val &&& 0x3f).toInt64) - 1).toBitVec.getLsbD i.val = decide (i.val < n.val) := by decide +kernel
theorem own_m (w : Int32) (n : Nat) (h1 : n ≤ 64) (hw : w.toInt = n) (i : Nat) (hi : i < 64) : (if w = (64 : Int32) then (-1 : Int64) else (((1 : Int64) <<< (w &&& 0x3f).toInt64) - (1 : Int64))).toBitVec.getLsbD i = decide (i < n) := by
  by_cases e : n = 64
  · have : w = 64 := Int32.toInt_inj.mp (by rw [hw, e]; decide)
    rw [if_pos this, e]
    show (BitVec.allOnes 64).getLsbD i = _
    rw [BitVec.getLsbD_allOnes]
  · have : ¬ w = 64 := fun q => e (by rw [q] at hw; have : (64 : Int32).toInt = 64 := by decide
                                      omega)
    rw [if_neg this, own_of w n (by omega) hw]; exact own_mbit ⟨n, by omega⟩ ⟨i, hi⟩
theorem own_not (y : Int64) : (y ^^^ (-1 : Int64)).toBitVec = ~~~ y.toBitVec := by
  rw [Int64.toBitVec_xor]
  show y.toBitVec ^^^ BitVec.allOnes 64 = _
  rw [BitVec.xor_allOnes]
theorem own_one (m x B : BitVec 64) (sh w : Nat) (hw2 : w ≤ 64) (hs : sh + w ≤ 64) (hm : ∀ i, i < 64 → m.getLsbD i = decide (i < w)) :
    ((((B &&& ~~~(m <<< sh)) ||| ((x &&& m) <<< sh)) >>> sh) &&& (BitVec.allOnes 64 >>> (64 - w))) = x &&& m := by
  apply BitVec.eq_of_getLsbD_eq
  intro i hi
  simp only [BitVec.getLsbD_and, BitVec.getLsbD_or, BitVec.getLsbD_not, BitVec.getLsbD_shiftLeft, BitVec.getLsbD_ushiftRight, BitVec.getLsbD_allOnes]
  by_cases a : i < w
  · have e1 : sh + i < 64 := by omega
    have e2 : ¬ sh + i < sh := by omega
    have e3 : sh + i - sh = i := by omega
    have e4 : 64 - w + i < 64 := by omega
    simp [hm i hi, a, e1, e2, e3, e4]
  · have e4 : ¬ 64 - w + i < 64 := by omega
    simp [hm i hi, a, e4]
theorem own_two (m x B B' : BitVec 64) (sh w : Nat) (hw2 : w ≤ 64) (h64 : sh < 64) (hs : 64 < sh + w) (hm : ∀ i, i < 64 → m.getLsbD i = decide (i < w)) :
    (((((B &&& ~~~(m <<< sh)) ||| ((x &&& m) <<< sh)) >>> sh) ||| ((((B' &&& ~~~(m >>> (64 - sh))) ||| ((x &&& m) >>> (64 - sh)))) <<< (64 - sh))) &&& (BitVec.allOnes 64 >>> (64 - w))) = x &&& m := by
  apply BitVec.eq_of_getLsbD_eq
  intro i hi
  simp only [BitVec.getLsbD_and, BitVec.getLsbD_or, BitVec.getLsbD_not, BitVec.getLsbD_shiftLeft, BitVec.getLsbD_ushiftRight, BitVec.getLsbD_allOnes]
  by_cases a : i < w
  · have e4 : 64 - w + i < 64 := by omega
    by_cases b : sh + i < 64
    · have e2 : ¬ sh + i < sh := by omega
      have e3 : sh + i - sh = i := by omega
      have e5 : i < 64 - sh := by omega
      simp [hm i hi, a, b, e2, e3, e4, e5]
    · have e5 : ¬ i < 64 - sh := by omega
      have e6 : 64 - sh + (i - (64 - sh)) = i := by omega
      have e7 : i - (64 - sh) < 64 := by omega
      simp [-BitVec.getLsbD_eq_getElem, hm i hi, a, b, e4, e5, e6, e7, hi]
  · have e4 : ¬ 64 - w + i < 64 := by omega
    simp [hm i hi, a, e4]
theorem own_read (s w i k sh : Int32) (ga : Nat → Int64) (hk : rdWord s w i = k) (hs : rdShift s w i = sh) (h : (0 : Int32) < w) : F1 s w i ga = if (64 : Int32) < sh + w then ((((ga k.toNatClampNeg).toUInt64 >>> (sh &&& 0x3f).toInt64.toUInt64).toInt64) ||| ((ga (k + 1).toNatClampNeg) <<< ((64 - sh) &&& 0x3f).toInt64)) &&& (((-1 : Int64).toUInt64 >>> ((64 - w) &&& 0x3f).toInt64.toUInt64).toInt64) else (((ga k.toNatClampNeg).toUInt64 >>> (sh &&& 0x3f).toInt64.toUInt64).toInt64) &&& (((-1 : Int64).toUInt64 >>> ((64 - w) &&& 0x3f).toInt64.toUInt64).toInt64) := by
  subst hk hs
  unfold F1
  rw [if_pos h]; rfl
theorem own_law (q0 q1 q2 : Int64) (p3 p4 p5 : Int32) : F0 q0 q1 q2 p3 p4 p5 = 1 := by
  have key : ∀ z : Int64, z = (q2 &&& (if own_width p4 = (64 : Int32) then (-1 : Int64) else (((1 : Int64) <<< (own_width p4 &&& 0x3f).toInt64) - (1 : Int64)))) → nar .boolean (if z = (q2 &&& (if own_width p4 = (64 : Int32) then (-1 : Int64) else (((1 : Int64) <<< (own_width p4 &&& 0x3f).toInt64) - (1 : Int64)))) then (1 : Int32) else 0) = 1 := fun z hz => by rw [if_pos hz]; decide
  by_cases h : (0 : Int32) < own_width p4
  · obtain ⟨s, i, w, -, -, ew, h1, h2', h3, h4, h5, h6, h7, h8, h9⟩ := own_place p3 p4 p5 h
    have k := own_k p3 p4 p5 h
    have wd := own_word p3 p4 p5 h
    have hm := own_m (own_width p4) w.toNat (by omega) (by omega)
    have c64 : (64 : Int32).toInt = 64 := by decide
    unfold F0
    refine Eq.trans (if_pos h) ?_
    obtain ⟨m, em⟩ : ∃ m, m = (if own_width p4 = (64 : Int32) then (-1 : Int64) else (((1 : Int64) <<< (own_width p4 &&& 0x3f).toInt64) - (1 : Int64))) := ⟨_, rfl⟩
    rw [← em] at hm key
    obtain ⟨sh, esh⟩ : ∃ z, z = ((own_p p3 p4 p5) - (own_p p3 p4 p5) / (64 : Int64) * (64 : Int64)).toInt32 := ⟨_, rfl⟩
    obtain ⟨kk, ekk⟩ : ∃ z, z = ((own_p p3 p4 p5) / (64 : Int64)).toInt32 := ⟨_, rfl⟩
    rw [← esh, ← ekk] at wd k
    have s64 : ((64 : Int32) - sh).toInt = 64 - sh.toInt := by
      have := Jvm.Kit.i32_sub (p := 64) (q := sh) (by omega) (by omega)
      omega
    have w64 : ((64 : Int32) - own_width p4).toInt = 64 - w := by
      have := Jvm.Kit.i32_sub (p := 64) (q := own_width p4) (by omega) (by omega)
      omega
    have sw : (sh + own_width p4).toInt = sh.toInt + w := by
      have := Jvm.Kit.i32_add (p := sh) (q := own_width p4) (by omega) (by omega)
      omega
    have ones : (((-1 : Int64).toUInt64 >>> (((64 : Int32) - own_width p4) &&& 0x3f).toInt64.toUInt64).toInt64).toBitVec = BitVec.allOnes 64 >>> (64 - w.toNat) := own_shr (-1) _ (64 - w.toNat) (by omega) (by omega)
    obtain ⟨B, eB⟩ : ∃ z : Nat → Int64, z = (updF (updF (updF (updF (fun _ => (0 : Int64)) 0 q0) 1 q1) 2 (q0 ^^^ (-1 : Int64))) 3 (q1 ^^^ (-1 : Int64))) := ⟨_, rfl⟩
    obtain ⟨N, eN⟩ : ∃ z, z = ((B kk.toNatClampNeg) &&& ((m <<< (sh &&& 0x3f).toInt64) ^^^ (-1 : Int64))) ||| ((q2 &&& m) <<< (sh &&& 0x3f).toInt64) := ⟨_, rfl⟩
    have bN : N.toBitVec = (((B kk.toNatClampNeg).toBitVec &&& ~~~(m.toBitVec <<< sh.toInt.toNat)) ||| ((q2.toBitVec &&& m.toBitVec) <<< sh.toInt.toNat)) := by
      rw [eN, Int64.toBitVec_or, Int64.toBitVec_and, own_not, own_shl m sh sh.toInt.toNat (by omega) (by omega), own_shl (q2 &&& m) sh sh.toInt.toNat (by omega) (by omega), Int64.toBitVec_and]
    have hadd : (kk + 1).toNatClampNeg ≠ kk.toNatClampNeg := by
      have c1 : (1 : Int32).toInt = 1 := by decide
      have := Jvm.Kit.i32_add (p := kk) (q := 1) (by omega) (by omega)
      show (kk + 1).toInt.toNat ≠ kk.toInt.toNat
      omega
    by_cases o : (64 : Int32) < sh + own_width p4
    · have o' : 64 < sh.toInt + w := by rw [Int32.lt_iff_toInt_lt, c64, sw] at o; exact o
      have o2 := o
      rw [esh] at o
      refine Eq.trans (if_pos o) ?_
      obtain ⟨N', eN'⟩ : ∃ z, z = (((B (kk + 1).toNatClampNeg) &&& (((m.toUInt64 >>> (((64 : Int32) - sh) &&& 0x3f).toInt64.toUInt64).toInt64) ^^^ (-1 : Int64))) ||| (((q2 &&& m).toUInt64 >>> (((64 : Int32) - sh) &&& 0x3f).toInt64.toUInt64).toInt64)) := ⟨_, rfl⟩
      have bN' : N'.toBitVec = (((B (kk + 1).toNatClampNeg).toBitVec &&& ~~~(m.toBitVec >>> (64 - sh.toInt.toNat))) ||| ((q2.toBitVec &&& m.toBitVec) >>> (64 - sh.toInt.toNat))) := by
        rw [eN', Int64.toBitVec_or, Int64.toBitVec_and, own_not, own_shr m _ (64 - sh.toInt.toNat) (by omega) (by omega), own_shr (q2 &&& m) _ (64 - sh.toInt.toNat) (by omega) (by omega), Int64.toBitVec_and]
      have hB : (updF B kk.toNatClampNeg N) (kk + 1).toNatClampNeg = B (kk + 1).toNatClampNeg := if_neg hadd
      have fin : F1 (p3 &&& (3 : Int32)) (own_width p4) (own_i p3 p4 p5) (updF (updF B kk.toNatClampNeg N) (kk + 1).toNatClampNeg N') = q2 &&& m := by
        rw [own_read _ _ _ kk sh _ wd.1 wd.2 h, if_pos o2]
        have g1 : (updF (updF B kk.toNatClampNeg N) (kk + 1).toNatClampNeg N') kk.toNatClampNeg = N := (if_neg (Ne.symm hadd)).trans (if_pos rfl)
        have g2 : (updF (updF B kk.toNatClampNeg N) (kk + 1).toNatClampNeg N') (kk + 1).toNatClampNeg = N' := if_pos rfl
        rw [g1, g2]
        apply Int64.toBitVec_inj.mp
        rw [Int64.toBitVec_and, Int64.toBitVec_or, ones, own_shr N sh sh.toInt.toNat (by omega) (by omega), own_shl N' _ (64 - sh.toInt.toNat) (by omega) (by omega), bN, bN', Int64.toBitVec_and]
        exact own_two m.toBitVec q2.toBitVec _ _ sh.toInt.toNat w.toNat (by omega) (by omega) (by omega) (fun i hi => hm i hi)
      subst eN' 
      rw [← hB] at fin
      subst eN eB em esh ekk
      exact key _ fin
    · have o' : ¬ 64 < sh.toInt + w := by rw [Int32.lt_iff_toInt_lt, c64, sw] at o; exact o
      have o2 := o
      rw [esh] at o
      refine Eq.trans (if_neg o) ?_
      have fin : F1 (p3 &&& (3 : Int32)) (own_width p4) (own_i p3 p4 p5) (updF B kk.toNatClampNeg N) = q2 &&& m := by
        rw [own_read _ _ _ kk sh _ wd.1 wd.2 h, if_neg o2]
        have g1 : (updF B kk.toNatClampNeg N) kk.toNatClampNeg = N := if_pos rfl
        rw [g1]
        apply Int64.toBitVec_inj.mp
        rw [Int64.toBitVec_and, ones, own_shr N sh sh.toInt.toNat (by omega) (by omega), bN, Int64.toBitVec_and]
        exact own_one m.toBitVec q2.toBitVec _ sh.toInt.toNat w.toNat (by omega) (by omega) (fun i hi => hm i hi)
      subst eN eB em esh ekk
      exact key _ fin
  · have w0 : own_width p4 = 0 := by
      have hw : 0 ≤ (own_width p4).toInt ∧ (own_width p4).toInt ≤ 64 := own_wd p4
      rw [Int32.lt_iff_toInt_lt, Int32.toInt_zero] at h
      exact Int32.toInt_inj.mp (by rw [Int32.toInt_zero]; omega)
    unfold F0
    refine Eq.trans (if_neg h) ?_
    refine key _ ?_
    rw [w0]
    unfold F1
    refine Eq.trans (if_neg (by show ¬ (0 : Int32) < own_width p4; rw [w0]; decide)) ?_
    show (0 : Int64) = q2 &&& 0
    simp

theorem pn_com_example_findwright_findwright_PackedIntsReadPinLaw : plainName "com/example/findwright/findwright/PackedIntsReadPinLaw" = true := by first | (simp [plainName, overriddenIn]; done) | decide +kernel
theorem ef_0 (m : MethodId) (q0 : Int64) (q1 : Int64) (q2 : Int64) (p3 : Int32) (p4 : Int32) (p5 : Int32) : entryFrame m #[(.long q0), (.long q1), (.long q2), (.int p3), (.int p4), (.int p5)] maxLocals = mkF m 0 #[.val (.long q0), .second, .val (.long q1), .second, .val (.long q2), .second, .val (.int p3), .val (.int p4), .val (.int p5), .unset, .unset, .unset, .unset, .unset, .unset, .unset, .unset, .unset, .unset, .unset, .unset, .unset] [] := by first | (simp [entryFrame, mkF, argsToLocals, Value.category, maxLocals]; done) | rfl
def Q0 (Z : State) (q0 : Int64) (q1 : Int64) (q2 : Int64) (p3 : Int32) (p4 : Int32) (p5 : Int32)  (h0 : Heap) (n0 : Nat) (v : Option Value) (h : Heap) (L : List Loc) : Prop := v = some (.int (1 : Int32)) ∧ Fr n0 L
set_option maxRecDepth 65536 in
set_option maxHeartbeats 40000000 in
theorem rm0 (l : Launch) (Z : State) (a0 : Array Value) (hw : ∀ d ∈ tables_1, d.before a0 Z = true) (ws : List Jvm.Cond) (q0 : Int64) (q1 : Int64) (q2 : Int64) (p3 : Int32) (p4 : Int32) (p5 : Int32)  (h0 : Heap) (n0 : Nat) (Z0 : n0 ≤ h0.size)  :
    MetFree l x (head1 (Jvm.Cond.code x code maxLocals ret :: ws) room_1) (fun a U => a = #[(.long q0), (.long q1), (.long q2), (.int p3), (.int p4), (.int p5)] ∧ Z.Warmed39 U.vm ∧ U.heap = h0) (fun _ _ _ _ _ => True) (fun _ U o U' => ∃ v L, o = .returned v ∧ Q0 Z q0 q1 q2 p3 p4 p5 h0 n0 v U'.heap L ∧ FrameEnd U o U' L room_1.cells room_1.slots) := by
  refine MetFree.of_bodySF (plainFor_of_name pn_com_example_findwright_findwright_PackedIntsReadPinLaw) hisR ?_
  intro p e s m args below meth c s₁ Bd hml0 hP hK
  obtain ⟨rfl, hZ, hh⟩ := hP
  have hx := Bd.exec
  have hby := Bd.bytes
  have hml : c.maxLocals = 22 := hml0
  have hown : s.vm.findClass "com/example/findwright/findwright/PackedIntsReadPinLaw" = some m.cls := findClass_of_methodNamed Bd.named
  have hnm := (name_of_methodNamed Bd.named Bd.method).1
  have X0 : Stand p l e room_1 s m #[(.long q0), (.long q1), (.long q2), (.int p3), (.int p4), (.int p5)] below meth c s₁ [] 0 0 := Stand.of_body Bd
  have e0 : s₁.heap = h0 := by rw [← hh, Bd.state]; rfl
  have N0 := Fr.nil n0
  have K0 : Keep h0 h0 [] := Keep.refl _ _
  obtain ⟨G, hG⟩ : ∃ z, z = s₁.setTop (entryFrame m #[(.long q0), (.long q1), (.long q2), (.int p3), (.int p4), (.int p5)] maxLocals) := ⟨_, rfl⟩
  have pre0 : Lead p e below G (s₁.setTop (mkF m 0 #[.val (.long q0), .second, .val (.long q1), .second, .val (.long q2), .second, .val (.int p3), .val (.int p4), .val (.int p5), .unset, .unset, .unset, .unset, .unset, .unset, .unset, .unset, .unset, .unset, .unset, .unset, .unset] [])) := fun t k => by rw [hG]; exact castTop (ef_0 m q0 q1 q2 p3 p4 p5) k
  have pre1 : Lead p e below G (s₁.setTop (mkF m 16 #[.val (.long q0), .second, .val (.long q1), .second, .val (.long q2), .second, .val (.int p3), .val (.int p4), .val (.int p5), .val (.int (p3 &&& (3 : Int32))), .val (.int ((p4 &&& (2147483647 : Int32)) - ((p4 &&& (2147483647 : Int32)) / (65 : Int32)) * (65 : Int32))), .unset, .unset, .unset, .unset, .unset, .unset, .unset, .unset, .unset, .unset, .unset] [])) := fun t k => by
    refine pre0 t ?_
    show Steps p.tables e below (s₁.setTop (mkF m 0 #[.val (.long q0), .second, .val (.long q1), .second, .val (.long q2), .second, .val (.int p3), .val (.int p4), .val (.int p5), .unset, .unset, .unset, .unset, .unset, .unset, .unset, .unset, .unset, .unset, .unset, .unset, .unset] [])) _
    refine XS.iload X0.here hx rfl (hb hby at_0) rfl ?_
    show Steps p.tables e below (s₁.setTop (mkF m 2 #[.val (.long q0), .second, .val (.long q1), .second, .val (.long q2), .second, .val (.int p3), .val (.int p4), .val (.int p5), .unset, .unset, .unset, .unset, .unset, .unset, .unset, .unset, .unset, .unset, .unset, .unset, .unset] [(.int p3)])) _
    refine XS.iconst X0.here hx rfl (hb hby at_2) ?_
    show Steps p.tables e below (s₁.setTop (mkF m 3 #[.val (.long q0), .second, .val (.long q1), .second, .val (.long q2), .second, .val (.int p3), .val (.int p4), .val (.int p5), .unset, .unset, .unset, .unset, .unset, .unset, .unset, .unset, .unset, .unset, .unset, .unset, .unset] [(.int (3 : Int32)), (.int p3)])) _
    refine XS.iand X0.here hx rfl (hb hby at_3) rfl ?_
    show Steps p.tables e below (s₁.setTop (mkF m 4 #[.val (.long q0), .second, .val (.long q1), .second, .val (.long q2), .second, .val (.int p3), .val (.int p4), .val (.int p5), .unset, .unset, .unset, .unset, .unset, .unset, .unset, .unset, .unset, .unset, .unset, .unset, .unset] [(.int (p3 &&& (3 : Int32)))])) _
    refine XS.istore X0.here hx rfl (hb hby at_4) rfl (l' := #[.val (.long q0), .second, .val (.long q1), .second, .val (.long q2), .second, .val (.int p3), .val (.int p4), .val (.int p5), .val (.int (p3 &&& (3 : Int32))), .unset, .unset, .unset, .unset, .unset, .unset, .unset, .unset, .unset, .unset, .unset, .unset]) rfl ?_
    show Steps p.tables e below (s₁.setTop (mkF m 6 #[.val (.long q0), .second, .val (.long q1), .second, .val (.long q2), .second, .val (.int p3), .val (.int p4), .val (.int p5), .val (.int (p3 &&& (3 : Int32))), .unset, .unset, .unset, .unset, .unset, .unset, .unset, .unset, .unset, .unset, .unset, .unset] [])) _
    refine XS.iload X0.here hx rfl (hb hby at_6) rfl ?_
    show Steps p.tables e below (s₁.setTop (mkF m 8 #[.val (.long q0), .second, .val (.long q1), .second, .val (.long q2), .second, .val (.int p3), .val (.int p4), .val (.int p5), .val (.int (p3 &&& (3 : Int32))), .unset, .unset, .unset, .unset, .unset, .unset, .unset, .unset, .unset, .unset, .unset, .unset] [(.int p4)])) _
    refine X0.ldcInt hx hown (mvT hZ (hw _ (List.mem_of_getElem? (i := 0) rfl))) (g := (mkF m 8 #[.val (.long q0), .second, .val (.long q1), .second, .val (.long q2), .second, .val (.int p3), .val (.int p4), .val (.int p5), .val (.int (p3 &&& (3 : Int32))), .unset, .unset, .unset, .unset, .unset, .unset, .unset, .unset, .unset, .unset, .unset, .unset] [(.int p4)])) rfl (hb hby at_8) _ ?_
    show Steps p.tables e below (s₁.setTop (mkF m 10 #[.val (.long q0), .second, .val (.long q1), .second, .val (.long q2), .second, .val (.int p3), .val (.int p4), .val (.int p5), .val (.int (p3 &&& (3 : Int32))), .unset, .unset, .unset, .unset, .unset, .unset, .unset, .unset, .unset, .unset, .unset, .unset] [(.int (2147483647 : Int32)), (.int p4)])) _
    refine XS.iand X0.here hx rfl (hb hby at_10) rfl ?_
    show Steps p.tables e below (s₁.setTop (mkF m 11 #[.val (.long q0), .second, .val (.long q1), .second, .val (.long q2), .second, .val (.int p3), .val (.int p4), .val (.int p5), .val (.int (p3 &&& (3 : Int32))), .unset, .unset, .unset, .unset, .unset, .unset, .unset, .unset, .unset, .unset, .unset, .unset] [(.int (p4 &&& (2147483647 : Int32)))])) _
    refine XS.bipush X0.here hx rfl (hb hby at_11) ?_
    show Steps p.tables e below (s₁.setTop (mkF m 13 #[.val (.long q0), .second, .val (.long q1), .second, .val (.long q2), .second, .val (.int p3), .val (.int p4), .val (.int p5), .val (.int (p3 &&& (3 : Int32))), .unset, .unset, .unset, .unset, .unset, .unset, .unset, .unset, .unset, .unset, .unset, .unset] [(.int (65 : Int32)), (.int (p4 &&& (2147483647 : Int32)))])) _
    refine XS.irem X0.here hx rfl (hb hby at_13) rfl (by decide) ?_
    show Steps p.tables e below (s₁.setTop (mkF m 14 #[.val (.long q0), .second, .val (.long q1), .second, .val (.long q2), .second, .val (.int p3), .val (.int p4), .val (.int p5), .val (.int (p3 &&& (3 : Int32))), .unset, .unset, .unset, .unset, .unset, .unset, .unset, .unset, .unset, .unset, .unset, .unset] [(.int ((p4 &&& (2147483647 : Int32)) - ((p4 &&& (2147483647 : Int32)) / (65 : Int32)) * (65 : Int32)))])) _
    refine XS.istore X0.here hx rfl (hb hby at_14) rfl (l' := #[.val (.long q0), .second, .val (.long q1), .second, .val (.long q2), .second, .val (.int p3), .val (.int p4), .val (.int p5), .val (.int (p3 &&& (3 : Int32))), .val (.int ((p4 &&& (2147483647 : Int32)) - ((p4 &&& (2147483647 : Int32)) / (65 : Int32)) * (65 : Int32))), .unset, .unset, .unset, .unset, .unset, .unset, .unset, .unset, .unset, .unset, .unset]) rfl ?_
    show Steps p.tables e below (s₁.setTop (mkF m 16 #[.val (.long q0), .second, .val (.long q1), .second, .val (.long q2), .second, .val (.int p3), .val (.int p4), .val (.int p5), .val (.int (p3 &&& (3 : Int32))), .val (.int ((p4 &&& (2147483647 : Int32)) - ((p4 &&& (2147483647 : Int32)) / (65 : Int32)) * (65 : Int32))), .unset, .unset, .unset, .unset, .unset, .unset, .unset, .unset, .unset, .unset, .unset] [])) _
    exact k
  obtain ⟨v2, hv2⟩ : ∃ z : Int32, z = ((p4 &&& (2147483647 : Int32)) - ((p4 &&& (2147483647 : Int32)) / (65 : Int32)) * (65 : Int32)) := ⟨_, rfl⟩
  have pre2 : Lead p e below G (s₁.setTop (mkF m 16 #[.val (.long q0), .second, .val (.long q1), .second, .val (.long q2), .second, .val (.int p3), .val (.int p4), .val (.int p5), .val (.int (p3 &&& (3 : Int32))), .val (.int v2), .unset, .unset, .unset, .unset, .unset, .unset, .unset, .unset, .unset, .unset, .unset] [])) := by rw [hv2]; exact pre1
  have pre5 : Lead p e below G (s₁.setTop (mkF m 49 #[.val (.long q0), .second, .val (.long q1), .second, .val (.long q2), .second, .val (.int p3), .val (.int p4), .val (.int p5), .val (.int (p3 &&& (3 : Int32))), .val (.int v2), .val (.int (if (0 : Int32) < v2 then ((p5 &&& (2147483647 : Int32)) - ((p5 &&& (2147483647 : Int32)) / (((256 : Int32) - ((64 : Int32) * (p3 &&& (3 : Int32)))) / v2)) * (((256 : Int32) - ((64 : Int32) * (p3 &&& (3 : Int32)))) / v2)) else p5)), (if (0 : Int32) < v2 then .val (.int (((256 : Int32) - ((64 : Int32) * (p3 &&& (3 : Int32)))) / v2)) else .unset), .unset, .unset, .unset, .unset, .unset, .unset, .unset, .unset, .unset] [])) := fun t k => by
    refine pre2 t ?_
    show Steps p.tables e below (s₁.setTop (mkF m 16 #[.val (.long q0), .second, .val (.long q1), .second, .val (.long q2), .second, .val (.int p3), .val (.int p4), .val (.int p5), .val (.int (p3 &&& (3 : Int32))), .val (.int v2), .unset, .unset, .unset, .unset, .unset, .unset, .unset, .unset, .unset, .unset, .unset] [])) _
    refine XS.iload X0.here hx rfl (hb hby at_16) rfl ?_
    show Steps p.tables e below (s₁.setTop (mkF m 18 #[.val (.long q0), .second, .val (.long q1), .second, .val (.long q2), .second, .val (.int p3), .val (.int p4), .val (.int p5), .val (.int (p3 &&& (3 : Int32))), .val (.int v2), .unset, .unset, .unset, .unset, .unset, .unset, .unset, .unset, .unset, .unset, .unset] [(.int p5)])) _
    refine XS.istore X0.here hx rfl (hb hby at_18) rfl (l' := #[.val (.long q0), .second, .val (.long q1), .second, .val (.long q2), .second, .val (.int p3), .val (.int p4), .val (.int p5), .val (.int (p3 &&& (3 : Int32))), .val (.int v2), .val (.int p5), .unset, .unset, .unset, .unset, .unset, .unset, .unset, .unset, .unset, .unset]) rfl ?_
    show Steps p.tables e below (s₁.setTop (mkF m 20 #[.val (.long q0), .second, .val (.long q1), .second, .val (.long q2), .second, .val (.int p3), .val (.int p4), .val (.int p5), .val (.int (p3 &&& (3 : Int32))), .val (.int v2), .val (.int p5), .unset, .unset, .unset, .unset, .unset, .unset, .unset, .unset, .unset, .unset] [])) _
    refine XS.iload X0.here hx rfl (hb hby at_20) rfl ?_
    show Steps p.tables e below (s₁.setTop (mkF m 22 #[.val (.long q0), .second, .val (.long q1), .second, .val (.long q2), .second, .val (.int p3), .val (.int p4), .val (.int p5), .val (.int (p3 &&& (3 : Int32))), .val (.int v2), .val (.int p5), .unset, .unset, .unset, .unset, .unset, .unset, .unset, .unset, .unset, .unset] [(.int v2)])) _
    have j4 : ∀ t, Steps p.tables e below (s₁.setTop (mkF m 49 #[.val (.long q0), .second, .val (.long q1), .second, .val (.long q2), .second, .val (.int p3), .val (.int p4), .val (.int p5), .val (.int (p3 &&& (3 : Int32))), .val (.int v2), .val (.int (if (0 : Int32) < v2 then ((p5 &&& (2147483647 : Int32)) - ((p5 &&& (2147483647 : Int32)) / (((256 : Int32) - ((64 : Int32) * (p3 &&& (3 : Int32)))) / v2)) * (((256 : Int32) - ((64 : Int32) * (p3 &&& (3 : Int32)))) / v2)) else p5)), (if (0 : Int32) < v2 then .val (.int (((256 : Int32) - ((64 : Int32) * (p3 &&& (3 : Int32)))) / v2)) else .unset), .unset, .unset, .unset, .unset, .unset, .unset, .unset, .unset, .unset] [])) t → Steps p.tables e below (s₁.setTop (mkF m 22 #[.val (.long q0), .second, .val (.long q1), .second, .val (.long q2), .second, .val (.int p3), .val (.int p4), .val (.int p5), .val (.int (p3 &&& (3 : Int32))), .val (.int v2), .val (.int p5), .unset, .unset, .unset, .unset, .unset, .unset, .unset, .unset, .unset, .unset] [(.int v2)])) t := fun t k => by
      by_cases hc22_3 : (0 : Int32) < v2
      · simp only [if_pos hc22_3] at k
        refine XS.ifNo X0.here hx rfl (hb hby at_22) rfl ((if0 _ _).trans (tlt hc22_3).2.2.2) ?_
        show Steps p.tables e below (s₁.setTop (mkF m 25 #[.val (.long q0), .second, .val (.long q1), .second, .val (.long q2), .second, .val (.int p3), .val (.int p4), .val (.int p5), .val (.int (p3 &&& (3 : Int32))), .val (.int v2), .val (.int p5), .unset, .unset, .unset, .unset, .unset, .unset, .unset, .unset, .unset, .unset] [])) _
        refine XS.sipush X0.here hx rfl (hb hby at_25) ?_
        show Steps p.tables e below (s₁.setTop (mkF m 28 #[.val (.long q0), .second, .val (.long q1), .second, .val (.long q2), .second, .val (.int p3), .val (.int p4), .val (.int p5), .val (.int (p3 &&& (3 : Int32))), .val (.int v2), .val (.int p5), .unset, .unset, .unset, .unset, .unset, .unset, .unset, .unset, .unset, .unset] [(.int (256 : Int32))])) _
        refine XS.bipush X0.here hx rfl (hb hby at_28) ?_
        show Steps p.tables e below (s₁.setTop (mkF m 30 #[.val (.long q0), .second, .val (.long q1), .second, .val (.long q2), .second, .val (.int p3), .val (.int p4), .val (.int p5), .val (.int (p3 &&& (3 : Int32))), .val (.int v2), .val (.int p5), .unset, .unset, .unset, .unset, .unset, .unset, .unset, .unset, .unset, .unset] [(.int (64 : Int32)), (.int (256 : Int32))])) _
        refine XS.iload X0.here hx rfl (hb hby at_30) rfl ?_
        show Steps p.tables e below (s₁.setTop (mkF m 32 #[.val (.long q0), .second, .val (.long q1), .second, .val (.long q2), .second, .val (.int p3), .val (.int p4), .val (.int p5), .val (.int (p3 &&& (3 : Int32))), .val (.int v2), .val (.int p5), .unset, .unset, .unset, .unset, .unset, .unset, .unset, .unset, .unset, .unset] [(.int (p3 &&& (3 : Int32))), (.int (64 : Int32)), (.int (256 : Int32))])) _
        refine XS.imul X0.here hx rfl (hb hby at_32) rfl ?_
        show Steps p.tables e below (s₁.setTop (mkF m 33 #[.val (.long q0), .second, .val (.long q1), .second, .val (.long q2), .second, .val (.int p3), .val (.int p4), .val (.int p5), .val (.int (p3 &&& (3 : Int32))), .val (.int v2), .val (.int p5), .unset, .unset, .unset, .unset, .unset, .unset, .unset, .unset, .unset, .unset] [(.int ((64 : Int32) * (p3 &&& (3 : Int32)))), (.int (256 : Int32))])) _
        refine XS.isub X0.here hx rfl (hb hby at_33) rfl ?_
        show Steps p.tables e below (s₁.setTop (mkF m 34 #[.val (.long q0), .second, .val (.long q1), .second, .val (.long q2), .second, .val (.int p3), .val (.int p4), .val (.int p5), .val (.int (p3 &&& (3 : Int32))), .val (.int v2), .val (.int p5), .unset, .unset, .unset, .unset, .unset, .unset, .unset, .unset, .unset, .unset] [(.int ((256 : Int32) - ((64 : Int32) * (p3 &&& (3 : Int32)))))])) _
        refine XS.iload X0.here hx rfl (hb hby at_34) rfl ?_
        show Steps p.tables e below (s₁.setTop (mkF m 36 #[.val (.long q0), .second, .val (.long q1), .second, .val (.long q2), .second, .val (.int p3), .val (.int p4), .val (.int p5), .val (.int (p3 &&& (3 : Int32))), .val (.int v2), .val (.int p5), .unset, .unset, .unset, .unset, .unset, .unset, .unset, .unset, .unset, .unset] [(.int v2), (.int ((256 : Int32) - ((64 : Int32) * (p3 &&& (3 : Int32)))))])) _
        refine XS.idiv X0.here hx rfl (hb hby at_36) rfl (own_nz1 hc22_3) ?_
        show Steps p.tables e below (s₁.setTop (mkF m 37 #[.val (.long q0), .second, .val (.long q1), .second, .val (.long q2), .second, .val (.int p3), .val (.int p4), .val (.int p5), .val (.int (p3 &&& (3 : Int32))), .val (.int v2), .val (.int p5), .unset, .unset, .unset, .unset, .unset, .unset, .unset, .unset, .unset, .unset] [(.int (((256 : Int32) - ((64 : Int32) * (p3 &&& (3 : Int32)))) / v2))])) _
        refine XS.istore X0.here hx rfl (hb hby at_37) rfl (l' := #[.val (.long q0), .second, .val (.long q1), .second, .val (.long q2), .second, .val (.int p3), .val (.int p4), .val (.int p5), .val (.int (p3 &&& (3 : Int32))), .val (.int v2), .val (.int p5), .val (.int (((256 : Int32) - ((64 : Int32) * (p3 &&& (3 : Int32)))) / v2)), .unset, .unset, .unset, .unset, .unset, .unset, .unset, .unset, .unset]) rfl ?_
        show Steps p.tables e below (s₁.setTop (mkF m 39 #[.val (.long q0), .second, .val (.long q1), .second, .val (.long q2), .second, .val (.int p3), .val (.int p4), .val (.int p5), .val (.int (p3 &&& (3 : Int32))), .val (.int v2), .val (.int p5), .val (.int (((256 : Int32) - ((64 : Int32) * (p3 &&& (3 : Int32)))) / v2)), .unset, .unset, .unset, .unset, .unset, .unset, .unset, .unset, .unset] [])) _
        refine XS.iload X0.here hx rfl (hb hby at_39) rfl ?_
        show Steps p.tables e below (s₁.setTop (mkF m 41 #[.val (.long q0), .second, .val (.long q1), .second, .val (.long q2), .second, .val (.int p3), .val (.int p4), .val (.int p5), .val (.int (p3 &&& (3 : Int32))), .val (.int v2), .val (.int p5), .val (.int (((256 : Int32) - ((64 : Int32) * (p3 &&& (3 : Int32)))) / v2)), .unset, .unset, .unset, .unset, .unset, .unset, .unset, .unset, .unset] [(.int p5)])) _
        refine X0.ldcInt hx hown (mvT hZ (hw _ (List.mem_of_getElem? (i := 0) rfl))) (g := (mkF m 41 #[.val (.long q0), .second, .val (.long q1), .second, .val (.long q2), .second, .val (.int p3), .val (.int p4), .val (.int p5), .val (.int (p3 &&& (3 : Int32))), .val (.int v2), .val (.int p5), .val (.int (((256 : Int32) - ((64 : Int32) * (p3 &&& (3 : Int32)))) / v2)), .unset, .unset, .unset, .unset, .unset, .unset, .unset, .unset, .unset] [(.int p5)])) rfl (hb hby at_41) _ ?_
        show Steps p.tables e below (s₁.setTop (mkF m 43 #[.val (.long q0), .second, .val (.long q1), .second, .val (.long q2), .second, .val (.int p3), .val (.int p4), .val (.int p5), .val (.int (p3 &&& (3 : Int32))), .val (.int v2), .val (.int p5), .val (.int (((256 : Int32) - ((64 : Int32) * (p3 &&& (3 : Int32)))) / v2)), .unset, .unset, .unset, .unset, .unset, .unset, .unset, .unset, .unset] [(.int (2147483647 : Int32)), (.int p5)])) _
        refine XS.iand X0.here hx rfl (hb hby at_43) rfl ?_
        show Steps p.tables e below (s₁.setTop (mkF m 44 #[.val (.long q0), .second, .val (.long q1), .second, .val (.long q2), .second, .val (.int p3), .val (.int p4), .val (.int p5), .val (.int (p3 &&& (3 : Int32))), .val (.int v2), .val (.int p5), .val (.int (((256 : Int32) - ((64 : Int32) * (p3 &&& (3 : Int32)))) / v2)), .unset, .unset, .unset, .unset, .unset, .unset, .unset, .unset, .unset] [(.int (p5 &&& (2147483647 : Int32)))])) _
        refine XS.iload X0.here hx rfl (hb hby at_44) rfl ?_
        show Steps p.tables e below (s₁.setTop (mkF m 46 #[.val (.long q0), .second, .val (.long q1), .second, .val (.long q2), .second, .val (.int p3), .val (.int p4), .val (.int p5), .val (.int (p3 &&& (3 : Int32))), .val (.int v2), .val (.int p5), .val (.int (((256 : Int32) - ((64 : Int32) * (p3 &&& (3 : Int32)))) / v2)), .unset, .unset, .unset, .unset, .unset, .unset, .unset, .unset, .unset] [(.int (((256 : Int32) - ((64 : Int32) * (p3 &&& (3 : Int32)))) / v2)), (.int (p5 &&& (2147483647 : Int32)))])) _
        refine XS.irem X0.here hx rfl (hb hby at_46) rfl (by subst hv2; exact own_nz2 p3 p4 hc22_3) ?_
        show Steps p.tables e below (s₁.setTop (mkF m 47 #[.val (.long q0), .second, .val (.long q1), .second, .val (.long q2), .second, .val (.int p3), .val (.int p4), .val (.int p5), .val (.int (p3 &&& (3 : Int32))), .val (.int v2), .val (.int p5), .val (.int (((256 : Int32) - ((64 : Int32) * (p3 &&& (3 : Int32)))) / v2)), .unset, .unset, .unset, .unset, .unset, .unset, .unset, .unset, .unset] [(.int ((p5 &&& (2147483647 : Int32)) - ((p5 &&& (2147483647 : Int32)) / (((256 : Int32) - ((64 : Int32) * (p3 &&& (3 : Int32)))) / v2)) * (((256 : Int32) - ((64 : Int32) * (p3 &&& (3 : Int32)))) / v2)))])) _
        refine XS.istore X0.here hx rfl (hb hby at_47) rfl (l' := #[.val (.long q0), .second, .val (.long q1), .second, .val (.long q2), .second, .val (.int p3), .val (.int p4), .val (.int p5), .val (.int (p3 &&& (3 : Int32))), .val (.int v2), .val (.int ((p5 &&& (2147483647 : Int32)) - ((p5 &&& (2147483647 : Int32)) / (((256 : Int32) - ((64 : Int32) * (p3 &&& (3 : Int32)))) / v2)) * (((256 : Int32) - ((64 : Int32) * (p3 &&& (3 : Int32)))) / v2))), .val (.int (((256 : Int32) - ((64 : Int32) * (p3 &&& (3 : Int32)))) / v2)), .unset, .unset, .unset, .unset, .unset, .unset, .unset, .unset, .unset]) rfl ?_
        show Steps p.tables e below (s₁.setTop (mkF m 49 #[.val (.long q0), .second, .val (.long q1), .second, .val (.long q2), .second, .val (.int p3), .val (.int p4), .val (.int p5), .val (.int (p3 &&& (3 : Int32))), .val (.int v2), .val (.int ((p5 &&& (2147483647 : Int32)) - ((p5 &&& (2147483647 : Int32)) / (((256 : Int32) - ((64 : Int32) * (p3 &&& (3 : Int32)))) / v2)) * (((256 : Int32) - ((64 : Int32) * (p3 &&& (3 : Int32)))) / v2))), .val (.int (((256 : Int32) - ((64 : Int32) * (p3 &&& (3 : Int32)))) / v2)), .unset, .unset, .unset, .unset, .unset, .unset, .unset, .unset, .unset] [])) _
        exact k
      · simp only [if_neg hc22_3] at k
        refine XS.ifYes X0.here hx rfl (pc0 := 22) (pc' := 49) rfl (hb hby at_22) rfl ((if0 _ _).trans (flt hc22_3).2.2.2) (by decide) (by decide) ?_
        show Steps p.tables e below (s₁.setTop (mkF m 49 #[.val (.long q0), .second, .val (.long q1), .second, .val (.long q2), .second, .val (.int p3), .val (.int p4), .val (.int p5), .val (.int (p3 &&& (3 : Int32))), .val (.int v2), .val (.int p5), .unset, .unset, .unset, .unset, .unset, .unset, .unset, .unset, .unset, .unset] [])) _
        exact k
    refine j4 _ ?_
    show Steps p.tables e below (s₁.setTop (mkF m 49 #[.val (.long q0), .second, .val (.long q1), .second, .val (.long q2), .second, .val (.int p3), .val (.int p4), .val (.int p5), .val (.int (p3 &&& (3 : Int32))), .val (.int v2), .val (.int (if (0 : Int32) < v2 then ((p5 &&& (2147483647 : Int32)) - ((p5 &&& (2147483647 : Int32)) / (((256 : Int32) - ((64 : Int32) * (p3 &&& (3 : Int32)))) / v2)) * (((256 : Int32) - ((64 : Int32) * (p3 &&& (3 : Int32)))) / v2)) else p5)), (if (0 : Int32) < v2 then .val (.int (((256 : Int32) - ((64 : Int32) * (p3 &&& (3 : Int32)))) / v2)) else .unset), .unset, .unset, .unset, .unset, .unset, .unset, .unset, .unset, .unset] [])) _
    exact k
  obtain ⟨v6, hv6⟩ : ∃ z : Int32, z = (if (0 : Int32) < v2 then ((p5 &&& (2147483647 : Int32)) - ((p5 &&& (2147483647 : Int32)) / (((256 : Int32) - ((64 : Int32) * (p3 &&& (3 : Int32)))) / v2)) * (((256 : Int32) - ((64 : Int32) * (p3 &&& (3 : Int32)))) / v2)) else p5) := ⟨_, rfl⟩
  have pre6 : Lead p e below G (s₁.setTop (mkF m 49 #[.val (.long q0), .second, .val (.long q1), .second, .val (.long q2), .second, .val (.int p3), .val (.int p4), .val (.int p5), .val (.int (p3 &&& (3 : Int32))), .val (.int v2), .val (.int v6), (if (0 : Int32) < v2 then .val (.int (((256 : Int32) - ((64 : Int32) * (p3 &&& (3 : Int32)))) / v2)) else .unset), .unset, .unset, .unset, .unset, .unset, .unset, .unset, .unset, .unset] [])) := by rw [hv6]; exact pre5
  have pre9 : Lead p e below G (s₁.setTop (mkF m 68 #[.val (.long q0), .second, .val (.long q1), .second, .val (.long q2), .second, .val (.int p3), .val (.int p4), .val (.int p5), .val (.int (p3 &&& (3 : Int32))), .val (.int v2), .val (.int v6), (if (0 : Int32) < v2 then .val (.int (((256 : Int32) - ((64 : Int32) * (p3 &&& (3 : Int32)))) / v2)) else .unset), .unset, .unset, .unset, .unset, .unset, .unset, .unset, .unset, .unset] [(.long (if v2 = (64 : Int32) then (-1 : Int64) else (((1 : Int64) <<< (v2 &&& 0x3f).toInt64) - (1 : Int64))))])) := fun t k => by
    refine pre6 t ?_
    show Steps p.tables e below (s₁.setTop (mkF m 49 #[.val (.long q0), .second, .val (.long q1), .second, .val (.long q2), .second, .val (.int p3), .val (.int p4), .val (.int p5), .val (.int (p3 &&& (3 : Int32))), .val (.int v2), .val (.int v6), (if (0 : Int32) < v2 then .val (.int (((256 : Int32) - ((64 : Int32) * (p3 &&& (3 : Int32)))) / v2)) else .unset), .unset, .unset, .unset, .unset, .unset, .unset, .unset, .unset, .unset] [])) _
    refine XS.iload X0.here hx rfl (hb hby at_49) rfl ?_
    show Steps p.tables e below (s₁.setTop (mkF m 51 #[.val (.long q0), .second, .val (.long q1), .second, .val (.long q2), .second, .val (.int p3), .val (.int p4), .val (.int p5), .val (.int (p3 &&& (3 : Int32))), .val (.int v2), .val (.int v6), (if (0 : Int32) < v2 then .val (.int (((256 : Int32) - ((64 : Int32) * (p3 &&& (3 : Int32)))) / v2)) else .unset), .unset, .unset, .unset, .unset, .unset, .unset, .unset, .unset, .unset] [(.int v2)])) _
    refine XS.bipush X0.here hx rfl (hb hby at_51) ?_
    show Steps p.tables e below (s₁.setTop (mkF m 53 #[.val (.long q0), .second, .val (.long q1), .second, .val (.long q2), .second, .val (.int p3), .val (.int p4), .val (.int p5), .val (.int (p3 &&& (3 : Int32))), .val (.int v2), .val (.int v6), (if (0 : Int32) < v2 then .val (.int (((256 : Int32) - ((64 : Int32) * (p3 &&& (3 : Int32)))) / v2)) else .unset), .unset, .unset, .unset, .unset, .unset, .unset, .unset, .unset, .unset] [(.int (64 : Int32)), (.int v2)])) _
    have j8 : ∀ t, Steps p.tables e below (s₁.setTop (mkF m 68 #[.val (.long q0), .second, .val (.long q1), .second, .val (.long q2), .second, .val (.int p3), .val (.int p4), .val (.int p5), .val (.int (p3 &&& (3 : Int32))), .val (.int v2), .val (.int v6), (if (0 : Int32) < v2 then .val (.int (((256 : Int32) - ((64 : Int32) * (p3 &&& (3 : Int32)))) / v2)) else .unset), .unset, .unset, .unset, .unset, .unset, .unset, .unset, .unset, .unset] [(.long (if v2 = (64 : Int32) then (-1 : Int64) else (((1 : Int64) <<< (v2 &&& 0x3f).toInt64) - (1 : Int64))))])) t → Steps p.tables e below (s₁.setTop (mkF m 53 #[.val (.long q0), .second, .val (.long q1), .second, .val (.long q2), .second, .val (.int p3), .val (.int p4), .val (.int p5), .val (.int (p3 &&& (3 : Int32))), .val (.int v2), .val (.int v6), (if (0 : Int32) < v2 then .val (.int (((256 : Int32) - ((64 : Int32) * (p3 &&& (3 : Int32)))) / v2)) else .unset), .unset, .unset, .unset, .unset, .unset, .unset, .unset, .unset, .unset] [(.int (64 : Int32)), (.int v2)])) t := fun t k => by
      by_cases hc53_7 : v2 = (64 : Int32)
      · simp only [if_pos hc53_7] at k
        refine XS.icmpNo X0.here hx rfl (hb hby at_53) rfl (teq hc53_7).2 ?_
        show Steps p.tables e below (s₁.setTop (mkF m 56 #[.val (.long q0), .second, .val (.long q1), .second, .val (.long q2), .second, .val (.int p3), .val (.int p4), .val (.int p5), .val (.int (p3 &&& (3 : Int32))), .val (.int v2), .val (.int v6), (if (0 : Int32) < v2 then .val (.int (((256 : Int32) - ((64 : Int32) * (p3 &&& (3 : Int32)))) / v2)) else .unset), .unset, .unset, .unset, .unset, .unset, .unset, .unset, .unset, .unset] [])) _
        refine X0.ldc2Long hx hown (mvT hZ (hw _ (List.mem_of_getElem? (i := 2) rfl))) (g := (mkF m 56 #[.val (.long q0), .second, .val (.long q1), .second, .val (.long q2), .second, .val (.int p3), .val (.int p4), .val (.int p5), .val (.int (p3 &&& (3 : Int32))), .val (.int v2), .val (.int v6), (if (0 : Int32) < v2 then .val (.int (((256 : Int32) - ((64 : Int32) * (p3 &&& (3 : Int32)))) / v2)) else .unset), .unset, .unset, .unset, .unset, .unset, .unset, .unset, .unset, .unset] [])) rfl (hb hby at_56) _ ?_
        show Steps p.tables e below (s₁.setTop (mkF m 59 #[.val (.long q0), .second, .val (.long q1), .second, .val (.long q2), .second, .val (.int p3), .val (.int p4), .val (.int p5), .val (.int (p3 &&& (3 : Int32))), .val (.int v2), .val (.int v6), (if (0 : Int32) < v2 then .val (.int (((256 : Int32) - ((64 : Int32) * (p3 &&& (3 : Int32)))) / v2)) else .unset), .unset, .unset, .unset, .unset, .unset, .unset, .unset, .unset, .unset] [(.long (-1 : Int64))])) _
        refine XS.goto X0.here hx rfl (pc0 := 59) (pc' := 68) rfl (hb hby at_59) (by decide) (by decide) ?_
        show Steps p.tables e below (s₁.setTop (mkF m 68 #[.val (.long q0), .second, .val (.long q1), .second, .val (.long q2), .second, .val (.int p3), .val (.int p4), .val (.int p5), .val (.int (p3 &&& (3 : Int32))), .val (.int v2), .val (.int v6), (if (0 : Int32) < v2 then .val (.int (((256 : Int32) - ((64 : Int32) * (p3 &&& (3 : Int32)))) / v2)) else .unset), .unset, .unset, .unset, .unset, .unset, .unset, .unset, .unset, .unset] [(.long (-1 : Int64))])) _
        exact k
      · simp only [if_neg hc53_7] at k
        refine XS.icmpYes X0.here hx rfl (pc0 := 53) (pc' := 62) rfl (hb hby at_53) rfl (feq hc53_7).2 (by decide) (by decide) ?_
        show Steps p.tables e below (s₁.setTop (mkF m 62 #[.val (.long q0), .second, .val (.long q1), .second, .val (.long q2), .second, .val (.int p3), .val (.int p4), .val (.int p5), .val (.int (p3 &&& (3 : Int32))), .val (.int v2), .val (.int v6), (if (0 : Int32) < v2 then .val (.int (((256 : Int32) - ((64 : Int32) * (p3 &&& (3 : Int32)))) / v2)) else .unset), .unset, .unset, .unset, .unset, .unset, .unset, .unset, .unset, .unset] [])) _
        refine XS.lconst X0.here hx rfl (hb hby at_62) ?_
        show Steps p.tables e below (s₁.setTop (mkF m 63 #[.val (.long q0), .second, .val (.long q1), .second, .val (.long q2), .second, .val (.int p3), .val (.int p4), .val (.int p5), .val (.int (p3 &&& (3 : Int32))), .val (.int v2), .val (.int v6), (if (0 : Int32) < v2 then .val (.int (((256 : Int32) - ((64 : Int32) * (p3 &&& (3 : Int32)))) / v2)) else .unset), .unset, .unset, .unset, .unset, .unset, .unset, .unset, .unset, .unset] [(.long (1 : Int64))])) _
        refine XS.iload X0.here hx rfl (hb hby at_63) rfl ?_
        show Steps p.tables e below (s₁.setTop (mkF m 65 #[.val (.long q0), .second, .val (.long q1), .second, .val (.long q2), .second, .val (.int p3), .val (.int p4), .val (.int p5), .val (.int (p3 &&& (3 : Int32))), .val (.int v2), .val (.int v6), (if (0 : Int32) < v2 then .val (.int (((256 : Int32) - ((64 : Int32) * (p3 &&& (3 : Int32)))) / v2)) else .unset), .unset, .unset, .unset, .unset, .unset, .unset, .unset, .unset, .unset] [(.int v2), (.long (1 : Int64))])) _
        refine XS.lshl X0.here hx rfl (hb hby at_65) rfl ?_
        show Steps p.tables e below (s₁.setTop (mkF m 66 #[.val (.long q0), .second, .val (.long q1), .second, .val (.long q2), .second, .val (.int p3), .val (.int p4), .val (.int p5), .val (.int (p3 &&& (3 : Int32))), .val (.int v2), .val (.int v6), (if (0 : Int32) < v2 then .val (.int (((256 : Int32) - ((64 : Int32) * (p3 &&& (3 : Int32)))) / v2)) else .unset), .unset, .unset, .unset, .unset, .unset, .unset, .unset, .unset, .unset] [(.long ((1 : Int64) <<< (v2 &&& 0x3f).toInt64))])) _
        refine XS.lconst X0.here hx rfl (hb hby at_66) ?_
        show Steps p.tables e below (s₁.setTop (mkF m 67 #[.val (.long q0), .second, .val (.long q1), .second, .val (.long q2), .second, .val (.int p3), .val (.int p4), .val (.int p5), .val (.int (p3 &&& (3 : Int32))), .val (.int v2), .val (.int v6), (if (0 : Int32) < v2 then .val (.int (((256 : Int32) - ((64 : Int32) * (p3 &&& (3 : Int32)))) / v2)) else .unset), .unset, .unset, .unset, .unset, .unset, .unset, .unset, .unset, .unset] [(.long (1 : Int64)), (.long ((1 : Int64) <<< (v2 &&& 0x3f).toInt64))])) _
        refine XS.lsub X0.here hx rfl (hb hby at_67) rfl ?_
        show Steps p.tables e below (s₁.setTop (mkF m 68 #[.val (.long q0), .second, .val (.long q1), .second, .val (.long q2), .second, .val (.int p3), .val (.int p4), .val (.int p5), .val (.int (p3 &&& (3 : Int32))), .val (.int v2), .val (.int v6), (if (0 : Int32) < v2 then .val (.int (((256 : Int32) - ((64 : Int32) * (p3 &&& (3 : Int32)))) / v2)) else .unset), .unset, .unset, .unset, .unset, .unset, .unset, .unset, .unset, .unset] [(.long (((1 : Int64) <<< (v2 &&& 0x3f).toInt64) - (1 : Int64)))])) _
        exact k
    refine j8 _ ?_
    show Steps p.tables e below (s₁.setTop (mkF m 68 #[.val (.long q0), .second, .val (.long q1), .second, .val (.long q2), .second, .val (.int p3), .val (.int p4), .val (.int p5), .val (.int (p3 &&& (3 : Int32))), .val (.int v2), .val (.int v6), (if (0 : Int32) < v2 then .val (.int (((256 : Int32) - ((64 : Int32) * (p3 &&& (3 : Int32)))) / v2)) else .unset), .unset, .unset, .unset, .unset, .unset, .unset, .unset, .unset, .unset] [(.long (if v2 = (64 : Int32) then (-1 : Int64) else (((1 : Int64) <<< (v2 &&& 0x3f).toInt64) - (1 : Int64))))])) _
    exact k
  obtain ⟨v10, hv10⟩ : ∃ z : Int64, z = (if v2 = (64 : Int32) then (-1 : Int64) else (((1 : Int64) <<< (v2 &&& 0x3f).toInt64) - (1 : Int64))) := ⟨_, rfl⟩
  have pre10 : Lead p e below G (s₁.setTop (mkF m 68 #[.val (.long q0), .second, .val (.long q1), .second, .val (.long q2), .second, .val (.int p3), .val (.int p4), .val (.int p5), .val (.int (p3 &&& (3 : Int32))), .val (.int v2), .val (.int v6), (if (0 : Int32) < v2 then .val (.int (((256 : Int32) - ((64 : Int32) * (p3 &&& (3 : Int32)))) / v2)) else .unset), .unset, .unset, .unset, .unset, .unset, .unset, .unset, .unset, .unset] [(.long v10)])) := by rw [hv10]; exact pre9
  have pre11 : Lead p e below G (s₁.setTop (mkF m 78 #[.val (.long q0), .second, .val (.long q1), .second, .val (.long q2), .second, .val (.int p3), .val (.int p4), .val (.int p5), .val (.int (p3 &&& (3 : Int32))), .val (.int v2), .val (.int v6), .val (.long v10), .second, .val (.long (q2 &&& v10)), .second, .unset, .unset, .unset, .unset, .unset, .unset] [(.int (4 : Int32))])) := fun t k => by
    refine pre10 t ?_
    show Steps p.tables e below (s₁.setTop (mkF m 68 #[.val (.long q0), .second, .val (.long q1), .second, .val (.long q2), .second, .val (.int p3), .val (.int p4), .val (.int p5), .val (.int (p3 &&& (3 : Int32))), .val (.int v2), .val (.int v6), (if (0 : Int32) < v2 then .val (.int (((256 : Int32) - ((64 : Int32) * (p3 &&& (3 : Int32)))) / v2)) else .unset), .unset, .unset, .unset, .unset, .unset, .unset, .unset, .unset, .unset] [(.long v10)])) _
    refine XS.lstore X0.here hx rfl (hb hby at_68) rfl (l' := #[.val (.long q0), .second, .val (.long q1), .second, .val (.long q2), .second, .val (.int p3), .val (.int p4), .val (.int p5), .val (.int (p3 &&& (3 : Int32))), .val (.int v2), .val (.int v6), .val (.long v10), .second, .unset, .unset, .unset, .unset, .unset, .unset, .unset, .unset]) (own_ite (f := fun z => storeLocals #[.val (.long q0), .second, .val (.long q1), .second, .val (.long q2), .second, .val (.int p3), .val (.int p4), .val (.int p5), .val (.int (p3 &&& (3 : Int32))), .val (.int v2), .val (.int v6), z, .unset, .unset, .unset, .unset, .unset, .unset, .unset, .unset, .unset] 12 (.long v10) = some #[.val (.long q0), .second, .val (.long q1), .second, .val (.long q2), .second, .val (.int p3), .val (.int p4), .val (.int p5), .val (.int (p3 &&& (3 : Int32))), .val (.int v2), .val (.int v6), .val (.long v10), .second, .unset, .unset, .unset, .unset, .unset, .unset, .unset, .unset]) rfl rfl) ?_
    show Steps p.tables e below (s₁.setTop (mkF m 70 #[.val (.long q0), .second, .val (.long q1), .second, .val (.long q2), .second, .val (.int p3), .val (.int p4), .val (.int p5), .val (.int (p3 &&& (3 : Int32))), .val (.int v2), .val (.int v6), .val (.long v10), .second, .unset, .unset, .unset, .unset, .unset, .unset, .unset, .unset] [])) _
    refine XS.lload X0.here hx rfl (hb hby at_70) rfl ?_
    show Steps p.tables e below (s₁.setTop (mkF m 72 #[.val (.long q0), .second, .val (.long q1), .second, .val (.long q2), .second, .val (.int p3), .val (.int p4), .val (.int p5), .val (.int (p3 &&& (3 : Int32))), .val (.int v2), .val (.int v6), .val (.long v10), .second, .unset, .unset, .unset, .unset, .unset, .unset, .unset, .unset] [(.long q2)])) _
    refine XS.lload X0.here hx rfl (hb hby at_72) rfl ?_
    show Steps p.tables e below (s₁.setTop (mkF m 74 #[.val (.long q0), .second, .val (.long q1), .second, .val (.long q2), .second, .val (.int p3), .val (.int p4), .val (.int p5), .val (.int (p3 &&& (3 : Int32))), .val (.int v2), .val (.int v6), .val (.long v10), .second, .unset, .unset, .unset, .unset, .unset, .unset, .unset, .unset] [(.long v10), (.long q2)])) _
    refine XS.land X0.here hx rfl (hb hby at_74) rfl ?_
    show Steps p.tables e below (s₁.setTop (mkF m 75 #[.val (.long q0), .second, .val (.long q1), .second, .val (.long q2), .second, .val (.int p3), .val (.int p4), .val (.int p5), .val (.int (p3 &&& (3 : Int32))), .val (.int v2), .val (.int v6), .val (.long v10), .second, .unset, .unset, .unset, .unset, .unset, .unset, .unset, .unset] [(.long (q2 &&& v10))])) _
    refine XS.lstore X0.here hx rfl (hb hby at_75) rfl (l' := #[.val (.long q0), .second, .val (.long q1), .second, .val (.long q2), .second, .val (.int p3), .val (.int p4), .val (.int p5), .val (.int (p3 &&& (3 : Int32))), .val (.int v2), .val (.int v6), .val (.long v10), .second, .val (.long (q2 &&& v10)), .second, .unset, .unset, .unset, .unset, .unset, .unset]) rfl ?_
    show Steps p.tables e below (s₁.setTop (mkF m 77 #[.val (.long q0), .second, .val (.long q1), .second, .val (.long q2), .second, .val (.int p3), .val (.int p4), .val (.int p5), .val (.int (p3 &&& (3 : Int32))), .val (.int v2), .val (.int v6), .val (.long v10), .second, .val (.long (q2 &&& v10)), .second, .unset, .unset, .unset, .unset, .unset, .unset] [])) _
    refine XS.iconst X0.here hx rfl (hb hby at_77) ?_
    show Steps p.tables e below (s₁.setTop (mkF m 78 #[.val (.long q0), .second, .val (.long q1), .second, .val (.long q2), .second, .val (.int p3), .val (.int p4), .val (.int p5), .val (.int (p3 &&& (3 : Int32))), .val (.int v2), .val (.int v6), .val (.long v10), .second, .val (.long (q2 &&& v10)), .second, .unset, .unset, .unset, .unset, .unset, .unset] [(.int (4 : Int32))])) _
    exact k
  obtain ⟨T12, h12, k12, X12, e12, E12, A12, st12⟩ := newP X0 hx hZ (hw _ (List.mem_of_getElem? (i := 1) rfl)) e0 (g := (mkF m 78 #[.val (.long q0), .second, .val (.long q1), .second, .val (.long q2), .second, .val (.int p3), .val (.int p4), .val (.int p5), .val (.int (p3 &&& (3 : Int32))), .val (.int v2), .val (.int v6), .val (.long v10), .second, .val (.long (q2 &&& v10)), .second, .unset, .unset, .unset, .unset, .unset, .unset] [(.int (4 : Int32))])) rfl (hb hby at_78) rfl (by decide) (cap := 4) (by decide) (by decide) (by decide) (by decide)
  obtain ⟨b12, g12⟩ : ∃ z, z = h0.size := ⟨_, rfl⟩
  rw [← g12] at A12 st12
  have sz12 : h0.size ≤ b12 := Nat.le_trans K0.1 (Nat.le_of_eq g12.symm)
  have ge12 : n0 ≤ b12 := Nat.le_trans Z0 sz12
  have K12 : Keep h0 h12 [] := K0.ext E12
  have V12 : JV Value.long Z h12 b12 .long (4 : Int32) (fun _ => (0 : Int64)) := JV.new A12 (by decide) _ rfl
  have pre12 : Lead p e below G (T12.setTop (mkF m 80 #[.val (.long q0), .second, .val (.long q1), .second, .val (.long q2), .second, .val (.int p3), .val (.int p4), .val (.int p5), .val (.int (p3 &&& (3 : Int32))), .val (.int v2), .val (.int v6), .val (.long v10), .second, .val (.long (q2 &&& v10)), .second, .unset, .unset, .unset, .unset, .unset, .unset] [(.ref b12)])) := fun t k => pre11 t (st12 _ k)
  have pre13 : Lead p e below G (T12.setTop (mkF m 86 #[.val (.long q0), .second, .val (.long q1), .second, .val (.long q2), .second, .val (.int p3), .val (.int p4), .val (.int p5), .val (.int (p3 &&& (3 : Int32))), .val (.int v2), .val (.int v6), .val (.long v10), .second, .val (.long (q2 &&& v10)), .second, .val (.ref b12), .unset, .unset, .unset, .unset, .unset] [(.long q0), (.int (0 : Int32)), (.ref b12)])) := fun t k => by
    refine pre12 t ?_
    show Steps p.tables e below (T12.setTop (mkF m 80 #[.val (.long q0), .second, .val (.long q1), .second, .val (.long q2), .second, .val (.int p3), .val (.int p4), .val (.int p5), .val (.int (p3 &&& (3 : Int32))), .val (.int v2), .val (.int v6), .val (.long v10), .second, .val (.long (q2 &&& v10)), .second, .unset, .unset, .unset, .unset, .unset, .unset] [(.ref b12)])) _
    refine XS.astore X12.here hx rfl (hb hby at_80) rfl rfl (l' := #[.val (.long q0), .second, .val (.long q1), .second, .val (.long q2), .second, .val (.int p3), .val (.int p4), .val (.int p5), .val (.int (p3 &&& (3 : Int32))), .val (.int v2), .val (.int v6), .val (.long v10), .second, .val (.long (q2 &&& v10)), .second, .val (.ref b12), .unset, .unset, .unset, .unset, .unset]) rfl ?_
    show Steps p.tables e below (T12.setTop (mkF m 82 #[.val (.long q0), .second, .val (.long q1), .second, .val (.long q2), .second, .val (.int p3), .val (.int p4), .val (.int p5), .val (.int (p3 &&& (3 : Int32))), .val (.int v2), .val (.int v6), .val (.long v10), .second, .val (.long (q2 &&& v10)), .second, .val (.ref b12), .unset, .unset, .unset, .unset, .unset] [])) _
    refine XS.aload X12.here hx rfl (hb hby at_82) rfl rfl ?_
    show Steps p.tables e below (T12.setTop (mkF m 84 #[.val (.long q0), .second, .val (.long q1), .second, .val (.long q2), .second, .val (.int p3), .val (.int p4), .val (.int p5), .val (.int (p3 &&& (3 : Int32))), .val (.int v2), .val (.int v6), .val (.long v10), .second, .val (.long (q2 &&& v10)), .second, .val (.ref b12), .unset, .unset, .unset, .unset, .unset] [(.ref b12)])) _
    refine XS.iconst X12.here hx rfl (hb hby at_84) ?_
    show Steps p.tables e below (T12.setTop (mkF m 85 #[.val (.long q0), .second, .val (.long q1), .second, .val (.long q2), .second, .val (.int p3), .val (.int p4), .val (.int p5), .val (.int (p3 &&& (3 : Int32))), .val (.int v2), .val (.int v6), .val (.long v10), .second, .val (.long (q2 &&& v10)), .second, .val (.ref b12), .unset, .unset, .unset, .unset, .unset] [(.int (0 : Int32)), (.ref b12)])) _
    refine XS.lloadN X12.here hx rfl (hb hby at_85) rfl ?_
    show Steps p.tables e below (T12.setTop (mkF m 86 #[.val (.long q0), .second, .val (.long q1), .second, .val (.long q2), .second, .val (.int p3), .val (.int p4), .val (.int p5), .val (.int (p3 &&& (3 : Int32))), .val (.int v2), .val (.int v6), .val (.long v10), .second, .val (.long (q2 &&& v10)), .second, .val (.ref b12), .unset, .unset, .unset, .unset, .unset] [(.long q0), (.int (0 : Int32)), (.ref b12)])) _
    exact k
  obtain ⟨cl14, Ar14, hin14, -⟩ := V12.in (j := (0 : Int32)) ⟨by decide, by decide⟩
  obtain ⟨T14, h14, X14, e14, W14, st14⟩ := stJ X12 hx hZ e12 Ar14 (j := (0 : Int32)) hin14 (g := (mkF m 86 #[.val (.long q0), .second, .val (.long q1), .second, .val (.long q2), .second, .val (.int p3), .val (.int p4), .val (.int p5), .val (.int (p3 &&& (3 : Int32))), .val (.int v2), .val (.int v6), .val (.long v10), .second, .val (.long (q2 &&& v10)), .second, .val (.ref b12), .unset, .unset, .unset, .unset, .unset] [(.long q0), (.int (0 : Int32)), (.ref b12)])) rfl rfl (hb hby at_86)
  have N14 := Fr.snoc X14 N0 ge12
  have K14 : Keep h0 h14 [] := K12.wr W14 (Or.inr sz12)
  obtain ⟨M14, Y14, N14⟩ : ∃ M, Stand p l e room_1 s m #[(.long q0), (.long q1), (.long q2), (.int p3), (.int p4), (.int p5)] below meth c T14 M 1 4 ∧ Fr n0 M := ⟨_, X14, N14⟩
  have V14 : JV Value.long Z h14 b12 .long (4 : Int32) (updF (fun _ => (0 : Int64)) 0 q0) := V12.set W14
  have pre14 : Lead p e below G (T14.setTop (mkF m 87 #[.val (.long q0), .second, .val (.long q1), .second, .val (.long q2), .second, .val (.int p3), .val (.int p4), .val (.int p5), .val (.int (p3 &&& (3 : Int32))), .val (.int v2), .val (.int v6), .val (.long v10), .second, .val (.long (q2 &&& v10)), .second, .val (.ref b12), .unset, .unset, .unset, .unset, .unset] [])) := fun t k => pre13 t (st14 _ k)
  have pre15 : Lead p e below G (T14.setTop (mkF m 91 #[.val (.long q0), .second, .val (.long q1), .second, .val (.long q2), .second, .val (.int p3), .val (.int p4), .val (.int p5), .val (.int (p3 &&& (3 : Int32))), .val (.int v2), .val (.int v6), .val (.long v10), .second, .val (.long (q2 &&& v10)), .second, .val (.ref b12), .unset, .unset, .unset, .unset, .unset] [(.long q1), (.int (1 : Int32)), (.ref b12)])) := fun t k => by
    refine pre14 t ?_
    show Steps p.tables e below (T14.setTop (mkF m 87 #[.val (.long q0), .second, .val (.long q1), .second, .val (.long q2), .second, .val (.int p3), .val (.int p4), .val (.int p5), .val (.int (p3 &&& (3 : Int32))), .val (.int v2), .val (.int v6), .val (.long v10), .second, .val (.long (q2 &&& v10)), .second, .val (.ref b12), .unset, .unset, .unset, .unset, .unset] [])) _
    refine XS.aload Y14.here hx rfl (hb hby at_87) rfl rfl ?_
    show Steps p.tables e below (T14.setTop (mkF m 89 #[.val (.long q0), .second, .val (.long q1), .second, .val (.long q2), .second, .val (.int p3), .val (.int p4), .val (.int p5), .val (.int (p3 &&& (3 : Int32))), .val (.int v2), .val (.int v6), .val (.long v10), .second, .val (.long (q2 &&& v10)), .second, .val (.ref b12), .unset, .unset, .unset, .unset, .unset] [(.ref b12)])) _
    refine XS.iconst Y14.here hx rfl (hb hby at_89) ?_
    show Steps p.tables e below (T14.setTop (mkF m 90 #[.val (.long q0), .second, .val (.long q1), .second, .val (.long q2), .second, .val (.int p3), .val (.int p4), .val (.int p5), .val (.int (p3 &&& (3 : Int32))), .val (.int v2), .val (.int v6), .val (.long v10), .second, .val (.long (q2 &&& v10)), .second, .val (.ref b12), .unset, .unset, .unset, .unset, .unset] [(.int (1 : Int32)), (.ref b12)])) _
    refine XS.lloadN Y14.here hx rfl (hb hby at_90) rfl ?_
    show Steps p.tables e below (T14.setTop (mkF m 91 #[.val (.long q0), .second, .val (.long q1), .second, .val (.long q2), .second, .val (.int p3), .val (.int p4), .val (.int p5), .val (.int (p3 &&& (3 : Int32))), .val (.int v2), .val (.int v6), .val (.long v10), .second, .val (.long (q2 &&& v10)), .second, .val (.ref b12), .unset, .unset, .unset, .unset, .unset] [(.long q1), (.int (1 : Int32)), (.ref b12)])) _
    exact k
  obtain ⟨cl16, Ar16, hin16, -⟩ := V14.in (j := (1 : Int32)) ⟨by decide, by decide⟩
  obtain ⟨T16, h16, X16, e16, W16, st16⟩ := stJ Y14 hx hZ e14 Ar16 (j := (1 : Int32)) hin16 (g := (mkF m 91 #[.val (.long q0), .second, .val (.long q1), .second, .val (.long q2), .second, .val (.int p3), .val (.int p4), .val (.int p5), .val (.int (p3 &&& (3 : Int32))), .val (.int v2), .val (.int v6), .val (.long v10), .second, .val (.long (q2 &&& v10)), .second, .val (.ref b12), .unset, .unset, .unset, .unset, .unset] [(.long q1), (.int (1 : Int32)), (.ref b12)])) rfl rfl (hb hby at_91)
  have N16 := Fr.snoc X16 N14 ge12
  have K16 : Keep h0 h16 [] := K14.wr W16 (Or.inr sz12)
  obtain ⟨M16, Y16, N16⟩ : ∃ M, Stand p l e room_1 s m #[(.long q0), (.long q1), (.long q2), (.int p3), (.int p4), (.int p5)] below meth c T16 M 1 4 ∧ Fr n0 M := ⟨_, X16, N16⟩
  have V16 : JV Value.long Z h16 b12 .long (4 : Int32) (updF (updF (fun _ => (0 : Int64)) 0 q0) 1 q1) := V14.set W16
  have pre16 : Lead p e below G (T16.setTop (mkF m 92 #[.val (.long q0), .second, .val (.long q1), .second, .val (.long q2), .second, .val (.int p3), .val (.int p4), .val (.int p5), .val (.int (p3 &&& (3 : Int32))), .val (.int v2), .val (.int v6), .val (.long v10), .second, .val (.long (q2 &&& v10)), .second, .val (.ref b12), .unset, .unset, .unset, .unset, .unset] [])) := fun t k => pre15 t (st16 _ k)
  have pre17 : Lead p e below G (T16.setTop (mkF m 100 #[.val (.long q0), .second, .val (.long q1), .second, .val (.long q2), .second, .val (.int p3), .val (.int p4), .val (.int p5), .val (.int (p3 &&& (3 : Int32))), .val (.int v2), .val (.int v6), .val (.long v10), .second, .val (.long (q2 &&& v10)), .second, .val (.ref b12), .unset, .unset, .unset, .unset, .unset] [(.long (q0 ^^^ (-1 : Int64))), (.int (2 : Int32)), (.ref b12)])) := fun t k => by
    refine pre16 t ?_
    show Steps p.tables e below (T16.setTop (mkF m 92 #[.val (.long q0), .second, .val (.long q1), .second, .val (.long q2), .second, .val (.int p3), .val (.int p4), .val (.int p5), .val (.int (p3 &&& (3 : Int32))), .val (.int v2), .val (.int v6), .val (.long v10), .second, .val (.long (q2 &&& v10)), .second, .val (.ref b12), .unset, .unset, .unset, .unset, .unset] [])) _
    refine XS.aload Y16.here hx rfl (hb hby at_92) rfl rfl ?_
    show Steps p.tables e below (T16.setTop (mkF m 94 #[.val (.long q0), .second, .val (.long q1), .second, .val (.long q2), .second, .val (.int p3), .val (.int p4), .val (.int p5), .val (.int (p3 &&& (3 : Int32))), .val (.int v2), .val (.int v6), .val (.long v10), .second, .val (.long (q2 &&& v10)), .second, .val (.ref b12), .unset, .unset, .unset, .unset, .unset] [(.ref b12)])) _
    refine XS.iconst Y16.here hx rfl (hb hby at_94) ?_
    show Steps p.tables e below (T16.setTop (mkF m 95 #[.val (.long q0), .second, .val (.long q1), .second, .val (.long q2), .second, .val (.int p3), .val (.int p4), .val (.int p5), .val (.int (p3 &&& (3 : Int32))), .val (.int v2), .val (.int v6), .val (.long v10), .second, .val (.long (q2 &&& v10)), .second, .val (.ref b12), .unset, .unset, .unset, .unset, .unset] [(.int (2 : Int32)), (.ref b12)])) _
    refine XS.lloadN Y16.here hx rfl (hb hby at_95) rfl ?_
    show Steps p.tables e below (T16.setTop (mkF m 96 #[.val (.long q0), .second, .val (.long q1), .second, .val (.long q2), .second, .val (.int p3), .val (.int p4), .val (.int p5), .val (.int (p3 &&& (3 : Int32))), .val (.int v2), .val (.int v6), .val (.long v10), .second, .val (.long (q2 &&& v10)), .second, .val (.ref b12), .unset, .unset, .unset, .unset, .unset] [(.long q0), (.int (2 : Int32)), (.ref b12)])) _
    refine Y16.ldc2Long hx hown (mvT hZ (hw _ (List.mem_of_getElem? (i := 2) rfl))) (g := (mkF m 96 #[.val (.long q0), .second, .val (.long q1), .second, .val (.long q2), .second, .val (.int p3), .val (.int p4), .val (.int p5), .val (.int (p3 &&& (3 : Int32))), .val (.int v2), .val (.int v6), .val (.long v10), .second, .val (.long (q2 &&& v10)), .second, .val (.ref b12), .unset, .unset, .unset, .unset, .unset] [(.long q0), (.int (2 : Int32)), (.ref b12)])) rfl (hb hby at_96) _ ?_
    show Steps p.tables e below (T16.setTop (mkF m 99 #[.val (.long q0), .second, .val (.long q1), .second, .val (.long q2), .second, .val (.int p3), .val (.int p4), .val (.int p5), .val (.int (p3 &&& (3 : Int32))), .val (.int v2), .val (.int v6), .val (.long v10), .second, .val (.long (q2 &&& v10)), .second, .val (.ref b12), .unset, .unset, .unset, .unset, .unset] [(.long (-1 : Int64)), (.long q0), (.int (2 : Int32)), (.ref b12)])) _
    refine XS.lxor Y16.here hx rfl (hb hby at_99) rfl ?_
    show Steps p.tables e below (T16.setTop (mkF m 100 #[.val (.long q0), .second, .val (.long q1), .second, .val (.long q2), .second, .val (.int p3), .val (.int p4), .val (.int p5), .val (.int (p3 &&& (3 : Int32))), .val (.int v2), .val (.int v6), .val (.long v10), .second, .val (.long (q2 &&& v10)), .second, .val (.ref b12), .unset, .unset, .unset, .unset, .unset] [(.long (q0 ^^^ (-1 : Int64))), (.int (2 : Int32)), (.ref b12)])) _
    exact k
  obtain ⟨cl18, Ar18, hin18, -⟩ := V16.in (j := (2 : Int32)) ⟨by decide, by decide⟩
  obtain ⟨T18, h18, X18, e18, W18, st18⟩ := stJ Y16 hx hZ e16 Ar18 (j := (2 : Int32)) hin18 (g := (mkF m 100 #[.val (.long q0), .second, .val (.long q1), .second, .val (.long q2), .second, .val (.int p3), .val (.int p4), .val (.int p5), .val (.int (p3 &&& (3 : Int32))), .val (.int v2), .val (.int v6), .val (.long v10), .second, .val (.long (q2 &&& v10)), .second, .val (.ref b12), .unset, .unset, .unset, .unset, .unset] [(.long (q0 ^^^ (-1 : Int64))), (.int (2 : Int32)), (.ref b12)])) rfl rfl (hb hby at_100)
  have N18 := Fr.snoc X18 N16 ge12
  have K18 : Keep h0 h18 [] := K16.wr W18 (Or.inr sz12)
  obtain ⟨M18, Y18, N18⟩ : ∃ M, Stand p l e room_1 s m #[(.long q0), (.long q1), (.long q2), (.int p3), (.int p4), (.int p5)] below meth c T18 M 1 4 ∧ Fr n0 M := ⟨_, X18, N18⟩
  obtain ⟨g18, hg18⟩ : ∃ z, z = (updF (updF (updF (fun _ => (0 : Int64)) 0 q0) 1 q1) 2 (q0 ^^^ (-1 : Int64))) := ⟨_, rfl⟩
  have V18 : JV Value.long Z h18 b12 .long (4 : Int32) g18 := by rw [hg18]; exact V16.set W18
  have pre18 : Lead p e below G (T18.setTop (mkF m 101 #[.val (.long q0), .second, .val (.long q1), .second, .val (.long q2), .second, .val (.int p3), .val (.int p4), .val (.int p5), .val (.int (p3 &&& (3 : Int32))), .val (.int v2), .val (.int v6), .val (.long v10), .second, .val (.long (q2 &&& v10)), .second, .val (.ref b12), .unset, .unset, .unset, .unset, .unset] [])) := fun t k => pre17 t (st18 _ k)
  have pre19 : Lead p e below G (T18.setTop (mkF m 109 #[.val (.long q0), .second, .val (.long q1), .second, .val (.long q2), .second, .val (.int p3), .val (.int p4), .val (.int p5), .val (.int (p3 &&& (3 : Int32))), .val (.int v2), .val (.int v6), .val (.long v10), .second, .val (.long (q2 &&& v10)), .second, .val (.ref b12), .unset, .unset, .unset, .unset, .unset] [(.long (q1 ^^^ (-1 : Int64))), (.int (3 : Int32)), (.ref b12)])) := fun t k => by
    refine pre18 t ?_
    show Steps p.tables e below (T18.setTop (mkF m 101 #[.val (.long q0), .second, .val (.long q1), .second, .val (.long q2), .second, .val (.int p3), .val (.int p4), .val (.int p5), .val (.int (p3 &&& (3 : Int32))), .val (.int v2), .val (.int v6), .val (.long v10), .second, .val (.long (q2 &&& v10)), .second, .val (.ref b12), .unset, .unset, .unset, .unset, .unset] [])) _
    refine XS.aload Y18.here hx rfl (hb hby at_101) rfl rfl ?_
    show Steps p.tables e below (T18.setTop (mkF m 103 #[.val (.long q0), .second, .val (.long q1), .second, .val (.long q2), .second, .val (.int p3), .val (.int p4), .val (.int p5), .val (.int (p3 &&& (3 : Int32))), .val (.int v2), .val (.int v6), .val (.long v10), .second, .val (.long (q2 &&& v10)), .second, .val (.ref b12), .unset, .unset, .unset, .unset, .unset] [(.ref b12)])) _
    refine XS.iconst Y18.here hx rfl (hb hby at_103) ?_
    show Steps p.tables e below (T18.setTop (mkF m 104 #[.val (.long q0), .second, .val (.long q1), .second, .val (.long q2), .second, .val (.int p3), .val (.int p4), .val (.int p5), .val (.int (p3 &&& (3 : Int32))), .val (.int v2), .val (.int v6), .val (.long v10), .second, .val (.long (q2 &&& v10)), .second, .val (.ref b12), .unset, .unset, .unset, .unset, .unset] [(.int (3 : Int32)), (.ref b12)])) _
    refine XS.lloadN Y18.here hx rfl (hb hby at_104) rfl ?_
    show Steps p.tables e below (T18.setTop (mkF m 105 #[.val (.long q0), .second, .val (.long q1), .second, .val (.long q2), .second, .val (.int p3), .val (.int p4), .val (.int p5), .val (.int (p3 &&& (3 : Int32))), .val (.int v2), .val (.int v6), .val (.long v10), .second, .val (.long (q2 &&& v10)), .second, .val (.ref b12), .unset, .unset, .unset, .unset, .unset] [(.long q1), (.int (3 : Int32)), (.ref b12)])) _
    refine Y18.ldc2Long hx hown (mvT hZ (hw _ (List.mem_of_getElem? (i := 2) rfl))) (g := (mkF m 105 #[.val (.long q0), .second, .val (.long q1), .second, .val (.long q2), .second, .val (.int p3), .val (.int p4), .val (.int p5), .val (.int (p3 &&& (3 : Int32))), .val (.int v2), .val (.int v6), .val (.long v10), .second, .val (.long (q2 &&& v10)), .second, .val (.ref b12), .unset, .unset, .unset, .unset, .unset] [(.long q1), (.int (3 : Int32)), (.ref b12)])) rfl (hb hby at_105) _ ?_
    show Steps p.tables e below (T18.setTop (mkF m 108 #[.val (.long q0), .second, .val (.long q1), .second, .val (.long q2), .second, .val (.int p3), .val (.int p4), .val (.int p5), .val (.int (p3 &&& (3 : Int32))), .val (.int v2), .val (.int v6), .val (.long v10), .second, .val (.long (q2 &&& v10)), .second, .val (.ref b12), .unset, .unset, .unset, .unset, .unset] [(.long (-1 : Int64)), (.long q1), (.int (3 : Int32)), (.ref b12)])) _
    refine XS.lxor Y18.here hx rfl (hb hby at_108) rfl ?_
    show Steps p.tables e below (T18.setTop (mkF m 109 #[.val (.long q0), .second, .val (.long q1), .second, .val (.long q2), .second, .val (.int p3), .val (.int p4), .val (.int p5), .val (.int (p3 &&& (3 : Int32))), .val (.int v2), .val (.int v6), .val (.long v10), .second, .val (.long (q2 &&& v10)), .second, .val (.ref b12), .unset, .unset, .unset, .unset, .unset] [(.long (q1 ^^^ (-1 : Int64))), (.int (3 : Int32)), (.ref b12)])) _
    exact k
  obtain ⟨cl20, Ar20, hin20, -⟩ := V18.in (j := (3 : Int32)) ⟨by decide, by decide⟩
  obtain ⟨T20, h20, X20, e20, W20, st20⟩ := stJ Y18 hx hZ e18 Ar20 (j := (3 : Int32)) hin20 (g := (mkF m 109 #[.val (.long q0), .second, .val (.long q1), .second, .val (.long q2), .second, .val (.int p3), .val (.int p4), .val (.int p5), .val (.int (p3 &&& (3 : Int32))), .val (.int v2), .val (.int v6), .val (.long v10), .second, .val (.long (q2 &&& v10)), .second, .val (.ref b12), .unset, .unset, .unset, .unset, .unset] [(.long (q1 ^^^ (-1 : Int64))), (.int (3 : Int32)), (.ref b12)])) rfl rfl (hb hby at_109)
  have N20 := Fr.snoc X20 N18 ge12
  have K20 : Keep h0 h20 [] := K18.wr W20 (Or.inr sz12)
  obtain ⟨M20, Y20, N20⟩ : ∃ M, Stand p l e room_1 s m #[(.long q0), (.long q1), (.long q2), (.int p3), (.int p4), (.int p5)] below meth c T20 M 1 4 ∧ Fr n0 M := ⟨_, X20, N20⟩
  have V20 : JV Value.long Z h20 b12 .long (4 : Int32) (updF g18 3 (q1 ^^^ (-1 : Int64))) := V18.set W20
  have pre20 : Lead p e below G (T20.setTop (mkF m 110 #[.val (.long q0), .second, .val (.long q1), .second, .val (.long q2), .second, .val (.int p3), .val (.int p4), .val (.int p5), .val (.int (p3 &&& (3 : Int32))), .val (.int v2), .val (.int v6), .val (.long v10), .second, .val (.long (q2 &&& v10)), .second, .val (.ref b12), .unset, .unset, .unset, .unset, .unset] [])) := fun t k => pre19 t (st20 _ k)
  have pre21 : Lead p e below G (T20.setTop (mkF m 127 #[.val (.long q0), .second, .val (.long q1), .second, .val (.long q2), .second, .val (.int p3), .val (.int p4), .val (.int p5), .val (.int (p3 &&& (3 : Int32))), .val (.int v2), .val (.int v6), .val (.long v10), .second, .val (.long (q2 &&& v10)), .second, .val (.ref b12), .val (.long ((((p3 &&& (3 : Int32)).toInt64) * (64 : Int64)) + ((v6.toInt64) * (v2.toInt64)))), .second, .unset, .unset, .unset] [])) := fun t k => by
    refine pre20 t ?_
    show Steps p.tables e below (T20.setTop (mkF m 110 #[.val (.long q0), .second, .val (.long q1), .second, .val (.long q2), .second, .val (.int p3), .val (.int p4), .val (.int p5), .val (.int (p3 &&& (3 : Int32))), .val (.int v2), .val (.int v6), .val (.long v10), .second, .val (.long (q2 &&& v10)), .second, .val (.ref b12), .unset, .unset, .unset, .unset, .unset] [])) _
    refine XS.iload Y20.here hx rfl (hb hby at_110) rfl ?_
    show Steps p.tables e below (T20.setTop (mkF m 112 #[.val (.long q0), .second, .val (.long q1), .second, .val (.long q2), .second, .val (.int p3), .val (.int p4), .val (.int p5), .val (.int (p3 &&& (3 : Int32))), .val (.int v2), .val (.int v6), .val (.long v10), .second, .val (.long (q2 &&& v10)), .second, .val (.ref b12), .unset, .unset, .unset, .unset, .unset] [(.int (p3 &&& (3 : Int32)))])) _
    refine XS.i2l Y20.here hx rfl (hb hby at_112) rfl ?_
    show Steps p.tables e below (T20.setTop (mkF m 113 #[.val (.long q0), .second, .val (.long q1), .second, .val (.long q2), .second, .val (.int p3), .val (.int p4), .val (.int p5), .val (.int (p3 &&& (3 : Int32))), .val (.int v2), .val (.int v6), .val (.long v10), .second, .val (.long (q2 &&& v10)), .second, .val (.ref b12), .unset, .unset, .unset, .unset, .unset] [(.long ((p3 &&& (3 : Int32)).toInt64))])) _
    refine Y20.ldc2Long hx hown (mvT hZ (hw _ (List.mem_of_getElem? (i := 3) rfl))) (g := (mkF m 113 #[.val (.long q0), .second, .val (.long q1), .second, .val (.long q2), .second, .val (.int p3), .val (.int p4), .val (.int p5), .val (.int (p3 &&& (3 : Int32))), .val (.int v2), .val (.int v6), .val (.long v10), .second, .val (.long (q2 &&& v10)), .second, .val (.ref b12), .unset, .unset, .unset, .unset, .unset] [(.long ((p3 &&& (3 : Int32)).toInt64))])) rfl (hb hby at_113) _ ?_
    show Steps p.tables e below (T20.setTop (mkF m 116 #[.val (.long q0), .second, .val (.long q1), .second, .val (.long q2), .second, .val (.int p3), .val (.int p4), .val (.int p5), .val (.int (p3 &&& (3 : Int32))), .val (.int v2), .val (.int v6), .val (.long v10), .second, .val (.long (q2 &&& v10)), .second, .val (.ref b12), .unset, .unset, .unset, .unset, .unset] [(.long (64 : Int64)), (.long ((p3 &&& (3 : Int32)).toInt64))])) _
    refine XS.lmul Y20.here hx rfl (hb hby at_116) rfl ?_
    show Steps p.tables e below (T20.setTop (mkF m 117 #[.val (.long q0), .second, .val (.long q1), .second, .val (.long q2), .second, .val (.int p3), .val (.int p4), .val (.int p5), .val (.int (p3 &&& (3 : Int32))), .val (.int v2), .val (.int v6), .val (.long v10), .second, .val (.long (q2 &&& v10)), .second, .val (.ref b12), .unset, .unset, .unset, .unset, .unset] [(.long (((p3 &&& (3 : Int32)).toInt64) * (64 : Int64)))])) _
    refine XS.iload Y20.here hx rfl (hb hby at_117) rfl ?_
    show Steps p.tables e below (T20.setTop (mkF m 119 #[.val (.long q0), .second, .val (.long q1), .second, .val (.long q2), .second, .val (.int p3), .val (.int p4), .val (.int p5), .val (.int (p3 &&& (3 : Int32))), .val (.int v2), .val (.int v6), .val (.long v10), .second, .val (.long (q2 &&& v10)), .second, .val (.ref b12), .unset, .unset, .unset, .unset, .unset] [(.int v6), (.long (((p3 &&& (3 : Int32)).toInt64) * (64 : Int64)))])) _
    refine XS.i2l Y20.here hx rfl (hb hby at_119) rfl ?_
    show Steps p.tables e below (T20.setTop (mkF m 120 #[.val (.long q0), .second, .val (.long q1), .second, .val (.long q2), .second, .val (.int p3), .val (.int p4), .val (.int p5), .val (.int (p3 &&& (3 : Int32))), .val (.int v2), .val (.int v6), .val (.long v10), .second, .val (.long (q2 &&& v10)), .second, .val (.ref b12), .unset, .unset, .unset, .unset, .unset] [(.long (v6.toInt64)), (.long (((p3 &&& (3 : Int32)).toInt64) * (64 : Int64)))])) _
    refine XS.iload Y20.here hx rfl (hb hby at_120) rfl ?_
    show Steps p.tables e below (T20.setTop (mkF m 122 #[.val (.long q0), .second, .val (.long q1), .second, .val (.long q2), .second, .val (.int p3), .val (.int p4), .val (.int p5), .val (.int (p3 &&& (3 : Int32))), .val (.int v2), .val (.int v6), .val (.long v10), .second, .val (.long (q2 &&& v10)), .second, .val (.ref b12), .unset, .unset, .unset, .unset, .unset] [(.int v2), (.long (v6.toInt64)), (.long (((p3 &&& (3 : Int32)).toInt64) * (64 : Int64)))])) _
    refine XS.i2l Y20.here hx rfl (hb hby at_122) rfl ?_
    show Steps p.tables e below (T20.setTop (mkF m 123 #[.val (.long q0), .second, .val (.long q1), .second, .val (.long q2), .second, .val (.int p3), .val (.int p4), .val (.int p5), .val (.int (p3 &&& (3 : Int32))), .val (.int v2), .val (.int v6), .val (.long v10), .second, .val (.long (q2 &&& v10)), .second, .val (.ref b12), .unset, .unset, .unset, .unset, .unset] [(.long (v2.toInt64)), (.long (v6.toInt64)), (.long (((p3 &&& (3 : Int32)).toInt64) * (64 : Int64)))])) _
    refine XS.lmul Y20.here hx rfl (hb hby at_123) rfl ?_
    show Steps p.tables e below (T20.setTop (mkF m 124 #[.val (.long q0), .second, .val (.long q1), .second, .val (.long q2), .second, .val (.int p3), .val (.int p4), .val (.int p5), .val (.int (p3 &&& (3 : Int32))), .val (.int v2), .val (.int v6), .val (.long v10), .second, .val (.long (q2 &&& v10)), .second, .val (.ref b12), .unset, .unset, .unset, .unset, .unset] [(.long ((v6.toInt64) * (v2.toInt64))), (.long (((p3 &&& (3 : Int32)).toInt64) * (64 : Int64)))])) _
    refine XS.ladd Y20.here hx rfl (hb hby at_124) rfl ?_
    show Steps p.tables e below (T20.setTop (mkF m 125 #[.val (.long q0), .second, .val (.long q1), .second, .val (.long q2), .second, .val (.int p3), .val (.int p4), .val (.int p5), .val (.int (p3 &&& (3 : Int32))), .val (.int v2), .val (.int v6), .val (.long v10), .second, .val (.long (q2 &&& v10)), .second, .val (.ref b12), .unset, .unset, .unset, .unset, .unset] [(.long ((((p3 &&& (3 : Int32)).toInt64) * (64 : Int64)) + ((v6.toInt64) * (v2.toInt64))))])) _
    refine XS.lstore Y20.here hx rfl (hb hby at_125) rfl (l' := #[.val (.long q0), .second, .val (.long q1), .second, .val (.long q2), .second, .val (.int p3), .val (.int p4), .val (.int p5), .val (.int (p3 &&& (3 : Int32))), .val (.int v2), .val (.int v6), .val (.long v10), .second, .val (.long (q2 &&& v10)), .second, .val (.ref b12), .val (.long ((((p3 &&& (3 : Int32)).toInt64) * (64 : Int64)) + ((v6.toInt64) * (v2.toInt64)))), .second, .unset, .unset, .unset]) rfl ?_
    show Steps p.tables e below (T20.setTop (mkF m 127 #[.val (.long q0), .second, .val (.long q1), .second, .val (.long q2), .second, .val (.int p3), .val (.int p4), .val (.int p5), .val (.int (p3 &&& (3 : Int32))), .val (.int v2), .val (.int v6), .val (.long v10), .second, .val (.long (q2 &&& v10)), .second, .val (.ref b12), .val (.long ((((p3 &&& (3 : Int32)).toInt64) * (64 : Int64)) + ((v6.toInt64) * (v2.toInt64)))), .second, .unset, .unset, .unset] [])) _
    exact k
  obtain ⟨v22, hv22⟩ : ∃ z : Int64, z = ((((p3 &&& (3 : Int32)).toInt64) * (64 : Int64)) + ((v6.toInt64) * (v2.toInt64))) := ⟨_, rfl⟩
  have pre22 : Lead p e below G (T20.setTop (mkF m 127 #[.val (.long q0), .second, .val (.long q1), .second, .val (.long q2), .second, .val (.int p3), .val (.int p4), .val (.int p5), .val (.int (p3 &&& (3 : Int32))), .val (.int v2), .val (.int v6), .val (.long v10), .second, .val (.long (q2 &&& v10)), .second, .val (.ref b12), .val (.long v22), .second, .unset, .unset, .unset] [])) := by rw [hv22]; exact pre21
  have pre24 : Lead p e below G (T20.setTop (mkF m 129 #[.val (.long q0), .second, .val (.long q1), .second, .val (.long q2), .second, .val (.int p3), .val (.int p4), .val (.int p5), .val (.int (p3 &&& (3 : Int32))), .val (.int v2), .val (.int v6), .val (.long v10), .second, .val (.long (q2 &&& v10)), .second, .val (.ref b12), .val (.long v22), .second, .unset, .unset, .unset] [(.int v2)])) := fun t k => by
    refine pre22 t ?_
    show Steps p.tables e below (T20.setTop (mkF m 127 #[.val (.long q0), .second, .val (.long q1), .second, .val (.long q2), .second, .val (.int p3), .val (.int p4), .val (.int p5), .val (.int (p3 &&& (3 : Int32))), .val (.int v2), .val (.int v6), .val (.long v10), .second, .val (.long (q2 &&& v10)), .second, .val (.ref b12), .val (.long v22), .second, .unset, .unset, .unset] [])) _
    refine XS.iload Y20.here hx rfl (hb hby at_127) rfl ?_
    show Steps p.tables e below (T20.setTop (mkF m 129 #[.val (.long q0), .second, .val (.long q1), .second, .val (.long q2), .second, .val (.int p3), .val (.int p4), .val (.int p5), .val (.int (p3 &&& (3 : Int32))), .val (.int v2), .val (.int v6), .val (.long v10), .second, .val (.long (q2 &&& v10)), .second, .val (.ref b12), .val (.long v22), .second, .unset, .unset, .unset] [(.int v2)])) _
    exact k
  by_cases hs129_25 : (0 : Int32) < v2
  · have pre26 : Lead p e below G (T20.setTop (mkF m 158 #[.val (.long q0), .second, .val (.long q1), .second, .val (.long q2), .second, .val (.int p3), .val (.int p4), .val (.int p5), .val (.int (p3 &&& (3 : Int32))), .val (.int v2), .val (.int v6), .val (.long v10), .second, .val (.long (q2 &&& v10)), .second, .val (.ref b12), .val (.long v22), .second, .val (.int ((v22 / (64 : Int64)).toInt32)), .val (.int ((v22 - (v22 / (64 : Int64)) * (64 : Int64)).toInt32)), .unset] [(.int ((v22 / (64 : Int64)).toInt32)), (.ref b12), (.int ((v22 / (64 : Int64)).toInt32)), (.ref b12)])) := fun t k => by
      refine pre24 t ?_
      show Steps p.tables e below (T20.setTop (mkF m 129 #[.val (.long q0), .second, .val (.long q1), .second, .val (.long q2), .second, .val (.int p3), .val (.int p4), .val (.int p5), .val (.int (p3 &&& (3 : Int32))), .val (.int v2), .val (.int v6), .val (.long v10), .second, .val (.long (q2 &&& v10)), .second, .val (.ref b12), .val (.long v22), .second, .unset, .unset, .unset] [(.int v2)])) _
      refine XS.ifNo Y20.here hx rfl (hb hby at_129) rfl ((if0 _ _).trans (tlt hs129_25).2.2.2) ?_
      show Steps p.tables e below (T20.setTop (mkF m 132 #[.val (.long q0), .second, .val (.long q1), .second, .val (.long q2), .second, .val (.int p3), .val (.int p4), .val (.int p5), .val (.int (p3 &&& (3 : Int32))), .val (.int v2), .val (.int v6), .val (.long v10), .second, .val (.long (q2 &&& v10)), .second, .val (.ref b12), .val (.long v22), .second, .unset, .unset, .unset] [])) _
      refine XS.lload Y20.here hx rfl (hb hby at_132) rfl ?_
      show Steps p.tables e below (T20.setTop (mkF m 134 #[.val (.long q0), .second, .val (.long q1), .second, .val (.long q2), .second, .val (.int p3), .val (.int p4), .val (.int p5), .val (.int (p3 &&& (3 : Int32))), .val (.int v2), .val (.int v6), .val (.long v10), .second, .val (.long (q2 &&& v10)), .second, .val (.ref b12), .val (.long v22), .second, .unset, .unset, .unset] [(.long v22)])) _
      refine Y20.ldc2Long hx hown (mvT hZ (hw _ (List.mem_of_getElem? (i := 3) rfl))) (g := (mkF m 134 #[.val (.long q0), .second, .val (.long q1), .second, .val (.long q2), .second, .val (.int p3), .val (.int p4), .val (.int p5), .val (.int (p3 &&& (3 : Int32))), .val (.int v2), .val (.int v6), .val (.long v10), .second, .val (.long (q2 &&& v10)), .second, .val (.ref b12), .val (.long v22), .second, .unset, .unset, .unset] [(.long v22)])) rfl (hb hby at_134) _ ?_
      show Steps p.tables e below (T20.setTop (mkF m 137 #[.val (.long q0), .second, .val (.long q1), .second, .val (.long q2), .second, .val (.int p3), .val (.int p4), .val (.int p5), .val (.int (p3 &&& (3 : Int32))), .val (.int v2), .val (.int v6), .val (.long v10), .second, .val (.long (q2 &&& v10)), .second, .val (.ref b12), .val (.long v22), .second, .unset, .unset, .unset] [(.long (64 : Int64)), (.long v22)])) _
      refine XS.ldiv Y20.here hx rfl (hb hby at_137) rfl (by decide) ?_
      show Steps p.tables e below (T20.setTop (mkF m 138 #[.val (.long q0), .second, .val (.long q1), .second, .val (.long q2), .second, .val (.int p3), .val (.int p4), .val (.int p5), .val (.int (p3 &&& (3 : Int32))), .val (.int v2), .val (.int v6), .val (.long v10), .second, .val (.long (q2 &&& v10)), .second, .val (.ref b12), .val (.long v22), .second, .unset, .unset, .unset] [(.long (v22 / (64 : Int64)))])) _
      refine XS.l2i Y20.here hx rfl (hb hby at_138) rfl ?_
      show Steps p.tables e below (T20.setTop (mkF m 139 #[.val (.long q0), .second, .val (.long q1), .second, .val (.long q2), .second, .val (.int p3), .val (.int p4), .val (.int p5), .val (.int (p3 &&& (3 : Int32))), .val (.int v2), .val (.int v6), .val (.long v10), .second, .val (.long (q2 &&& v10)), .second, .val (.ref b12), .val (.long v22), .second, .unset, .unset, .unset] [(.int ((v22 / (64 : Int64)).toInt32))])) _
      refine XS.istore Y20.here hx rfl (hb hby at_139) rfl (l' := #[.val (.long q0), .second, .val (.long q1), .second, .val (.long q2), .second, .val (.int p3), .val (.int p4), .val (.int p5), .val (.int (p3 &&& (3 : Int32))), .val (.int v2), .val (.int v6), .val (.long v10), .second, .val (.long (q2 &&& v10)), .second, .val (.ref b12), .val (.long v22), .second, .val (.int ((v22 / (64 : Int64)).toInt32)), .unset, .unset]) rfl ?_
      show Steps p.tables e below (T20.setTop (mkF m 141 #[.val (.long q0), .second, .val (.long q1), .second, .val (.long q2), .second, .val (.int p3), .val (.int p4), .val (.int p5), .val (.int (p3 &&& (3 : Int32))), .val (.int v2), .val (.int v6), .val (.long v10), .second, .val (.long (q2 &&& v10)), .second, .val (.ref b12), .val (.long v22), .second, .val (.int ((v22 / (64 : Int64)).toInt32)), .unset, .unset] [])) _
      refine XS.lload Y20.here hx rfl (hb hby at_141) rfl ?_
      show Steps p.tables e below (T20.setTop (mkF m 143 #[.val (.long q0), .second, .val (.long q1), .second, .val (.long q2), .second, .val (.int p3), .val (.int p4), .val (.int p5), .val (.int (p3 &&& (3 : Int32))), .val (.int v2), .val (.int v6), .val (.long v10), .second, .val (.long (q2 &&& v10)), .second, .val (.ref b12), .val (.long v22), .second, .val (.int ((v22 / (64 : Int64)).toInt32)), .unset, .unset] [(.long v22)])) _
      refine Y20.ldc2Long hx hown (mvT hZ (hw _ (List.mem_of_getElem? (i := 3) rfl))) (g := (mkF m 143 #[.val (.long q0), .second, .val (.long q1), .second, .val (.long q2), .second, .val (.int p3), .val (.int p4), .val (.int p5), .val (.int (p3 &&& (3 : Int32))), .val (.int v2), .val (.int v6), .val (.long v10), .second, .val (.long (q2 &&& v10)), .second, .val (.ref b12), .val (.long v22), .second, .val (.int ((v22 / (64 : Int64)).toInt32)), .unset, .unset] [(.long v22)])) rfl (hb hby at_143) _ ?_
      show Steps p.tables e below (T20.setTop (mkF m 146 #[.val (.long q0), .second, .val (.long q1), .second, .val (.long q2), .second, .val (.int p3), .val (.int p4), .val (.int p5), .val (.int (p3 &&& (3 : Int32))), .val (.int v2), .val (.int v6), .val (.long v10), .second, .val (.long (q2 &&& v10)), .second, .val (.ref b12), .val (.long v22), .second, .val (.int ((v22 / (64 : Int64)).toInt32)), .unset, .unset] [(.long (64 : Int64)), (.long v22)])) _
      refine XS.lrem Y20.here hx rfl (hb hby at_146) rfl (by decide) ?_
      show Steps p.tables e below (T20.setTop (mkF m 147 #[.val (.long q0), .second, .val (.long q1), .second, .val (.long q2), .second, .val (.int p3), .val (.int p4), .val (.int p5), .val (.int (p3 &&& (3 : Int32))), .val (.int v2), .val (.int v6), .val (.long v10), .second, .val (.long (q2 &&& v10)), .second, .val (.ref b12), .val (.long v22), .second, .val (.int ((v22 / (64 : Int64)).toInt32)), .unset, .unset] [(.long (v22 - (v22 / (64 : Int64)) * (64 : Int64)))])) _
      refine XS.l2i Y20.here hx rfl (hb hby at_147) rfl ?_
      show Steps p.tables e below (T20.setTop (mkF m 148 #[.val (.long q0), .second, .val (.long q1), .second, .val (.long q2), .second, .val (.int p3), .val (.int p4), .val (.int p5), .val (.int (p3 &&& (3 : Int32))), .val (.int v2), .val (.int v6), .val (.long v10), .second, .val (.long (q2 &&& v10)), .second, .val (.ref b12), .val (.long v22), .second, .val (.int ((v22 / (64 : Int64)).toInt32)), .unset, .unset] [(.int ((v22 - (v22 / (64 : Int64)) * (64 : Int64)).toInt32))])) _
      refine XS.istore Y20.here hx rfl (hb hby at_148) rfl (l' := #[.val (.long q0), .second, .val (.long q1), .second, .val (.long q2), .second, .val (.int p3), .val (.int p4), .val (.int p5), .val (.int (p3 &&& (3 : Int32))), .val (.int v2), .val (.int v6), .val (.long v10), .second, .val (.long (q2 &&& v10)), .second, .val (.ref b12), .val (.long v22), .second, .val (.int ((v22 / (64 : Int64)).toInt32)), .val (.int ((v22 - (v22 / (64 : Int64)) * (64 : Int64)).toInt32)), .unset]) rfl ?_
      show Steps p.tables e below (T20.setTop (mkF m 150 #[.val (.long q0), .second, .val (.long q1), .second, .val (.long q2), .second, .val (.int p3), .val (.int p4), .val (.int p5), .val (.int (p3 &&& (3 : Int32))), .val (.int v2), .val (.int v6), .val (.long v10), .second, .val (.long (q2 &&& v10)), .second, .val (.ref b12), .val (.long v22), .second, .val (.int ((v22 / (64 : Int64)).toInt32)), .val (.int ((v22 - (v22 / (64 : Int64)) * (64 : Int64)).toInt32)), .unset] [])) _
      refine XS.aload Y20.here hx rfl (hb hby at_150) rfl rfl ?_
      show Steps p.tables e below (T20.setTop (mkF m 152 #[.val (.long q0), .second, .val (.long q1), .second, .val (.long q2), .second, .val (.int p3), .val (.int p4), .val (.int p5), .val (.int (p3 &&& (3 : Int32))), .val (.int v2), .val (.int v6), .val (.long v10), .second, .val (.long (q2 &&& v10)), .second, .val (.ref b12), .val (.long v22), .second, .val (.int ((v22 / (64 : Int64)).toInt32)), .val (.int ((v22 - (v22 / (64 : Int64)) * (64 : Int64)).toInt32)), .unset] [(.ref b12)])) _
      refine XS.iload Y20.here hx rfl (hb hby at_152) rfl ?_
      show Steps p.tables e below (T20.setTop (mkF m 154 #[.val (.long q0), .second, .val (.long q1), .second, .val (.long q2), .second, .val (.int p3), .val (.int p4), .val (.int p5), .val (.int (p3 &&& (3 : Int32))), .val (.int v2), .val (.int v6), .val (.long v10), .second, .val (.long (q2 &&& v10)), .second, .val (.ref b12), .val (.long v22), .second, .val (.int ((v22 / (64 : Int64)).toInt32)), .val (.int ((v22 - (v22 / (64 : Int64)) * (64 : Int64)).toInt32)), .unset] [(.int ((v22 / (64 : Int64)).toInt32)), (.ref b12)])) _
      refine XS.aload Y20.here hx rfl (hb hby at_154) rfl rfl ?_
      show Steps p.tables e below (T20.setTop (mkF m 156 #[.val (.long q0), .second, .val (.long q1), .second, .val (.long q2), .second, .val (.int p3), .val (.int p4), .val (.int p5), .val (.int (p3 &&& (3 : Int32))), .val (.int v2), .val (.int v6), .val (.long v10), .second, .val (.long (q2 &&& v10)), .second, .val (.ref b12), .val (.long v22), .second, .val (.int ((v22 / (64 : Int64)).toInt32)), .val (.int ((v22 - (v22 / (64 : Int64)) * (64 : Int64)).toInt32)), .unset] [(.ref b12), (.int ((v22 / (64 : Int64)).toInt32)), (.ref b12)])) _
      refine XS.iload Y20.here hx rfl (hb hby at_156) rfl ?_
      show Steps p.tables e below (T20.setTop (mkF m 158 #[.val (.long q0), .second, .val (.long q1), .second, .val (.long q2), .second, .val (.int p3), .val (.int p4), .val (.int p5), .val (.int (p3 &&& (3 : Int32))), .val (.int v2), .val (.int v6), .val (.long v10), .second, .val (.long (q2 &&& v10)), .second, .val (.ref b12), .val (.long v22), .second, .val (.int ((v22 / (64 : Int64)).toInt32)), .val (.int ((v22 - (v22 / (64 : Int64)) * (64 : Int64)).toInt32)), .unset] [(.int ((v22 / (64 : Int64)).toInt32)), (.ref b12), (.int ((v22 / (64 : Int64)).toInt32)), (.ref b12)])) _
      exact k
    obtain ⟨v27, hv27⟩ : ∃ z : Int32, z = ((v22 - (v22 / (64 : Int64)) * (64 : Int64)).toInt32) := ⟨_, rfl⟩
    have pre27 : Lead p e below G (T20.setTop (mkF m 158 #[.val (.long q0), .second, .val (.long q1), .second, .val (.long q2), .second, .val (.int p3), .val (.int p4), .val (.int p5), .val (.int (p3 &&& (3 : Int32))), .val (.int v2), .val (.int v6), .val (.long v10), .second, .val (.long (q2 &&& v10)), .second, .val (.ref b12), .val (.long v22), .second, .val (.int ((v22 / (64 : Int64)).toInt32)), .val (.int v27), .unset] [(.int ((v22 / (64 : Int64)).toInt32)), (.ref b12), (.int ((v22 / (64 : Int64)).toInt32)), (.ref b12)])) := by rw [hv27]; exact pre26
    obtain ⟨cl28, Ar28, hin28, hat28⟩ := V20.in (j := ((v22 / (64 : Int64)).toInt32)) (by subst hv27 hv22 hg18 hv10 hv6 hv2; exact (own_b1 p3 p4 p5 hs129_25))
    have st28 := Y20.laload hx (j := ((v22 / (64 : Int64)).toInt32)) (v := (.long ((updF g18 3 (q1 ^^^ (-1 : Int64))) (((v22 / (64 : Int64)).toInt32)).toNatClampNeg))) (by rw [e20]; exact Ar28.1) (State.isArrayOf_alike hZ.alike Ar28.2.1) Ar28.2.2 hin28 hat28 (g := (mkF m 158 #[.val (.long q0), .second, .val (.long q1), .second, .val (.long q2), .second, .val (.int p3), .val (.int p4), .val (.int p5), .val (.int (p3 &&& (3 : Int32))), .val (.int v2), .val (.int v6), .val (.long v10), .second, .val (.long (q2 &&& v10)), .second, .val (.ref b12), .val (.long v22), .second, .val (.int ((v22 / (64 : Int64)).toInt32)), .val (.int v27), .unset] [(.int ((v22 / (64 : Int64)).toInt32)), (.ref b12), (.int ((v22 / (64 : Int64)).toInt32)), (.ref b12)])) rfl rfl (hb hby at_158)
    have pre28 : Lead p e below G (T20.setTop (mkF m 159 #[.val (.long q0), .second, .val (.long q1), .second, .val (.long q2), .second, .val (.int p3), .val (.int p4), .val (.int p5), .val (.int (p3 &&& (3 : Int32))), .val (.int v2), .val (.int v6), .val (.long v10), .second, .val (.long (q2 &&& v10)), .second, .val (.ref b12), .val (.long v22), .second, .val (.int ((v22 / (64 : Int64)).toInt32)), .val (.int v27), .unset] [(.long ((updF g18 3 (q1 ^^^ (-1 : Int64))) (((v22 / (64 : Int64)).toInt32)).toNatClampNeg)), (.int ((v22 / (64 : Int64)).toInt32)), (.ref b12)])) := fun t k => pre27 t (st28 _ k)
    have pre29 : Lead p e below G (T20.setTop (mkF m 175 #[.val (.long q0), .second, .val (.long q1), .second, .val (.long q2), .second, .val (.int p3), .val (.int p4), .val (.int p5), .val (.int (p3 &&& (3 : Int32))), .val (.int v2), .val (.int v6), .val (.long v10), .second, .val (.long (q2 &&& v10)), .second, .val (.ref b12), .val (.long v22), .second, .val (.int ((v22 / (64 : Int64)).toInt32)), .val (.int v27), .unset] [(.long ((((updF g18 3 (q1 ^^^ (-1 : Int64))) (((v22 / (64 : Int64)).toInt32)).toNatClampNeg) &&& ((v10 <<< (v27 &&& 0x3f).toInt64) ^^^ (-1 : Int64))) ||| ((q2 &&& v10) <<< (v27 &&& 0x3f).toInt64))), (.int ((v22 / (64 : Int64)).toInt32)), (.ref b12)])) := fun t k => by
      refine pre28 t ?_
      show Steps p.tables e below (T20.setTop (mkF m 159 #[.val (.long q0), .second, .val (.long q1), .second, .val (.long q2), .second, .val (.int p3), .val (.int p4), .val (.int p5), .val (.int (p3 &&& (3 : Int32))), .val (.int v2), .val (.int v6), .val (.long v10), .second, .val (.long (q2 &&& v10)), .second, .val (.ref b12), .val (.long v22), .second, .val (.int ((v22 / (64 : Int64)).toInt32)), .val (.int v27), .unset] [(.long ((updF g18 3 (q1 ^^^ (-1 : Int64))) (((v22 / (64 : Int64)).toInt32)).toNatClampNeg)), (.int ((v22 / (64 : Int64)).toInt32)), (.ref b12)])) _
      refine XS.lload Y20.here hx rfl (hb hby at_159) rfl ?_
      show Steps p.tables e below (T20.setTop (mkF m 161 #[.val (.long q0), .second, .val (.long q1), .second, .val (.long q2), .second, .val (.int p3), .val (.int p4), .val (.int p5), .val (.int (p3 &&& (3 : Int32))), .val (.int v2), .val (.int v6), .val (.long v10), .second, .val (.long (q2 &&& v10)), .second, .val (.ref b12), .val (.long v22), .second, .val (.int ((v22 / (64 : Int64)).toInt32)), .val (.int v27), .unset] [(.long v10), (.long ((updF g18 3 (q1 ^^^ (-1 : Int64))) (((v22 / (64 : Int64)).toInt32)).toNatClampNeg)), (.int ((v22 / (64 : Int64)).toInt32)), (.ref b12)])) _
      refine XS.iload Y20.here hx rfl (hb hby at_161) rfl ?_
      show Steps p.tables e below (T20.setTop (mkF m 163 #[.val (.long q0), .second, .val (.long q1), .second, .val (.long q2), .second, .val (.int p3), .val (.int p4), .val (.int p5), .val (.int (p3 &&& (3 : Int32))), .val (.int v2), .val (.int v6), .val (.long v10), .second, .val (.long (q2 &&& v10)), .second, .val (.ref b12), .val (.long v22), .second, .val (.int ((v22 / (64 : Int64)).toInt32)), .val (.int v27), .unset] [(.int v27), (.long v10), (.long ((updF g18 3 (q1 ^^^ (-1 : Int64))) (((v22 / (64 : Int64)).toInt32)).toNatClampNeg)), (.int ((v22 / (64 : Int64)).toInt32)), (.ref b12)])) _
      refine XS.lshl Y20.here hx rfl (hb hby at_163) rfl ?_
      show Steps p.tables e below (T20.setTop (mkF m 164 #[.val (.long q0), .second, .val (.long q1), .second, .val (.long q2), .second, .val (.int p3), .val (.int p4), .val (.int p5), .val (.int (p3 &&& (3 : Int32))), .val (.int v2), .val (.int v6), .val (.long v10), .second, .val (.long (q2 &&& v10)), .second, .val (.ref b12), .val (.long v22), .second, .val (.int ((v22 / (64 : Int64)).toInt32)), .val (.int v27), .unset] [(.long (v10 <<< (v27 &&& 0x3f).toInt64)), (.long ((updF g18 3 (q1 ^^^ (-1 : Int64))) (((v22 / (64 : Int64)).toInt32)).toNatClampNeg)), (.int ((v22 / (64 : Int64)).toInt32)), (.ref b12)])) _
      refine Y20.ldc2Long hx hown (mvT hZ (hw _ (List.mem_of_getElem? (i := 2) rfl))) (g := (mkF m 164 #[.val (.long q0), .second, .val (.long q1), .second, .val (.long q2), .second, .val (.int p3), .val (.int p4), .val (.int p5), .val (.int (p3 &&& (3 : Int32))), .val (.int v2), .val (.int v6), .val (.long v10), .second, .val (.long (q2 &&& v10)), .second, .val (.ref b12), .val (.long v22), .second, .val (.int ((v22 / (64 : Int64)).toInt32)), .val (.int v27), .unset] [(.long (v10 <<< (v27 &&& 0x3f).toInt64)), (.long ((updF g18 3 (q1 ^^^ (-1 : Int64))) (((v22 / (64 : Int64)).toInt32)).toNatClampNeg)), (.int ((v22 / (64 : Int64)).toInt32)), (.ref b12)])) rfl (hb hby at_164) _ ?_
      show Steps p.tables e below (T20.setTop (mkF m 167 #[.val (.long q0), .second, .val (.long q1), .second, .val (.long q2), .second, .val (.int p3), .val (.int p4), .val (.int p5), .val (.int (p3 &&& (3 : Int32))), .val (.int v2), .val (.int v6), .val (.long v10), .second, .val (.long (q2 &&& v10)), .second, .val (.ref b12), .val (.long v22), .second, .val (.int ((v22 / (64 : Int64)).toInt32)), .val (.int v27), .unset] [(.long (-1 : Int64)), (.long (v10 <<< (v27 &&& 0x3f).toInt64)), (.long ((updF g18 3 (q1 ^^^ (-1 : Int64))) (((v22 / (64 : Int64)).toInt32)).toNatClampNeg)), (.int ((v22 / (64 : Int64)).toInt32)), (.ref b12)])) _
      refine XS.lxor Y20.here hx rfl (hb hby at_167) rfl ?_
      show Steps p.tables e below (T20.setTop (mkF m 168 #[.val (.long q0), .second, .val (.long q1), .second, .val (.long q2), .second, .val (.int p3), .val (.int p4), .val (.int p5), .val (.int (p3 &&& (3 : Int32))), .val (.int v2), .val (.int v6), .val (.long v10), .second, .val (.long (q2 &&& v10)), .second, .val (.ref b12), .val (.long v22), .second, .val (.int ((v22 / (64 : Int64)).toInt32)), .val (.int v27), .unset] [(.long ((v10 <<< (v27 &&& 0x3f).toInt64) ^^^ (-1 : Int64))), (.long ((updF g18 3 (q1 ^^^ (-1 : Int64))) (((v22 / (64 : Int64)).toInt32)).toNatClampNeg)), (.int ((v22 / (64 : Int64)).toInt32)), (.ref b12)])) _
      refine XS.land Y20.here hx rfl (hb hby at_168) rfl ?_
      show Steps p.tables e below (T20.setTop (mkF m 169 #[.val (.long q0), .second, .val (.long q1), .second, .val (.long q2), .second, .val (.int p3), .val (.int p4), .val (.int p5), .val (.int (p3 &&& (3 : Int32))), .val (.int v2), .val (.int v6), .val (.long v10), .second, .val (.long (q2 &&& v10)), .second, .val (.ref b12), .val (.long v22), .second, .val (.int ((v22 / (64 : Int64)).toInt32)), .val (.int v27), .unset] [(.long (((updF g18 3 (q1 ^^^ (-1 : Int64))) (((v22 / (64 : Int64)).toInt32)).toNatClampNeg) &&& ((v10 <<< (v27 &&& 0x3f).toInt64) ^^^ (-1 : Int64)))), (.int ((v22 / (64 : Int64)).toInt32)), (.ref b12)])) _
      refine XS.lload Y20.here hx rfl (hb hby at_169) rfl ?_
      show Steps p.tables e below (T20.setTop (mkF m 171 #[.val (.long q0), .second, .val (.long q1), .second, .val (.long q2), .second, .val (.int p3), .val (.int p4), .val (.int p5), .val (.int (p3 &&& (3 : Int32))), .val (.int v2), .val (.int v6), .val (.long v10), .second, .val (.long (q2 &&& v10)), .second, .val (.ref b12), .val (.long v22), .second, .val (.int ((v22 / (64 : Int64)).toInt32)), .val (.int v27), .unset] [(.long (q2 &&& v10)), (.long (((updF g18 3 (q1 ^^^ (-1 : Int64))) (((v22 / (64 : Int64)).toInt32)).toNatClampNeg) &&& ((v10 <<< (v27 &&& 0x3f).toInt64) ^^^ (-1 : Int64)))), (.int ((v22 / (64 : Int64)).toInt32)), (.ref b12)])) _
      refine XS.iload Y20.here hx rfl (hb hby at_171) rfl ?_
      show Steps p.tables e below (T20.setTop (mkF m 173 #[.val (.long q0), .second, .val (.long q1), .second, .val (.long q2), .second, .val (.int p3), .val (.int p4), .val (.int p5), .val (.int (p3 &&& (3 : Int32))), .val (.int v2), .val (.int v6), .val (.long v10), .second, .val (.long (q2 &&& v10)), .second, .val (.ref b12), .val (.long v22), .second, .val (.int ((v22 / (64 : Int64)).toInt32)), .val (.int v27), .unset] [(.int v27), (.long (q2 &&& v10)), (.long (((updF g18 3 (q1 ^^^ (-1 : Int64))) (((v22 / (64 : Int64)).toInt32)).toNatClampNeg) &&& ((v10 <<< (v27 &&& 0x3f).toInt64) ^^^ (-1 : Int64)))), (.int ((v22 / (64 : Int64)).toInt32)), (.ref b12)])) _
      refine XS.lshl Y20.here hx rfl (hb hby at_173) rfl ?_
      show Steps p.tables e below (T20.setTop (mkF m 174 #[.val (.long q0), .second, .val (.long q1), .second, .val (.long q2), .second, .val (.int p3), .val (.int p4), .val (.int p5), .val (.int (p3 &&& (3 : Int32))), .val (.int v2), .val (.int v6), .val (.long v10), .second, .val (.long (q2 &&& v10)), .second, .val (.ref b12), .val (.long v22), .second, .val (.int ((v22 / (64 : Int64)).toInt32)), .val (.int v27), .unset] [(.long ((q2 &&& v10) <<< (v27 &&& 0x3f).toInt64)), (.long (((updF g18 3 (q1 ^^^ (-1 : Int64))) (((v22 / (64 : Int64)).toInt32)).toNatClampNeg) &&& ((v10 <<< (v27 &&& 0x3f).toInt64) ^^^ (-1 : Int64)))), (.int ((v22 / (64 : Int64)).toInt32)), (.ref b12)])) _
      refine XS.lor Y20.here hx rfl (hb hby at_174) rfl ?_
      show Steps p.tables e below (T20.setTop (mkF m 175 #[.val (.long q0), .second, .val (.long q1), .second, .val (.long q2), .second, .val (.int p3), .val (.int p4), .val (.int p5), .val (.int (p3 &&& (3 : Int32))), .val (.int v2), .val (.int v6), .val (.long v10), .second, .val (.long (q2 &&& v10)), .second, .val (.ref b12), .val (.long v22), .second, .val (.int ((v22 / (64 : Int64)).toInt32)), .val (.int v27), .unset] [(.long ((((updF g18 3 (q1 ^^^ (-1 : Int64))) (((v22 / (64 : Int64)).toInt32)).toNatClampNeg) &&& ((v10 <<< (v27 &&& 0x3f).toInt64) ^^^ (-1 : Int64))) ||| ((q2 &&& v10) <<< (v27 &&& 0x3f).toInt64))), (.int ((v22 / (64 : Int64)).toInt32)), (.ref b12)])) _
      exact k
    obtain ⟨v30, hv30⟩ : ∃ z : Int64, z = ((((updF g18 3 (q1 ^^^ (-1 : Int64))) (((v22 / (64 : Int64)).toInt32)).toNatClampNeg) &&& ((v10 <<< (v27 &&& 0x3f).toInt64) ^^^ (-1 : Int64))) ||| ((q2 &&& v10) <<< (v27 &&& 0x3f).toInt64)) := ⟨_, rfl⟩
    have pre30 : Lead p e below G (T20.setTop (mkF m 175 #[.val (.long q0), .second, .val (.long q1), .second, .val (.long q2), .second, .val (.int p3), .val (.int p4), .val (.int p5), .val (.int (p3 &&& (3 : Int32))), .val (.int v2), .val (.int v6), .val (.long v10), .second, .val (.long (q2 &&& v10)), .second, .val (.ref b12), .val (.long v22), .second, .val (.int ((v22 / (64 : Int64)).toInt32)), .val (.int v27), .unset] [(.long v30), (.int ((v22 / (64 : Int64)).toInt32)), (.ref b12)])) := by rw [hv30]; exact pre29
    obtain ⟨cl31, Ar31, hin31, -⟩ := V20.in (j := ((v22 / (64 : Int64)).toInt32)) (by subst hv30 hv27 hv22 hg18 hv10 hv6 hv2; exact (own_b1 p3 p4 p5 hs129_25))
    obtain ⟨T31, h31, X31, e31, W31, st31⟩ := stJ Y20 hx hZ e20 Ar31 (j := ((v22 / (64 : Int64)).toInt32)) hin31 (g := (mkF m 175 #[.val (.long q0), .second, .val (.long q1), .second, .val (.long q2), .second, .val (.int p3), .val (.int p4), .val (.int p5), .val (.int (p3 &&& (3 : Int32))), .val (.int v2), .val (.int v6), .val (.long v10), .second, .val (.long (q2 &&& v10)), .second, .val (.ref b12), .val (.long v22), .second, .val (.int ((v22 / (64 : Int64)).toInt32)), .val (.int v27), .unset] [(.long v30), (.int ((v22 / (64 : Int64)).toInt32)), (.ref b12)])) rfl rfl (hb hby at_175)
    have N31 := Fr.snoc X31 N20 ge12
    have K31 : Keep h0 h31 [] := K20.wr W31 (Or.inr sz12)
    obtain ⟨M31, Y31, N31⟩ : ∃ M, Stand p l e room_1 s m #[(.long q0), (.long q1), (.long q2), (.int p3), (.int p4), (.int p5)] below meth c T31 M 1 4 ∧ Fr n0 M := ⟨_, X31, N31⟩
    obtain ⟨g31, hg31⟩ : ∃ z, z = (updF (updF g18 3 (q1 ^^^ (-1 : Int64))) (((v22 / (64 : Int64)).toInt32)).toNatClampNeg v30) := ⟨_, rfl⟩
    have V31 : JV Value.long Z h31 b12 .long (4 : Int32) g31 := by rw [hg31]; exact V20.set W31
    have pre31 : Lead p e below G (T31.setTop (mkF m 176 #[.val (.long q0), .second, .val (.long q1), .second, .val (.long q2), .second, .val (.int p3), .val (.int p4), .val (.int p5), .val (.int (p3 &&& (3 : Int32))), .val (.int v2), .val (.int v6), .val (.long v10), .second, .val (.long (q2 &&& v10)), .second, .val (.ref b12), .val (.long v22), .second, .val (.int ((v22 / (64 : Int64)).toInt32)), .val (.int v27), .unset] [])) := fun t k => pre30 t (st31 _ k)
    have pre33 : Lead p e below G (T31.setTop (mkF m 183 #[.val (.long q0), .second, .val (.long q1), .second, .val (.long q2), .second, .val (.int p3), .val (.int p4), .val (.int p5), .val (.int (p3 &&& (3 : Int32))), .val (.int v2), .val (.int v6), .val (.long v10), .second, .val (.long (q2 &&& v10)), .second, .val (.ref b12), .val (.long v22), .second, .val (.int ((v22 / (64 : Int64)).toInt32)), .val (.int v27), .unset] [(.int (64 : Int32)), (.int (v27 + v2))])) := fun t k => by
      refine pre31 t ?_
      show Steps p.tables e below (T31.setTop (mkF m 176 #[.val (.long q0), .second, .val (.long q1), .second, .val (.long q2), .second, .val (.int p3), .val (.int p4), .val (.int p5), .val (.int (p3 &&& (3 : Int32))), .val (.int v2), .val (.int v6), .val (.long v10), .second, .val (.long (q2 &&& v10)), .second, .val (.ref b12), .val (.long v22), .second, .val (.int ((v22 / (64 : Int64)).toInt32)), .val (.int v27), .unset] [])) _
      refine XS.iload Y31.here hx rfl (hb hby at_176) rfl ?_
      show Steps p.tables e below (T31.setTop (mkF m 178 #[.val (.long q0), .second, .val (.long q1), .second, .val (.long q2), .second, .val (.int p3), .val (.int p4), .val (.int p5), .val (.int (p3 &&& (3 : Int32))), .val (.int v2), .val (.int v6), .val (.long v10), .second, .val (.long (q2 &&& v10)), .second, .val (.ref b12), .val (.long v22), .second, .val (.int ((v22 / (64 : Int64)).toInt32)), .val (.int v27), .unset] [(.int v27)])) _
      refine XS.iload Y31.here hx rfl (hb hby at_178) rfl ?_
      show Steps p.tables e below (T31.setTop (mkF m 180 #[.val (.long q0), .second, .val (.long q1), .second, .val (.long q2), .second, .val (.int p3), .val (.int p4), .val (.int p5), .val (.int (p3 &&& (3 : Int32))), .val (.int v2), .val (.int v6), .val (.long v10), .second, .val (.long (q2 &&& v10)), .second, .val (.ref b12), .val (.long v22), .second, .val (.int ((v22 / (64 : Int64)).toInt32)), .val (.int v27), .unset] [(.int v2), (.int v27)])) _
      refine XS.iadd Y31.here hx rfl (hb hby at_180) rfl ?_
      show Steps p.tables e below (T31.setTop (mkF m 181 #[.val (.long q0), .second, .val (.long q1), .second, .val (.long q2), .second, .val (.int p3), .val (.int p4), .val (.int p5), .val (.int (p3 &&& (3 : Int32))), .val (.int v2), .val (.int v6), .val (.long v10), .second, .val (.long (q2 &&& v10)), .second, .val (.ref b12), .val (.long v22), .second, .val (.int ((v22 / (64 : Int64)).toInt32)), .val (.int v27), .unset] [(.int (v27 + v2))])) _
      refine XS.bipush Y31.here hx rfl (hb hby at_181) ?_
      show Steps p.tables e below (T31.setTop (mkF m 183 #[.val (.long q0), .second, .val (.long q1), .second, .val (.long q2), .second, .val (.int p3), .val (.int p4), .val (.int p5), .val (.int (p3 &&& (3 : Int32))), .val (.int v2), .val (.int v6), .val (.long v10), .second, .val (.long (q2 &&& v10)), .second, .val (.ref b12), .val (.long v22), .second, .val (.int ((v22 / (64 : Int64)).toInt32)), .val (.int v27), .unset] [(.int (64 : Int32)), (.int (v27 + v2))])) _
      exact k
    by_cases hs183_34 : (64 : Int32) < (v27 + v2)
    · have pre35 : Lead p e below G (T31.setTop (mkF m 205 #[.val (.long q0), .second, .val (.long q1), .second, .val (.long q2), .second, .val (.int p3), .val (.int p4), .val (.int p5), .val (.int (p3 &&& (3 : Int32))), .val (.int v2), .val (.int v6), .val (.long v10), .second, .val (.long (q2 &&& v10)), .second, .val (.ref b12), .val (.long v22), .second, .val (.int ((v22 / (64 : Int64)).toInt32)), .val (.int v27), .val (.int ((64 : Int32) - v27))] [(.int (((v22 / (64 : Int64)).toInt32) + (1 : Int32))), (.ref b12), (.int (((v22 / (64 : Int64)).toInt32) + (1 : Int32))), (.ref b12)])) := fun t k => by
        refine pre33 t ?_
        show Steps p.tables e below (T31.setTop (mkF m 183 #[.val (.long q0), .second, .val (.long q1), .second, .val (.long q2), .second, .val (.int p3), .val (.int p4), .val (.int p5), .val (.int (p3 &&& (3 : Int32))), .val (.int v2), .val (.int v6), .val (.long v10), .second, .val (.long (q2 &&& v10)), .second, .val (.ref b12), .val (.long v22), .second, .val (.int ((v22 / (64 : Int64)).toInt32)), .val (.int v27), .unset] [(.int (64 : Int32)), (.int (v27 + v2))])) _
        refine XS.icmpNo Y31.here hx rfl (hb hby at_183) rfl (tlt hs183_34).2.2.2 ?_
        show Steps p.tables e below (T31.setTop (mkF m 186 #[.val (.long q0), .second, .val (.long q1), .second, .val (.long q2), .second, .val (.int p3), .val (.int p4), .val (.int p5), .val (.int (p3 &&& (3 : Int32))), .val (.int v2), .val (.int v6), .val (.long v10), .second, .val (.long (q2 &&& v10)), .second, .val (.ref b12), .val (.long v22), .second, .val (.int ((v22 / (64 : Int64)).toInt32)), .val (.int v27), .unset] [])) _
        refine XS.bipush Y31.here hx rfl (hb hby at_186) ?_
        show Steps p.tables e below (T31.setTop (mkF m 188 #[.val (.long q0), .second, .val (.long q1), .second, .val (.long q2), .second, .val (.int p3), .val (.int p4), .val (.int p5), .val (.int (p3 &&& (3 : Int32))), .val (.int v2), .val (.int v6), .val (.long v10), .second, .val (.long (q2 &&& v10)), .second, .val (.ref b12), .val (.long v22), .second, .val (.int ((v22 / (64 : Int64)).toInt32)), .val (.int v27), .unset] [(.int (64 : Int32))])) _
        refine XS.iload Y31.here hx rfl (hb hby at_188) rfl ?_
        show Steps p.tables e below (T31.setTop (mkF m 190 #[.val (.long q0), .second, .val (.long q1), .second, .val (.long q2), .second, .val (.int p3), .val (.int p4), .val (.int p5), .val (.int (p3 &&& (3 : Int32))), .val (.int v2), .val (.int v6), .val (.long v10), .second, .val (.long (q2 &&& v10)), .second, .val (.ref b12), .val (.long v22), .second, .val (.int ((v22 / (64 : Int64)).toInt32)), .val (.int v27), .unset] [(.int v27), (.int (64 : Int32))])) _
        refine XS.isub Y31.here hx rfl (hb hby at_190) rfl ?_
        show Steps p.tables e below (T31.setTop (mkF m 191 #[.val (.long q0), .second, .val (.long q1), .second, .val (.long q2), .second, .val (.int p3), .val (.int p4), .val (.int p5), .val (.int (p3 &&& (3 : Int32))), .val (.int v2), .val (.int v6), .val (.long v10), .second, .val (.long (q2 &&& v10)), .second, .val (.ref b12), .val (.long v22), .second, .val (.int ((v22 / (64 : Int64)).toInt32)), .val (.int v27), .unset] [(.int ((64 : Int32) - v27))])) _
        refine XS.istore Y31.here hx rfl (hb hby at_191) rfl (l' := #[.val (.long q0), .second, .val (.long q1), .second, .val (.long q2), .second, .val (.int p3), .val (.int p4), .val (.int p5), .val (.int (p3 &&& (3 : Int32))), .val (.int v2), .val (.int v6), .val (.long v10), .second, .val (.long (q2 &&& v10)), .second, .val (.ref b12), .val (.long v22), .second, .val (.int ((v22 / (64 : Int64)).toInt32)), .val (.int v27), .val (.int ((64 : Int32) - v27))]) rfl ?_
        show Steps p.tables e below (T31.setTop (mkF m 193 #[.val (.long q0), .second, .val (.long q1), .second, .val (.long q2), .second, .val (.int p3), .val (.int p4), .val (.int p5), .val (.int (p3 &&& (3 : Int32))), .val (.int v2), .val (.int v6), .val (.long v10), .second, .val (.long (q2 &&& v10)), .second, .val (.ref b12), .val (.long v22), .second, .val (.int ((v22 / (64 : Int64)).toInt32)), .val (.int v27), .val (.int ((64 : Int32) - v27))] [])) _
        refine XS.aload Y31.here hx rfl (hb hby at_193) rfl rfl ?_
        show Steps p.tables e below (T31.setTop (mkF m 195 #[.val (.long q0), .second, .val (.long q1), .second, .val (.long q2), .second, .val (.int p3), .val (.int p4), .val (.int p5), .val (.int (p3 &&& (3 : Int32))), .val (.int v2), .val (.int v6), .val (.long v10), .second, .val (.long (q2 &&& v10)), .second, .val (.ref b12), .val (.long v22), .second, .val (.int ((v22 / (64 : Int64)).toInt32)), .val (.int v27), .val (.int ((64 : Int32) - v27))] [(.ref b12)])) _
        refine XS.iload Y31.here hx rfl (hb hby at_195) rfl ?_
        show Steps p.tables e below (T31.setTop (mkF m 197 #[.val (.long q0), .second, .val (.long q1), .second, .val (.long q2), .second, .val (.int p3), .val (.int p4), .val (.int p5), .val (.int (p3 &&& (3 : Int32))), .val (.int v2), .val (.int v6), .val (.long v10), .second, .val (.long (q2 &&& v10)), .second, .val (.ref b12), .val (.long v22), .second, .val (.int ((v22 / (64 : Int64)).toInt32)), .val (.int v27), .val (.int ((64 : Int32) - v27))] [(.int ((v22 / (64 : Int64)).toInt32)), (.ref b12)])) _
        refine XS.iconst Y31.here hx rfl (hb hby at_197) ?_
        show Steps p.tables e below (T31.setTop (mkF m 198 #[.val (.long q0), .second, .val (.long q1), .second, .val (.long q2), .second, .val (.int p3), .val (.int p4), .val (.int p5), .val (.int (p3 &&& (3 : Int32))), .val (.int v2), .val (.int v6), .val (.long v10), .second, .val (.long (q2 &&& v10)), .second, .val (.ref b12), .val (.long v22), .second, .val (.int ((v22 / (64 : Int64)).toInt32)), .val (.int v27), .val (.int ((64 : Int32) - v27))] [(.int (1 : Int32)), (.int ((v22 / (64 : Int64)).toInt32)), (.ref b12)])) _
        refine XS.iadd Y31.here hx rfl (hb hby at_198) rfl ?_
        show Steps p.tables e below (T31.setTop (mkF m 199 #[.val (.long q0), .second, .val (.long q1), .second, .val (.long q2), .second, .val (.int p3), .val (.int p4), .val (.int p5), .val (.int (p3 &&& (3 : Int32))), .val (.int v2), .val (.int v6), .val (.long v10), .second, .val (.long (q2 &&& v10)), .second, .val (.ref b12), .val (.long v22), .second, .val (.int ((v22 / (64 : Int64)).toInt32)), .val (.int v27), .val (.int ((64 : Int32) - v27))] [(.int (((v22 / (64 : Int64)).toInt32) + (1 : Int32))), (.ref b12)])) _
        refine XS.aload Y31.here hx rfl (hb hby at_199) rfl rfl ?_
        show Steps p.tables e below (T31.setTop (mkF m 201 #[.val (.long q0), .second, .val (.long q1), .second, .val (.long q2), .second, .val (.int p3), .val (.int p4), .val (.int p5), .val (.int (p3 &&& (3 : Int32))), .val (.int v2), .val (.int v6), .val (.long v10), .second, .val (.long (q2 &&& v10)), .second, .val (.ref b12), .val (.long v22), .second, .val (.int ((v22 / (64 : Int64)).toInt32)), .val (.int v27), .val (.int ((64 : Int32) - v27))] [(.ref b12), (.int (((v22 / (64 : Int64)).toInt32) + (1 : Int32))), (.ref b12)])) _
        refine XS.iload Y31.here hx rfl (hb hby at_201) rfl ?_
        show Steps p.tables e below (T31.setTop (mkF m 203 #[.val (.long q0), .second, .val (.long q1), .second, .val (.long q2), .second, .val (.int p3), .val (.int p4), .val (.int p5), .val (.int (p3 &&& (3 : Int32))), .val (.int v2), .val (.int v6), .val (.long v10), .second, .val (.long (q2 &&& v10)), .second, .val (.ref b12), .val (.long v22), .second, .val (.int ((v22 / (64 : Int64)).toInt32)), .val (.int v27), .val (.int ((64 : Int32) - v27))] [(.int ((v22 / (64 : Int64)).toInt32)), (.ref b12), (.int (((v22 / (64 : Int64)).toInt32) + (1 : Int32))), (.ref b12)])) _
        refine XS.iconst Y31.here hx rfl (hb hby at_203) ?_
        show Steps p.tables e below (T31.setTop (mkF m 204 #[.val (.long q0), .second, .val (.long q1), .second, .val (.long q2), .second, .val (.int p3), .val (.int p4), .val (.int p5), .val (.int (p3 &&& (3 : Int32))), .val (.int v2), .val (.int v6), .val (.long v10), .second, .val (.long (q2 &&& v10)), .second, .val (.ref b12), .val (.long v22), .second, .val (.int ((v22 / (64 : Int64)).toInt32)), .val (.int v27), .val (.int ((64 : Int32) - v27))] [(.int (1 : Int32)), (.int ((v22 / (64 : Int64)).toInt32)), (.ref b12), (.int (((v22 / (64 : Int64)).toInt32) + (1 : Int32))), (.ref b12)])) _
        refine XS.iadd Y31.here hx rfl (hb hby at_204) rfl ?_
        show Steps p.tables e below (T31.setTop (mkF m 205 #[.val (.long q0), .second, .val (.long q1), .second, .val (.long q2), .second, .val (.int p3), .val (.int p4), .val (.int p5), .val (.int (p3 &&& (3 : Int32))), .val (.int v2), .val (.int v6), .val (.long v10), .second, .val (.long (q2 &&& v10)), .second, .val (.ref b12), .val (.long v22), .second, .val (.int ((v22 / (64 : Int64)).toInt32)), .val (.int v27), .val (.int ((64 : Int32) - v27))] [(.int (((v22 / (64 : Int64)).toInt32) + (1 : Int32))), (.ref b12), (.int (((v22 / (64 : Int64)).toInt32) + (1 : Int32))), (.ref b12)])) _
        exact k
      obtain ⟨v36, hv36⟩ : ∃ z : Int32, z = (((v22 / (64 : Int64)).toInt32) + (1 : Int32)) := ⟨_, rfl⟩
      have pre36 : Lead p e below G (T31.setTop (mkF m 205 #[.val (.long q0), .second, .val (.long q1), .second, .val (.long q2), .second, .val (.int p3), .val (.int p4), .val (.int p5), .val (.int (p3 &&& (3 : Int32))), .val (.int v2), .val (.int v6), .val (.long v10), .second, .val (.long (q2 &&& v10)), .second, .val (.ref b12), .val (.long v22), .second, .val (.int ((v22 / (64 : Int64)).toInt32)), .val (.int v27), .val (.int ((64 : Int32) - v27))] [(.int v36), (.ref b12), (.int v36), (.ref b12)])) := by rw [hv36]; exact pre35
      obtain ⟨cl37, Ar37, hin37, hat37⟩ := V31.in (j := v36) (by subst hv36 hg31 hv30 hv27 hv22 hg18 hv10 hv6 hv2; exact (own_b2 p3 p4 p5 hs129_25 hs183_34))
      have st37 := Y31.laload hx (j := v36) (v := (.long (g31 (v36).toNatClampNeg))) (by rw [e31]; exact Ar37.1) (State.isArrayOf_alike hZ.alike Ar37.2.1) Ar37.2.2 hin37 hat37 (g := (mkF m 205 #[.val (.long q0), .second, .val (.long q1), .second, .val (.long q2), .second, .val (.int p3), .val (.int p4), .val (.int p5), .val (.int (p3 &&& (3 : Int32))), .val (.int v2), .val (.int v6), .val (.long v10), .second, .val (.long (q2 &&& v10)), .second, .val (.ref b12), .val (.long v22), .second, .val (.int ((v22 / (64 : Int64)).toInt32)), .val (.int v27), .val (.int ((64 : Int32) - v27))] [(.int v36), (.ref b12), (.int v36), (.ref b12)])) rfl rfl (hb hby at_205)
      have pre37 : Lead p e below G (T31.setTop (mkF m 206 #[.val (.long q0), .second, .val (.long q1), .second, .val (.long q2), .second, .val (.int p3), .val (.int p4), .val (.int p5), .val (.int (p3 &&& (3 : Int32))), .val (.int v2), .val (.int v6), .val (.long v10), .second, .val (.long (q2 &&& v10)), .second, .val (.ref b12), .val (.long v22), .second, .val (.int ((v22 / (64 : Int64)).toInt32)), .val (.int v27), .val (.int ((64 : Int32) - v27))] [(.long (g31 (v36).toNatClampNeg)), (.int v36), (.ref b12)])) := fun t k => pre36 t (st37 _ k)
      have pre38 : Lead p e below G (T31.setTop (mkF m 222 #[.val (.long q0), .second, .val (.long q1), .second, .val (.long q2), .second, .val (.int p3), .val (.int p4), .val (.int p5), .val (.int (p3 &&& (3 : Int32))), .val (.int v2), .val (.int v6), .val (.long v10), .second, .val (.long (q2 &&& v10)), .second, .val (.ref b12), .val (.long v22), .second, .val (.int ((v22 / (64 : Int64)).toInt32)), .val (.int v27), .val (.int ((64 : Int32) - v27))] [(.long (((g31 (v36).toNatClampNeg) &&& (((v10.toUInt64 >>> (((64 : Int32) - v27) &&& 0x3f).toInt64.toUInt64).toInt64) ^^^ (-1 : Int64))) ||| (((q2 &&& v10).toUInt64 >>> (((64 : Int32) - v27) &&& 0x3f).toInt64.toUInt64).toInt64))), (.int v36), (.ref b12)])) := fun t k => by
        refine pre37 t ?_
        show Steps p.tables e below (T31.setTop (mkF m 206 #[.val (.long q0), .second, .val (.long q1), .second, .val (.long q2), .second, .val (.int p3), .val (.int p4), .val (.int p5), .val (.int (p3 &&& (3 : Int32))), .val (.int v2), .val (.int v6), .val (.long v10), .second, .val (.long (q2 &&& v10)), .second, .val (.ref b12), .val (.long v22), .second, .val (.int ((v22 / (64 : Int64)).toInt32)), .val (.int v27), .val (.int ((64 : Int32) - v27))] [(.long (g31 (v36).toNatClampNeg)), (.int v36), (.ref b12)])) _
        refine XS.lload Y31.here hx rfl (hb hby at_206) rfl ?_
        show Steps p.tables e below (T31.setTop (mkF m 208 #[.val (.long q0), .second, .val (.long q1), .second, .val (.long q2), .second, .val (.int p3), .val (.int p4), .val (.int p5), .val (.int (p3 &&& (3 : Int32))), .val (.int v2), .val (.int v6), .val (.long v10), .second, .val (.long (q2 &&& v10)), .second, .val (.ref b12), .val (.long v22), .second, .val (.int ((v22 / (64 : Int64)).toInt32)), .val (.int v27), .val (.int ((64 : Int32) - v27))] [(.long v10), (.long (g31 (v36).toNatClampNeg)), (.int v36), (.ref b12)])) _
        refine XS.iload Y31.here hx rfl (hb hby at_208) rfl ?_
        show Steps p.tables e below (T31.setTop (mkF m 210 #[.val (.long q0), .second, .val (.long q1), .second, .val (.long q2), .second, .val (.int p3), .val (.int p4), .val (.int p5), .val (.int (p3 &&& (3 : Int32))), .val (.int v2), .val (.int v6), .val (.long v10), .second, .val (.long (q2 &&& v10)), .second, .val (.ref b12), .val (.long v22), .second, .val (.int ((v22 / (64 : Int64)).toInt32)), .val (.int v27), .val (.int ((64 : Int32) - v27))] [(.int ((64 : Int32) - v27)), (.long v10), (.long (g31 (v36).toNatClampNeg)), (.int v36), (.ref b12)])) _
        refine XS.lushr Y31.here hx rfl (hb hby at_210) rfl ?_
        show Steps p.tables e below (T31.setTop (mkF m 211 #[.val (.long q0), .second, .val (.long q1), .second, .val (.long q2), .second, .val (.int p3), .val (.int p4), .val (.int p5), .val (.int (p3 &&& (3 : Int32))), .val (.int v2), .val (.int v6), .val (.long v10), .second, .val (.long (q2 &&& v10)), .second, .val (.ref b12), .val (.long v22), .second, .val (.int ((v22 / (64 : Int64)).toInt32)), .val (.int v27), .val (.int ((64 : Int32) - v27))] [(.long ((v10.toUInt64 >>> (((64 : Int32) - v27) &&& 0x3f).toInt64.toUInt64).toInt64)), (.long (g31 (v36).toNatClampNeg)), (.int v36), (.ref b12)])) _
        refine Y31.ldc2Long hx hown (mvT hZ (hw _ (List.mem_of_getElem? (i := 2) rfl))) (g := (mkF m 211 #[.val (.long q0), .second, .val (.long q1), .second, .val (.long q2), .second, .val (.int p3), .val (.int p4), .val (.int p5), .val (.int (p3 &&& (3 : Int32))), .val (.int v2), .val (.int v6), .val (.long v10), .second, .val (.long (q2 &&& v10)), .second, .val (.ref b12), .val (.long v22), .second, .val (.int ((v22 / (64 : Int64)).toInt32)), .val (.int v27), .val (.int ((64 : Int32) - v27))] [(.long ((v10.toUInt64 >>> (((64 : Int32) - v27) &&& 0x3f).toInt64.toUInt64).toInt64)), (.long (g31 (v36).toNatClampNeg)), (.int v36), (.ref b12)])) rfl (hb hby at_211) _ ?_
        show Steps p.tables e below (T31.setTop (mkF m 214 #[.val (.long q0), .second, .val (.long q1), .second, .val (.long q2), .second, .val (.int p3), .val (.int p4), .val (.int p5), .val (.int (p3 &&& (3 : Int32))), .val (.int v2), .val (.int v6), .val (.long v10), .second, .val (.long (q2 &&& v10)), .second, .val (.ref b12), .val (.long v22), .second, .val (.int ((v22 / (64 : Int64)).toInt32)), .val (.int v27), .val (.int ((64 : Int32) - v27))] [(.long (-1 : Int64)), (.long ((v10.toUInt64 >>> (((64 : Int32) - v27) &&& 0x3f).toInt64.toUInt64).toInt64)), (.long (g31 (v36).toNatClampNeg)), (.int v36), (.ref b12)])) _
        refine XS.lxor Y31.here hx rfl (hb hby at_214) rfl ?_
        show Steps p.tables e below (T31.setTop (mkF m 215 #[.val (.long q0), .second, .val (.long q1), .second, .val (.long q2), .second, .val (.int p3), .val (.int p4), .val (.int p5), .val (.int (p3 &&& (3 : Int32))), .val (.int v2), .val (.int v6), .val (.long v10), .second, .val (.long (q2 &&& v10)), .second, .val (.ref b12), .val (.long v22), .second, .val (.int ((v22 / (64 : Int64)).toInt32)), .val (.int v27), .val (.int ((64 : Int32) - v27))] [(.long (((v10.toUInt64 >>> (((64 : Int32) - v27) &&& 0x3f).toInt64.toUInt64).toInt64) ^^^ (-1 : Int64))), (.long (g31 (v36).toNatClampNeg)), (.int v36), (.ref b12)])) _
        refine XS.land Y31.here hx rfl (hb hby at_215) rfl ?_
        show Steps p.tables e below (T31.setTop (mkF m 216 #[.val (.long q0), .second, .val (.long q1), .second, .val (.long q2), .second, .val (.int p3), .val (.int p4), .val (.int p5), .val (.int (p3 &&& (3 : Int32))), .val (.int v2), .val (.int v6), .val (.long v10), .second, .val (.long (q2 &&& v10)), .second, .val (.ref b12), .val (.long v22), .second, .val (.int ((v22 / (64 : Int64)).toInt32)), .val (.int v27), .val (.int ((64 : Int32) - v27))] [(.long ((g31 (v36).toNatClampNeg) &&& (((v10.toUInt64 >>> (((64 : Int32) - v27) &&& 0x3f).toInt64.toUInt64).toInt64) ^^^ (-1 : Int64)))), (.int v36), (.ref b12)])) _
        refine XS.lload Y31.here hx rfl (hb hby at_216) rfl ?_
        show Steps p.tables e below (T31.setTop (mkF m 218 #[.val (.long q0), .second, .val (.long q1), .second, .val (.long q2), .second, .val (.int p3), .val (.int p4), .val (.int p5), .val (.int (p3 &&& (3 : Int32))), .val (.int v2), .val (.int v6), .val (.long v10), .second, .val (.long (q2 &&& v10)), .second, .val (.ref b12), .val (.long v22), .second, .val (.int ((v22 / (64 : Int64)).toInt32)), .val (.int v27), .val (.int ((64 : Int32) - v27))] [(.long (q2 &&& v10)), (.long ((g31 (v36).toNatClampNeg) &&& (((v10.toUInt64 >>> (((64 : Int32) - v27) &&& 0x3f).toInt64.toUInt64).toInt64) ^^^ (-1 : Int64)))), (.int v36), (.ref b12)])) _
        refine XS.iload Y31.here hx rfl (hb hby at_218) rfl ?_
        show Steps p.tables e below (T31.setTop (mkF m 220 #[.val (.long q0), .second, .val (.long q1), .second, .val (.long q2), .second, .val (.int p3), .val (.int p4), .val (.int p5), .val (.int (p3 &&& (3 : Int32))), .val (.int v2), .val (.int v6), .val (.long v10), .second, .val (.long (q2 &&& v10)), .second, .val (.ref b12), .val (.long v22), .second, .val (.int ((v22 / (64 : Int64)).toInt32)), .val (.int v27), .val (.int ((64 : Int32) - v27))] [(.int ((64 : Int32) - v27)), (.long (q2 &&& v10)), (.long ((g31 (v36).toNatClampNeg) &&& (((v10.toUInt64 >>> (((64 : Int32) - v27) &&& 0x3f).toInt64.toUInt64).toInt64) ^^^ (-1 : Int64)))), (.int v36), (.ref b12)])) _
        refine XS.lushr Y31.here hx rfl (hb hby at_220) rfl ?_
        show Steps p.tables e below (T31.setTop (mkF m 221 #[.val (.long q0), .second, .val (.long q1), .second, .val (.long q2), .second, .val (.int p3), .val (.int p4), .val (.int p5), .val (.int (p3 &&& (3 : Int32))), .val (.int v2), .val (.int v6), .val (.long v10), .second, .val (.long (q2 &&& v10)), .second, .val (.ref b12), .val (.long v22), .second, .val (.int ((v22 / (64 : Int64)).toInt32)), .val (.int v27), .val (.int ((64 : Int32) - v27))] [(.long (((q2 &&& v10).toUInt64 >>> (((64 : Int32) - v27) &&& 0x3f).toInt64.toUInt64).toInt64)), (.long ((g31 (v36).toNatClampNeg) &&& (((v10.toUInt64 >>> (((64 : Int32) - v27) &&& 0x3f).toInt64.toUInt64).toInt64) ^^^ (-1 : Int64)))), (.int v36), (.ref b12)])) _
        refine XS.lor Y31.here hx rfl (hb hby at_221) rfl ?_
        show Steps p.tables e below (T31.setTop (mkF m 222 #[.val (.long q0), .second, .val (.long q1), .second, .val (.long q2), .second, .val (.int p3), .val (.int p4), .val (.int p5), .val (.int (p3 &&& (3 : Int32))), .val (.int v2), .val (.int v6), .val (.long v10), .second, .val (.long (q2 &&& v10)), .second, .val (.ref b12), .val (.long v22), .second, .val (.int ((v22 / (64 : Int64)).toInt32)), .val (.int v27), .val (.int ((64 : Int32) - v27))] [(.long (((g31 (v36).toNatClampNeg) &&& (((v10.toUInt64 >>> (((64 : Int32) - v27) &&& 0x3f).toInt64.toUInt64).toInt64) ^^^ (-1 : Int64))) ||| (((q2 &&& v10).toUInt64 >>> (((64 : Int32) - v27) &&& 0x3f).toInt64.toUInt64).toInt64))), (.int v36), (.ref b12)])) _
        exact k
      obtain ⟨v39, hv39⟩ : ∃ z : Int64, z = (((g31 (v36).toNatClampNeg) &&& (((v10.toUInt64 >>> (((64 : Int32) - v27) &&& 0x3f).toInt64.toUInt64).toInt64) ^^^ (-1 : Int64))) ||| (((q2 &&& v10).toUInt64 >>> (((64 : Int32) - v27) &&& 0x3f).toInt64.toUInt64).toInt64)) := ⟨_, rfl⟩
      have pre39 : Lead p e below G (T31.setTop (mkF m 222 #[.val (.long q0), .second, .val (.long q1), .second, .val (.long q2), .second, .val (.int p3), .val (.int p4), .val (.int p5), .val (.int (p3 &&& (3 : Int32))), .val (.int v2), .val (.int v6), .val (.long v10), .second, .val (.long (q2 &&& v10)), .second, .val (.ref b12), .val (.long v22), .second, .val (.int ((v22 / (64 : Int64)).toInt32)), .val (.int v27), .val (.int ((64 : Int32) - v27))] [(.long v39), (.int v36), (.ref b12)])) := by rw [hv39]; exact pre38
      obtain ⟨cl40, Ar40, hin40, -⟩ := V31.in (j := v36) (by subst hv39 hv36 hg31 hv30 hv27 hv22 hg18 hv10 hv6 hv2; exact (own_b2 p3 p4 p5 hs129_25 hs183_34))
      obtain ⟨T40, h40, X40, e40, W40, st40⟩ := stJ Y31 hx hZ e31 Ar40 (j := v36) hin40 (g := (mkF m 222 #[.val (.long q0), .second, .val (.long q1), .second, .val (.long q2), .second, .val (.int p3), .val (.int p4), .val (.int p5), .val (.int (p3 &&& (3 : Int32))), .val (.int v2), .val (.int v6), .val (.long v10), .second, .val (.long (q2 &&& v10)), .second, .val (.ref b12), .val (.long v22), .second, .val (.int ((v22 / (64 : Int64)).toInt32)), .val (.int v27), .val (.int ((64 : Int32) - v27))] [(.long v39), (.int v36), (.ref b12)])) rfl rfl (hb hby at_222)
      have N40 := Fr.snoc X40 N31 ge12
      have K40 : Keep h0 h40 [] := K31.wr W40 (Or.inr sz12)
      obtain ⟨M40, Y40, N40⟩ : ∃ M, Stand p l e room_1 s m #[(.long q0), (.long q1), (.long q2), (.int p3), (.int p4), (.int p5)] below meth c T40 M 1 4 ∧ Fr n0 M := ⟨_, X40, N40⟩
      have V40 : JV Value.long Z h40 b12 .long (4 : Int32) (updF g31 (v36).toNatClampNeg v39) := V31.set W40
      have pre40 : Lead p e below G (T40.setTop (mkF m 223 #[.val (.long q0), .second, .val (.long q1), .second, .val (.long q2), .second, .val (.int p3), .val (.int p4), .val (.int p5), .val (.int (p3 &&& (3 : Int32))), .val (.int v2), .val (.int v6), .val (.long v10), .second, .val (.long (q2 &&& v10)), .second, .val (.ref b12), .val (.long v22), .second, .val (.int ((v22 / (64 : Int64)).toInt32)), .val (.int v27), .val (.int ((64 : Int32) - v27))] [])) := fun t k => pre39 t (st40 _ k)
      have pre41 : Lead p e below G (T40.setTop (mkF m 231 #[.val (.long q0), .second, .val (.long q1), .second, .val (.long q2), .second, .val (.int p3), .val (.int p4), .val (.int p5), .val (.int (p3 &&& (3 : Int32))), .val (.int v2), .val (.int v6), .val (.long v10), .second, .val (.long (q2 &&& v10)), .second, .val (.ref b12), .val (.long v22), .second, .val (.int ((v22 / (64 : Int64)).toInt32)), .val (.int v27), .val (.int ((64 : Int32) - v27))] [(.int v6), (.int v2), (.int (p3 &&& (3 : Int32))), (.ref b12)])) := fun t k => by
        refine pre40 t ?_
        show Steps p.tables e below (T40.setTop (mkF m 223 #[.val (.long q0), .second, .val (.long q1), .second, .val (.long q2), .second, .val (.int p3), .val (.int p4), .val (.int p5), .val (.int (p3 &&& (3 : Int32))), .val (.int v2), .val (.int v6), .val (.long v10), .second, .val (.long (q2 &&& v10)), .second, .val (.ref b12), .val (.long v22), .second, .val (.int ((v22 / (64 : Int64)).toInt32)), .val (.int v27), .val (.int ((64 : Int32) - v27))] [])) _
        refine XS.aload Y40.here hx rfl (hb hby at_223) rfl rfl ?_
        show Steps p.tables e below (T40.setTop (mkF m 225 #[.val (.long q0), .second, .val (.long q1), .second, .val (.long q2), .second, .val (.int p3), .val (.int p4), .val (.int p5), .val (.int (p3 &&& (3 : Int32))), .val (.int v2), .val (.int v6), .val (.long v10), .second, .val (.long (q2 &&& v10)), .second, .val (.ref b12), .val (.long v22), .second, .val (.int ((v22 / (64 : Int64)).toInt32)), .val (.int v27), .val (.int ((64 : Int32) - v27))] [(.ref b12)])) _
        refine XS.iload Y40.here hx rfl (hb hby at_225) rfl ?_
        show Steps p.tables e below (T40.setTop (mkF m 227 #[.val (.long q0), .second, .val (.long q1), .second, .val (.long q2), .second, .val (.int p3), .val (.int p4), .val (.int p5), .val (.int (p3 &&& (3 : Int32))), .val (.int v2), .val (.int v6), .val (.long v10), .second, .val (.long (q2 &&& v10)), .second, .val (.ref b12), .val (.long v22), .second, .val (.int ((v22 / (64 : Int64)).toInt32)), .val (.int v27), .val (.int ((64 : Int32) - v27))] [(.int (p3 &&& (3 : Int32))), (.ref b12)])) _
        refine XS.iload Y40.here hx rfl (hb hby at_227) rfl ?_
        show Steps p.tables e below (T40.setTop (mkF m 229 #[.val (.long q0), .second, .val (.long q1), .second, .val (.long q2), .second, .val (.int p3), .val (.int p4), .val (.int p5), .val (.int (p3 &&& (3 : Int32))), .val (.int v2), .val (.int v6), .val (.long v10), .second, .val (.long (q2 &&& v10)), .second, .val (.ref b12), .val (.long v22), .second, .val (.int ((v22 / (64 : Int64)).toInt32)), .val (.int v27), .val (.int ((64 : Int32) - v27))] [(.int v2), (.int (p3 &&& (3 : Int32))), (.ref b12)])) _
        refine XS.iload Y40.here hx rfl (hb hby at_229) rfl ?_
        show Steps p.tables e below (T40.setTop (mkF m 231 #[.val (.long q0), .second, .val (.long q1), .second, .val (.long q2), .second, .val (.int p3), .val (.int p4), .val (.int p5), .val (.int (p3 &&& (3 : Int32))), .val (.int v2), .val (.int v6), .val (.long v10), .second, .val (.long (q2 &&& v10)), .second, .val (.ref b12), .val (.long v22), .second, .val (.int ((v22 / (64 : Int64)).toInt32)), .val (.int v27), .val (.int ((64 : Int32) - v27))] [(.int v6), (.int v2), (.int (p3 &&& (3 : Int32))), (.ref b12)])) _
        exact k
      obtain ⟨_, _, ⟨T42, L42, k42, n42⟩, -, X42, ⟨Lc42, hQ42, l42, y42, z42⟩, st42⟩ := Jvm.LawKit.callS Y40 hx (y := (⟨"com/example/findwright/findwright/PackedInts", "read", "([JIII)J"⟩ : MethodName)) hown (mvT hZ (hw _ (List.mem_of_getElem? (i := 4) rfl))) (mvT hZ (hw _ (List.mem_of_getElem? (i := 5) rfl))) (mvT hZ (hw _ (List.mem_of_getElem? (i := 6) rfl))) (mvT hZ (hw _ (List.mem_of_getElem? (i := 7) rfl))) (by decide) (backOf (W := 0) (rm1 l Z a0 hw [] b12 (p3 &&& (3 : Int32)) v2 v6 (4 : Int32) (updF g31 (v36).toNatClampNeg v39) h40 n0 (Nat.le_trans Z0 K40.1) V40 (show (0 : Int32) < v2 → ¬ rdWord (p3 &&& (3 : Int32)) v2 v6 < 0 ∧ rdWord (p3 &&& (3 : Int32)) v2 v6 < (4 : Int32) from (by subst hv39 hv36 hg31 hv30 hv27 hv22 hg18 hv10 hv6 hv2; exact (own_r1 p3 p4 p5))) (show (0 : Int32) < v2 → (64 : Int32) < rdShift (p3 &&& (3 : Int32)) v2 v6 + v2 → ¬ rdWord (p3 &&& (3 : Int32)) v2 v6 + 1 < 0 ∧ rdWord (p3 &&& (3 : Int32)) v2 v6 + 1 < (4 : Int32) from (by subst hv39 hv36 hg31 hv30 hv27 hv22 hg18 hv10 hv6 hv2; exact (own_r2 p3 p4 p5)))) hZ (hw _ (List.mem_of_getElem? (i := 7) rfl)) (hw _ (List.mem_of_getElem? (i := 6) rfl)) (by decide) (by decide)) (g := (mkF m 231 #[.val (.long q0), .second, .val (.long q1), .second, .val (.long q2), .second, .val (.int p3), .val (.int p4), .val (.int p5), .val (.int (p3 &&& (3 : Int32))), .val (.int v2), .val (.int v6), .val (.long v10), .second, .val (.long (q2 &&& v10)), .second, .val (.ref b12), .val (.long v22), .second, .val (.int ((v22 / (64 : Int64)).toInt32)), .val (.int v27), .val (.int ((64 : Int32) - v27))] [(.int v6), (.int v2), (.int (p3 &&& (3 : Int32))), (.ref b12)])) rfl (by rw [hml]; rfl) (argsL := [(.ref b12), (.int (p3 &&& (3 : Int32))), (.int v2), (.int v6)]) (rest := []) (lenOf pd__28__5b_JIII_29_J rfl) rfl (by show 2 * 0 + _ ≤ _; exact Nat.le_of_eq rfl) (hb hby at_231) (fun _ _ => ⟨rfl, e40, (by decide : 1 + 0 ≤ _), (by decide : 4 + 0 ≤ _)⟩)
      dsimp only [Pt.U, Pt.locs, Pt.cells, Pt.slots] at X42 l42 y42 z42 st42 hQ42
      subst l42 y42 z42
      obtain ⟨rfl, N42q, e42⟩ := hQ42
      have N42 := Fr.app N40 N42q
      obtain ⟨M42, Y42, N42⟩ : ∃ M, Stand p l e room_1 s m #[(.long q0), (.long q1), (.long q2), (.int p3), (.int p4), (.int p5)] below meth c T42 M 1 4 ∧ Fr n0 M := ⟨_, X42, N42⟩
      have pre42 : Lead p e below G (T42.setTop (mkF m 234 #[.val (.long q0), .second, .val (.long q1), .second, .val (.long q2), .second, .val (.int p3), .val (.int p4), .val (.int p5), .val (.int (p3 &&& (3 : Int32))), .val (.int v2), .val (.int v6), .val (.long v10), .second, .val (.long (q2 &&& v10)), .second, .val (.ref b12), .val (.long v22), .second, .val (.int ((v22 / (64 : Int64)).toInt32)), .val (.int v27), .val (.int ((64 : Int32) - v27))] [(.long (F1 (p3 &&& (3 : Int32)) v2 v6 (updF g31 (v36).toNatClampNeg v39)))])) := fun t k => pre41 t (st42 _ k)
      have pre45 : Lead p e below G (T42.setTop (mkF m 245 #[.val (.long q0), .second, .val (.long q1), .second, .val (.long q2), .second, .val (.int p3), .val (.int p4), .val (.int p5), .val (.int (p3 &&& (3 : Int32))), .val (.int v2), .val (.int v6), .val (.long v10), .second, .val (.long (q2 &&& v10)), .second, .val (.ref b12), .val (.long v22), .second, .val (.int ((v22 / (64 : Int64)).toInt32)), .val (.int v27), .val (.int ((64 : Int32) - v27))] [(.int (if (F1 (p3 &&& (3 : Int32)) v2 v6 (updF g31 (v36).toNatClampNeg v39)) = (q2 &&& v10) then (1 : Int32) else (0 : Int32)))])) := fun t k => by
        refine pre42 t ?_
        show Steps p.tables e below (T42.setTop (mkF m 234 #[.val (.long q0), .second, .val (.long q1), .second, .val (.long q2), .second, .val (.int p3), .val (.int p4), .val (.int p5), .val (.int (p3 &&& (3 : Int32))), .val (.int v2), .val (.int v6), .val (.long v10), .second, .val (.long (q2 &&& v10)), .second, .val (.ref b12), .val (.long v22), .second, .val (.int ((v22 / (64 : Int64)).toInt32)), .val (.int v27), .val (.int ((64 : Int32) - v27))] [(.long (F1 (p3 &&& (3 : Int32)) v2 v6 (updF g31 (v36).toNatClampNeg v39)))])) _
        refine XS.lload Y42.here hx rfl (hb hby at_234) rfl ?_
        show Steps p.tables e below (T42.setTop (mkF m 236 #[.val (.long q0), .second, .val (.long q1), .second, .val (.long q2), .second, .val (.int p3), .val (.int p4), .val (.int p5), .val (.int (p3 &&& (3 : Int32))), .val (.int v2), .val (.int v6), .val (.long v10), .second, .val (.long (q2 &&& v10)), .second, .val (.ref b12), .val (.long v22), .second, .val (.int ((v22 / (64 : Int64)).toInt32)), .val (.int v27), .val (.int ((64 : Int32) - v27))] [(.long (q2 &&& v10)), (.long (F1 (p3 &&& (3 : Int32)) v2 v6 (updF g31 (v36).toNatClampNeg v39)))])) _
        refine XS.lcmp Y42.here hx rfl (hb hby at_236) rfl ?_
        show Steps p.tables e below (T42.setTop (mkF m 237 #[.val (.long q0), .second, .val (.long q1), .second, .val (.long q2), .second, .val (.int p3), .val (.int p4), .val (.int p5), .val (.int (p3 &&& (3 : Int32))), .val (.int v2), .val (.int v6), .val (.long v10), .second, .val (.long (q2 &&& v10)), .second, .val (.ref b12), .val (.long v22), .second, .val (.int ((v22 / (64 : Int64)).toInt32)), .val (.int v27), .val (.int ((64 : Int32) - v27))] [(.int (lcmpW (F1 (p3 &&& (3 : Int32)) v2 v6 (updF g31 (v36).toNatClampNeg v39)) (q2 &&& v10)))])) _
        have j44 : ∀ t, Steps p.tables e below (T42.setTop (mkF m 245 #[.val (.long q0), .second, .val (.long q1), .second, .val (.long q2), .second, .val (.int p3), .val (.int p4), .val (.int p5), .val (.int (p3 &&& (3 : Int32))), .val (.int v2), .val (.int v6), .val (.long v10), .second, .val (.long (q2 &&& v10)), .second, .val (.ref b12), .val (.long v22), .second, .val (.int ((v22 / (64 : Int64)).toInt32)), .val (.int v27), .val (.int ((64 : Int32) - v27))] [(.int (if (F1 (p3 &&& (3 : Int32)) v2 v6 (updF g31 (v36).toNatClampNeg v39)) = (q2 &&& v10) then (1 : Int32) else (0 : Int32)))])) t → Steps p.tables e below (T42.setTop (mkF m 237 #[.val (.long q0), .second, .val (.long q1), .second, .val (.long q2), .second, .val (.int p3), .val (.int p4), .val (.int p5), .val (.int (p3 &&& (3 : Int32))), .val (.int v2), .val (.int v6), .val (.long v10), .second, .val (.long (q2 &&& v10)), .second, .val (.ref b12), .val (.long v22), .second, .val (.int ((v22 / (64 : Int64)).toInt32)), .val (.int v27), .val (.int ((64 : Int32) - v27))] [(.int (lcmpW (F1 (p3 &&& (3 : Int32)) v2 v6 (updF g31 (v36).toNatClampNeg v39)) (q2 &&& v10)))])) t := fun t k => by
          by_cases hc237_43 : (F1 (p3 &&& (3 : Int32)) v2 v6 (updF g31 (v36).toNatClampNeg v39)) = (q2 &&& v10)
          · simp only [if_pos hc237_43] at k
            refine XS.ifNo Y42.here hx rfl (hb hby at_237) rfl ((if0 _ _).trans (teq (own_lc_eq.mpr hc237_43)).2) ?_
            show Steps p.tables e below (T42.setTop (mkF m 240 #[.val (.long q0), .second, .val (.long q1), .second, .val (.long q2), .second, .val (.int p3), .val (.int p4), .val (.int p5), .val (.int (p3 &&& (3 : Int32))), .val (.int v2), .val (.int v6), .val (.long v10), .second, .val (.long (q2 &&& v10)), .second, .val (.ref b12), .val (.long v22), .second, .val (.int ((v22 / (64 : Int64)).toInt32)), .val (.int v27), .val (.int ((64 : Int32) - v27))] [])) _
            refine XS.iconst Y42.here hx rfl (hb hby at_240) ?_
            show Steps p.tables e below (T42.setTop (mkF m 241 #[.val (.long q0), .second, .val (.long q1), .second, .val (.long q2), .second, .val (.int p3), .val (.int p4), .val (.int p5), .val (.int (p3 &&& (3 : Int32))), .val (.int v2), .val (.int v6), .val (.long v10), .second, .val (.long (q2 &&& v10)), .second, .val (.ref b12), .val (.long v22), .second, .val (.int ((v22 / (64 : Int64)).toInt32)), .val (.int v27), .val (.int ((64 : Int32) - v27))] [(.int (1 : Int32))])) _
            refine XS.goto Y42.here hx rfl (pc0 := 241) (pc' := 245) rfl (hb hby at_241) (by decide) (by decide) ?_
            show Steps p.tables e below (T42.setTop (mkF m 245 #[.val (.long q0), .second, .val (.long q1), .second, .val (.long q2), .second, .val (.int p3), .val (.int p4), .val (.int p5), .val (.int (p3 &&& (3 : Int32))), .val (.int v2), .val (.int v6), .val (.long v10), .second, .val (.long (q2 &&& v10)), .second, .val (.ref b12), .val (.long v22), .second, .val (.int ((v22 / (64 : Int64)).toInt32)), .val (.int v27), .val (.int ((64 : Int32) - v27))] [(.int (1 : Int32))])) _
            exact k
          · simp only [if_neg hc237_43] at k
            refine XS.ifYes Y42.here hx rfl (pc0 := 237) (pc' := 244) rfl (hb hby at_237) rfl ((if0 _ _).trans (feq (fun q => hc237_43 (own_lc_eq.mp q))).2) (by decide) (by decide) ?_
            show Steps p.tables e below (T42.setTop (mkF m 244 #[.val (.long q0), .second, .val (.long q1), .second, .val (.long q2), .second, .val (.int p3), .val (.int p4), .val (.int p5), .val (.int (p3 &&& (3 : Int32))), .val (.int v2), .val (.int v6), .val (.long v10), .second, .val (.long (q2 &&& v10)), .second, .val (.ref b12), .val (.long v22), .second, .val (.int ((v22 / (64 : Int64)).toInt32)), .val (.int v27), .val (.int ((64 : Int32) - v27))] [])) _
            refine XS.iconst Y42.here hx rfl (hb hby at_244) ?_
            show Steps p.tables e below (T42.setTop (mkF m 245 #[.val (.long q0), .second, .val (.long q1), .second, .val (.long q2), .second, .val (.int p3), .val (.int p4), .val (.int p5), .val (.int (p3 &&& (3 : Int32))), .val (.int v2), .val (.int v6), .val (.long v10), .second, .val (.long (q2 &&& v10)), .second, .val (.ref b12), .val (.long v22), .second, .val (.int ((v22 / (64 : Int64)).toInt32)), .val (.int v27), .val (.int ((64 : Int32) - v27))] [(.int (0 : Int32))])) _
            exact k
        refine j44 _ ?_
        show Steps p.tables e below (T42.setTop (mkF m 245 #[.val (.long q0), .second, .val (.long q1), .second, .val (.long q2), .second, .val (.int p3), .val (.int p4), .val (.int p5), .val (.int (p3 &&& (3 : Int32))), .val (.int v2), .val (.int v6), .val (.long v10), .second, .val (.long (q2 &&& v10)), .second, .val (.ref b12), .val (.long v22), .second, .val (.int ((v22 / (64 : Int64)).toInt32)), .val (.int v27), .val (.int ((64 : Int32) - v27))] [(.int (if (F1 (p3 &&& (3 : Int32)) v2 v6 (updF g31 (v36).toNatClampNeg v39)) = (q2 &&& v10) then (1 : Int32) else (0 : Int32)))])) _
        exact k
      obtain ⟨v46, hv46⟩ : ∃ z : Int32, z = (if (F1 (p3 &&& (3 : Int32)) v2 v6 (updF g31 (v36).toNatClampNeg v39)) = (q2 &&& v10) then (1 : Int32) else (0 : Int32)) := ⟨_, rfl⟩
      have pre46 : Lead p e below G (T42.setTop (mkF m 245 #[.val (.long q0), .second, .val (.long q1), .second, .val (.long q2), .second, .val (.int p3), .val (.int p4), .val (.int p5), .val (.int (p3 &&& (3 : Int32))), .val (.int v2), .val (.int v6), .val (.long v10), .second, .val (.long (q2 &&& v10)), .second, .val (.ref b12), .val (.long v22), .second, .val (.int ((v22 / (64 : Int64)).toInt32)), .val (.int v27), .val (.int ((64 : Int32) - v27))] [(.int v46)])) := by rw [hv46]; exact pre45
      obtain ⟨fs, hr, hrun, hended, hW, hsame⟩ := Y42.leave (v := some (.int (nar .boolean v46))) (fun h => by rw [Bd.returns] at h; cases h)
      subst hG
      refine ⟨_, _, pre46 _ ?_, hrun, hended, _, _, rfl, ?_, ⟨_, rfl⟩, hW, hsame.mono (by decide) (by decide)⟩
      · show Steps p.tables e below (T42.setTop (mkF m 245 #[.val (.long q0), .second, .val (.long q1), .second, .val (.long q2), .second, .val (.int p3), .val (.int p4), .val (.int p5), .val (.int (p3 &&& (3 : Int32))), .val (.int v2), .val (.int v6), .val (.long v10), .second, .val (.long (q2 &&& v10)), .second, .val (.ref b12), .val (.long v22), .second, .val (.int ((v22 / (64 : Int64)).toInt32)), .val (.int v27), .val (.int ((64 : Int32) - v27))] [(.int v46)])) _
        exact retN Y42 hx (t := .boolean) Bd.returns (by simp) (hb hby at_245) hr
      · show Q0 Z q0 q1 q2 p3 p4 p5 h0 n0 _ T42.heap _
        refine ⟨congrArg (fun z => some (Value.int z)) (Eq.trans (?_ : (nar .boolean v46) = F0 q0 q1 q2 p3 p4 p5) (own_law q0 q1 q2 p3 p4 p5)), N42⟩
        subst hv46 hv39 hv36 hg31 hv30 hv27 hv22 hg18 hv10 hv6 hv2
        refine Eq.symm ?_; unfold F0; refine Eq.trans (if_pos hs129_25) ?_; refine Eq.trans (if_pos hs183_34) ?_; rfl
    · have pre47 : Lead p e below G (T31.setTop (mkF m 231 #[.val (.long q0), .second, .val (.long q1), .second, .val (.long q2), .second, .val (.int p3), .val (.int p4), .val (.int p5), .val (.int (p3 &&& (3 : Int32))), .val (.int v2), .val (.int v6), .val (.long v10), .second, .val (.long (q2 &&& v10)), .second, .val (.ref b12), .val (.long v22), .second, .val (.int ((v22 / (64 : Int64)).toInt32)), .val (.int v27), .unset] [(.int v6), (.int v2), (.int (p3 &&& (3 : Int32))), (.ref b12)])) := fun t k => by
        refine pre33 t ?_
        show Steps p.tables e below (T31.setTop (mkF m 183 #[.val (.long q0), .second, .val (.long q1), .second, .val (.long q2), .second, .val (.int p3), .val (.int p4), .val (.int p5), .val (.int (p3 &&& (3 : Int32))), .val (.int v2), .val (.int v6), .val (.long v10), .second, .val (.long (q2 &&& v10)), .second, .val (.ref b12), .val (.long v22), .second, .val (.int ((v22 / (64 : Int64)).toInt32)), .val (.int v27), .unset] [(.int (64 : Int32)), (.int (v27 + v2))])) _
        refine XS.icmpYes Y31.here hx rfl (pc0 := 183) (pc' := 223) rfl (hb hby at_183) rfl (flt hs183_34).2.2.2 (by decide) (by decide) ?_
        show Steps p.tables e below (T31.setTop (mkF m 223 #[.val (.long q0), .second, .val (.long q1), .second, .val (.long q2), .second, .val (.int p3), .val (.int p4), .val (.int p5), .val (.int (p3 &&& (3 : Int32))), .val (.int v2), .val (.int v6), .val (.long v10), .second, .val (.long (q2 &&& v10)), .second, .val (.ref b12), .val (.long v22), .second, .val (.int ((v22 / (64 : Int64)).toInt32)), .val (.int v27), .unset] [])) _
        refine XS.aload Y31.here hx rfl (hb hby at_223) rfl rfl ?_
        show Steps p.tables e below (T31.setTop (mkF m 225 #[.val (.long q0), .second, .val (.long q1), .second, .val (.long q2), .second, .val (.int p3), .val (.int p4), .val (.int p5), .val (.int (p3 &&& (3 : Int32))), .val (.int v2), .val (.int v6), .val (.long v10), .second, .val (.long (q2 &&& v10)), .second, .val (.ref b12), .val (.long v22), .second, .val (.int ((v22 / (64 : Int64)).toInt32)), .val (.int v27), .unset] [(.ref b12)])) _
        refine XS.iload Y31.here hx rfl (hb hby at_225) rfl ?_
        show Steps p.tables e below (T31.setTop (mkF m 227 #[.val (.long q0), .second, .val (.long q1), .second, .val (.long q2), .second, .val (.int p3), .val (.int p4), .val (.int p5), .val (.int (p3 &&& (3 : Int32))), .val (.int v2), .val (.int v6), .val (.long v10), .second, .val (.long (q2 &&& v10)), .second, .val (.ref b12), .val (.long v22), .second, .val (.int ((v22 / (64 : Int64)).toInt32)), .val (.int v27), .unset] [(.int (p3 &&& (3 : Int32))), (.ref b12)])) _
        refine XS.iload Y31.here hx rfl (hb hby at_227) rfl ?_
        show Steps p.tables e below (T31.setTop (mkF m 229 #[.val (.long q0), .second, .val (.long q1), .second, .val (.long q2), .second, .val (.int p3), .val (.int p4), .val (.int p5), .val (.int (p3 &&& (3 : Int32))), .val (.int v2), .val (.int v6), .val (.long v10), .second, .val (.long (q2 &&& v10)), .second, .val (.ref b12), .val (.long v22), .second, .val (.int ((v22 / (64 : Int64)).toInt32)), .val (.int v27), .unset] [(.int v2), (.int (p3 &&& (3 : Int32))), (.ref b12)])) _
        refine XS.iload Y31.here hx rfl (hb hby at_229) rfl ?_
        show Steps p.tables e below (T31.setTop (mkF m 231 #[.val (.long q0), .second, .val (.long q1), .second, .val (.long q2), .second, .val (.int p3), .val (.int p4), .val (.int p5), .val (.int (p3 &&& (3 : Int32))), .val (.int v2), .val (.int v6), .val (.long v10), .second, .val (.long (q2 &&& v10)), .second, .val (.ref b12), .val (.long v22), .second, .val (.int ((v22 / (64 : Int64)).toInt32)), .val (.int v27), .unset] [(.int v6), (.int v2), (.int (p3 &&& (3 : Int32))), (.ref b12)])) _
        exact k
      obtain ⟨_, _, ⟨T48, L48, k48, n48⟩, -, X48, ⟨Lc48, hQ48, l48, y48, z48⟩, st48⟩ := Jvm.LawKit.callS Y31 hx (y := (⟨"com/example/findwright/findwright/PackedInts", "read", "([JIII)J"⟩ : MethodName)) hown (mvT hZ (hw _ (List.mem_of_getElem? (i := 4) rfl))) (mvT hZ (hw _ (List.mem_of_getElem? (i := 5) rfl))) (mvT hZ (hw _ (List.mem_of_getElem? (i := 6) rfl))) (mvT hZ (hw _ (List.mem_of_getElem? (i := 7) rfl))) (by decide) (backOf (W := 0) (rm1 l Z a0 hw [] b12 (p3 &&& (3 : Int32)) v2 v6 (4 : Int32) g31 h31 n0 (Nat.le_trans Z0 K31.1) V31 (show (0 : Int32) < v2 → ¬ rdWord (p3 &&& (3 : Int32)) v2 v6 < 0 ∧ rdWord (p3 &&& (3 : Int32)) v2 v6 < (4 : Int32) from (by subst hg31 hv30 hv27 hv22 hg18 hv10 hv6 hv2; exact (own_r1 p3 p4 p5))) (show (0 : Int32) < v2 → (64 : Int32) < rdShift (p3 &&& (3 : Int32)) v2 v6 + v2 → ¬ rdWord (p3 &&& (3 : Int32)) v2 v6 + 1 < 0 ∧ rdWord (p3 &&& (3 : Int32)) v2 v6 + 1 < (4 : Int32) from (by subst hg31 hv30 hv27 hv22 hg18 hv10 hv6 hv2; exact (own_r2 p3 p4 p5)))) hZ (hw _ (List.mem_of_getElem? (i := 7) rfl)) (hw _ (List.mem_of_getElem? (i := 6) rfl)) (by decide) (by decide)) (g := (mkF m 231 #[.val (.long q0), .second, .val (.long q1), .second, .val (.long q2), .second, .val (.int p3), .val (.int p4), .val (.int p5), .val (.int (p3 &&& (3 : Int32))), .val (.int v2), .val (.int v6), .val (.long v10), .second, .val (.long (q2 &&& v10)), .second, .val (.ref b12), .val (.long v22), .second, .val (.int ((v22 / (64 : Int64)).toInt32)), .val (.int v27), .unset] [(.int v6), (.int v2), (.int (p3 &&& (3 : Int32))), (.ref b12)])) rfl (by rw [hml]; rfl) (argsL := [(.ref b12), (.int (p3 &&& (3 : Int32))), (.int v2), (.int v6)]) (rest := []) (lenOf pd__28__5b_JIII_29_J rfl) rfl (by show 2 * 0 + _ ≤ _; exact Nat.le_of_eq rfl) (hb hby at_231) (fun _ _ => ⟨rfl, e31, (by decide : 1 + 0 ≤ _), (by decide : 4 + 0 ≤ _)⟩)
      dsimp only [Pt.U, Pt.locs, Pt.cells, Pt.slots] at X48 l48 y48 z48 st48 hQ48
      subst l48 y48 z48
      obtain ⟨rfl, N48q, e48⟩ := hQ48
      have N48 := Fr.app N31 N48q
      obtain ⟨M48, Y48, N48⟩ : ∃ M, Stand p l e room_1 s m #[(.long q0), (.long q1), (.long q2), (.int p3), (.int p4), (.int p5)] below meth c T48 M 1 4 ∧ Fr n0 M := ⟨_, X48, N48⟩
      have pre48 : Lead p e below G (T48.setTop (mkF m 234 #[.val (.long q0), .second, .val (.long q1), .second, .val (.long q2), .second, .val (.int p3), .val (.int p4), .val (.int p5), .val (.int (p3 &&& (3 : Int32))), .val (.int v2), .val (.int v6), .val (.long v10), .second, .val (.long (q2 &&& v10)), .second, .val (.ref b12), .val (.long v22), .second, .val (.int ((v22 / (64 : Int64)).toInt32)), .val (.int v27), .unset] [(.long (F1 (p3 &&& (3 : Int32)) v2 v6 g31))])) := fun t k => pre47 t (st48 _ k)
      have pre51 : Lead p e below G (T48.setTop (mkF m 245 #[.val (.long q0), .second, .val (.long q1), .second, .val (.long q2), .second, .val (.int p3), .val (.int p4), .val (.int p5), .val (.int (p3 &&& (3 : Int32))), .val (.int v2), .val (.int v6), .val (.long v10), .second, .val (.long (q2 &&& v10)), .second, .val (.ref b12), .val (.long v22), .second, .val (.int ((v22 / (64 : Int64)).toInt32)), .val (.int v27), .unset] [(.int (if (F1 (p3 &&& (3 : Int32)) v2 v6 g31) = (q2 &&& v10) then (1 : Int32) else (0 : Int32)))])) := fun t k => by
        refine pre48 t ?_
        show Steps p.tables e below (T48.setTop (mkF m 234 #[.val (.long q0), .second, .val (.long q1), .second, .val (.long q2), .second, .val (.int p3), .val (.int p4), .val (.int p5), .val (.int (p3 &&& (3 : Int32))), .val (.int v2), .val (.int v6), .val (.long v10), .second, .val (.long (q2 &&& v10)), .second, .val (.ref b12), .val (.long v22), .second, .val (.int ((v22 / (64 : Int64)).toInt32)), .val (.int v27), .unset] [(.long (F1 (p3 &&& (3 : Int32)) v2 v6 g31))])) _
        refine XS.lload Y48.here hx rfl (hb hby at_234) rfl ?_
        show Steps p.tables e below (T48.setTop (mkF m 236 #[.val (.long q0), .second, .val (.long q1), .second, .val (.long q2), .second, .val (.int p3), .val (.int p4), .val (.int p5), .val (.int (p3 &&& (3 : Int32))), .val (.int v2), .val (.int v6), .val (.long v10), .second, .val (.long (q2 &&& v10)), .second, .val (.ref b12), .val (.long v22), .second, .val (.int ((v22 / (64 : Int64)).toInt32)), .val (.int v27), .unset] [(.long (q2 &&& v10)), (.long (F1 (p3 &&& (3 : Int32)) v2 v6 g31))])) _
        refine XS.lcmp Y48.here hx rfl (hb hby at_236) rfl ?_
        show Steps p.tables e below (T48.setTop (mkF m 237 #[.val (.long q0), .second, .val (.long q1), .second, .val (.long q2), .second, .val (.int p3), .val (.int p4), .val (.int p5), .val (.int (p3 &&& (3 : Int32))), .val (.int v2), .val (.int v6), .val (.long v10), .second, .val (.long (q2 &&& v10)), .second, .val (.ref b12), .val (.long v22), .second, .val (.int ((v22 / (64 : Int64)).toInt32)), .val (.int v27), .unset] [(.int (lcmpW (F1 (p3 &&& (3 : Int32)) v2 v6 g31) (q2 &&& v10)))])) _
        have j50 : ∀ t, Steps p.tables e below (T48.setTop (mkF m 245 #[.val (.long q0), .second, .val (.long q1), .second, .val (.long q2), .second, .val (.int p3), .val (.int p4), .val (.int p5), .val (.int (p3 &&& (3 : Int32))), .val (.int v2), .val (.int v6), .val (.long v10), .second, .val (.long (q2 &&& v10)), .second, .val (.ref b12), .val (.long v22), .second, .val (.int ((v22 / (64 : Int64)).toInt32)), .val (.int v27), .unset] [(.int (if (F1 (p3 &&& (3 : Int32)) v2 v6 g31) = (q2 &&& v10) then (1 : Int32) else (0 : Int32)))])) t → Steps p.tables e below (T48.setTop (mkF m 237 #[.val (.long q0), .second, .val (.long q1), .second, .val (.long q2), .second, .val (.int p3), .val (.int p4), .val (.int p5), .val (.int (p3 &&& (3 : Int32))), .val (.int v2), .val (.int v6), .val (.long v10), .second, .val (.long (q2 &&& v10)), .second, .val (.ref b12), .val (.long v22), .second, .val (.int ((v22 / (64 : Int64)).toInt32)), .val (.int v27), .unset] [(.int (lcmpW (F1 (p3 &&& (3 : Int32)) v2 v6 g31) (q2 &&& v10)))])) t := fun t k => by
          by_cases hc237_49 : (F1 (p3 &&& (3 : Int32)) v2 v6 g31) = (q2 &&& v10)
          · simp only [if_pos hc237_49] at k
            refine XS.ifNo Y48.here hx rfl (hb hby at_237) rfl ((if0 _ _).trans (teq (own_lc_eq.mpr hc237_49)).2) ?_
            show Steps p.tables e below (T48.setTop (mkF m 240 #[.val (.long q0), .second, .val (.long q1), .second, .val (.long q2), .second, .val (.int p3), .val (.int p4), .val (.int p5), .val (.int (p3 &&& (3 : Int32))), .val (.int v2), .val (.int v6), .val (.long v10), .second, .val (.long (q2 &&& v10)), .second, .val (.ref b12), .val (.long v22), .second, .val (.int ((v22 / (64 : Int64)).toInt32)), .val (.int v27), .unset] [])) _
            refine XS.iconst Y48.here hx rfl (hb hby at_240) ?_
            show Steps p.tables e below (T48.setTop (mkF m 241 #[.val (.long q0), .second, .val (.long q1), .second, .val (.long q2), .second, .val (.int p3), .val (.int p4), .val (.int p5), .val (.int (p3 &&& (3 : Int32))), .val (.int v2), .val (.int v6), .val (.long v10), .second, .val (.long (q2 &&& v10)), .second, .val (.ref b12), .val (.long v22), .second, .val (.int ((v22 / (64 : Int64)).toInt32)), .val (.int v27), .unset] [(.int (1 : Int32))])) _
            refine XS.goto Y48.here hx rfl (pc0 := 241) (pc' := 245) rfl (hb hby at_241) (by decide) (by decide) ?_
            show Steps p.tables e below (T48.setTop (mkF m 245 #[.val (.long q0), .second, .val (.long q1), .second, .val (.long q2), .second, .val (.int p3), .val (.int p4), .val (.int p5), .val (.int (p3 &&& (3 : Int32))), .val (.int v2), .val (.int v6), .val (.long v10), .second, .val (.long (q2 &&& v10)), .second, .val (.ref b12), .val (.long v22), .second, .val (.int ((v22 / (64 : Int64)).toInt32)), .val (.int v27), .unset] [(.int (1 : Int32))])) _
            exact k
          · simp only [if_neg hc237_49] at k
            refine XS.ifYes Y48.here hx rfl (pc0 := 237) (pc' := 244) rfl (hb hby at_237) rfl ((if0 _ _).trans (feq (fun q => hc237_49 (own_lc_eq.mp q))).2) (by decide) (by decide) ?_
            show Steps p.tables e below (T48.setTop (mkF m 244 #[.val (.long q0), .second, .val (.long q1), .second, .val (.long q2), .second, .val (.int p3), .val (.int p4), .val (.int p5), .val (.int (p3 &&& (3 : Int32))), .val (.int v2), .val (.int v6), .val (.long v10), .second, .val (.long (q2 &&& v10)), .second, .val (.ref b12), .val (.long v22), .second, .val (.int ((v22 / (64 : Int64)).toInt32)), .val (.int v27), .unset] [])) _
            refine XS.iconst Y48.here hx rfl (hb hby at_244) ?_
            show Steps p.tables e below (T48.setTop (mkF m 245 #[.val (.long q0), .second, .val (.long q1), .second, .val (.long q2), .second, .val (.int p3), .val (.int p4), .val (.int p5), .val (.int (p3 &&& (3 : Int32))), .val (.int v2), .val (.int v6), .val (.long v10), .second, .val (.long (q2 &&& v10)), .second, .val (.ref b12), .val (.long v22), .second, .val (.int ((v22 / (64 : Int64)).toInt32)), .val (.int v27), .unset] [(.int (0 : Int32))])) _
            exact k
        refine j50 _ ?_
        show Steps p.tables e below (T48.setTop (mkF m 245 #[.val (.long q0), .second, .val (.long q1), .second, .val (.long q2), .second, .val (.int p3), .val (.int p4), .val (.int p5), .val (.int (p3 &&& (3 : Int32))), .val (.int v2), .val (.int v6), .val (.long v10), .second, .val (.long (q2 &&& v10)), .second, .val (.ref b12), .val (.long v22), .second, .val (.int ((v22 / (64 : Int64)).toInt32)), .val (.int v27), .unset] [(.int (if (F1 (p3 &&& (3 : Int32)) v2 v6 g31) = (q2 &&& v10) then (1 : Int32) else (0 : Int32)))])) _
        exact k
      obtain ⟨v52, hv52⟩ : ∃ z : Int32, z = (if (F1 (p3 &&& (3 : Int32)) v2 v6 g31) = (q2 &&& v10) then (1 : Int32) else (0 : Int32)) := ⟨_, rfl⟩
      have pre52 : Lead p e below G (T48.setTop (mkF m 245 #[.val (.long q0), .second, .val (.long q1), .second, .val (.long q2), .second, .val (.int p3), .val (.int p4), .val (.int p5), .val (.int (p3 &&& (3 : Int32))), .val (.int v2), .val (.int v6), .val (.long v10), .second, .val (.long (q2 &&& v10)), .second, .val (.ref b12), .val (.long v22), .second, .val (.int ((v22 / (64 : Int64)).toInt32)), .val (.int v27), .unset] [(.int v52)])) := by rw [hv52]; exact pre51
      obtain ⟨fs, hr, hrun, hended, hW, hsame⟩ := Y48.leave (v := some (.int (nar .boolean v52))) (fun h => by rw [Bd.returns] at h; cases h)
      subst hG
      refine ⟨_, _, pre52 _ ?_, hrun, hended, _, _, rfl, ?_, ⟨_, rfl⟩, hW, hsame.mono (by decide) (by decide)⟩
      · show Steps p.tables e below (T48.setTop (mkF m 245 #[.val (.long q0), .second, .val (.long q1), .second, .val (.long q2), .second, .val (.int p3), .val (.int p4), .val (.int p5), .val (.int (p3 &&& (3 : Int32))), .val (.int v2), .val (.int v6), .val (.long v10), .second, .val (.long (q2 &&& v10)), .second, .val (.ref b12), .val (.long v22), .second, .val (.int ((v22 / (64 : Int64)).toInt32)), .val (.int v27), .unset] [(.int v52)])) _
        exact retN Y48 hx (t := .boolean) Bd.returns (by simp) (hb hby at_245) hr
      · show Q0 Z q0 q1 q2 p3 p4 p5 h0 n0 _ T48.heap _
        refine ⟨congrArg (fun z => some (Value.int z)) (Eq.trans (?_ : (nar .boolean v52) = F0 q0 q1 q2 p3 p4 p5) (own_law q0 q1 q2 p3 p4 p5)), N48⟩
        subst hv52 hg31 hv30 hv27 hv22 hg18 hv10 hv6 hv2
        refine Eq.symm ?_; unfold F0; refine Eq.trans (if_pos hs129_25) ?_; refine Eq.trans (if_neg hs183_34) ?_; rfl
  · have pre53 : Lead p e below G (T20.setTop (mkF m 231 #[.val (.long q0), .second, .val (.long q1), .second, .val (.long q2), .second, .val (.int p3), .val (.int p4), .val (.int p5), .val (.int (p3 &&& (3 : Int32))), .val (.int v2), .val (.int v6), .val (.long v10), .second, .val (.long (q2 &&& v10)), .second, .val (.ref b12), .val (.long v22), .second, .unset, .unset, .unset] [(.int v6), (.int v2), (.int (p3 &&& (3 : Int32))), (.ref b12)])) := fun t k => by
      refine pre24 t ?_
      show Steps p.tables e below (T20.setTop (mkF m 129 #[.val (.long q0), .second, .val (.long q1), .second, .val (.long q2), .second, .val (.int p3), .val (.int p4), .val (.int p5), .val (.int (p3 &&& (3 : Int32))), .val (.int v2), .val (.int v6), .val (.long v10), .second, .val (.long (q2 &&& v10)), .second, .val (.ref b12), .val (.long v22), .second, .unset, .unset, .unset] [(.int v2)])) _
      refine XS.ifYes Y20.here hx rfl (pc0 := 129) (pc' := 223) rfl (hb hby at_129) rfl ((if0 _ _).trans (flt hs129_25).2.2.2) (by decide) (by decide) ?_
      show Steps p.tables e below (T20.setTop (mkF m 223 #[.val (.long q0), .second, .val (.long q1), .second, .val (.long q2), .second, .val (.int p3), .val (.int p4), .val (.int p5), .val (.int (p3 &&& (3 : Int32))), .val (.int v2), .val (.int v6), .val (.long v10), .second, .val (.long (q2 &&& v10)), .second, .val (.ref b12), .val (.long v22), .second, .unset, .unset, .unset] [])) _
      refine XS.aload Y20.here hx rfl (hb hby at_223) rfl rfl ?_
      show Steps p.tables e below (T20.setTop (mkF m 225 #[.val (.long q0), .second, .val (.long q1), .second, .val (.long q2), .second, .val (.int p3), .val (.int p4), .val (.int p5), .val (.int (p3 &&& (3 : Int32))), .val (.int v2), .val (.int v6), .val (.long v10), .second, .val (.long (q2 &&& v10)), .second, .val (.ref b12), .val (.long v22), .second, .unset, .unset, .unset] [(.ref b12)])) _
      refine XS.iload Y20.here hx rfl (hb hby at_225) rfl ?_
      show Steps p.tables e below (T20.setTop (mkF m 227 #[.val (.long q0), .second, .val (.long q1), .second, .val (.long q2), .second, .val (.int p3), .val (.int p4), .val (.int p5), .val (.int (p3 &&& (3 : Int32))), .val (.int v2), .val (.int v6), .val (.long v10), .second, .val (.long (q2 &&& v10)), .second, .val (.ref b12), .val (.long v22), .second, .unset, .unset, .unset] [(.int (p3 &&& (3 : Int32))), (.ref b12)])) _
      refine XS.iload Y20.here hx rfl (hb hby at_227) rfl ?_
      show Steps p.tables e below (T20.setTop (mkF m 229 #[.val (.long q0), .second, .val (.long q1), .second, .val (.long q2), .second, .val (.int p3), .val (.int p4), .val (.int p5), .val (.int (p3 &&& (3 : Int32))), .val (.int v2), .val (.int v6), .val (.long v10), .second, .val (.long (q2 &&& v10)), .second, .val (.ref b12), .val (.long v22), .second, .unset, .unset, .unset] [(.int v2), (.int (p3 &&& (3 : Int32))), (.ref b12)])) _
      refine XS.iload Y20.here hx rfl (hb hby at_229) rfl ?_
      show Steps p.tables e below (T20.setTop (mkF m 231 #[.val (.long q0), .second, .val (.long q1), .second, .val (.long q2), .second, .val (.int p3), .val (.int p4), .val (.int p5), .val (.int (p3 &&& (3 : Int32))), .val (.int v2), .val (.int v6), .val (.long v10), .second, .val (.long (q2 &&& v10)), .second, .val (.ref b12), .val (.long v22), .second, .unset, .unset, .unset] [(.int v6), (.int v2), (.int (p3 &&& (3 : Int32))), (.ref b12)])) _
      exact k
    obtain ⟨_, _, ⟨T54, L54, k54, n54⟩, -, X54, ⟨Lc54, hQ54, l54, y54, z54⟩, st54⟩ := Jvm.LawKit.callS Y20 hx (y := (⟨"com/example/findwright/findwright/PackedInts", "read", "([JIII)J"⟩ : MethodName)) hown (mvT hZ (hw _ (List.mem_of_getElem? (i := 4) rfl))) (mvT hZ (hw _ (List.mem_of_getElem? (i := 5) rfl))) (mvT hZ (hw _ (List.mem_of_getElem? (i := 6) rfl))) (mvT hZ (hw _ (List.mem_of_getElem? (i := 7) rfl))) (by decide) (backOf (W := 0) (rm1 l Z a0 hw [] b12 (p3 &&& (3 : Int32)) v2 v6 (4 : Int32) (updF g18 3 (q1 ^^^ (-1 : Int64))) h20 n0 (Nat.le_trans Z0 K20.1) V20 (show (0 : Int32) < v2 → ¬ rdWord (p3 &&& (3 : Int32)) v2 v6 < 0 ∧ rdWord (p3 &&& (3 : Int32)) v2 v6 < (4 : Int32) from (by subst hv22 hg18 hv10 hv6 hv2; exact (own_r1 p3 p4 p5))) (show (0 : Int32) < v2 → (64 : Int32) < rdShift (p3 &&& (3 : Int32)) v2 v6 + v2 → ¬ rdWord (p3 &&& (3 : Int32)) v2 v6 + 1 < 0 ∧ rdWord (p3 &&& (3 : Int32)) v2 v6 + 1 < (4 : Int32) from (by subst hv22 hg18 hv10 hv6 hv2; exact (own_r2 p3 p4 p5)))) hZ (hw _ (List.mem_of_getElem? (i := 7) rfl)) (hw _ (List.mem_of_getElem? (i := 6) rfl)) (by decide) (by decide)) (g := (mkF m 231 #[.val (.long q0), .second, .val (.long q1), .second, .val (.long q2), .second, .val (.int p3), .val (.int p4), .val (.int p5), .val (.int (p3 &&& (3 : Int32))), .val (.int v2), .val (.int v6), .val (.long v10), .second, .val (.long (q2 &&& v10)), .second, .val (.ref b12), .val (.long v22), .second, .unset, .unset, .unset] [(.int v6), (.int v2), (.int (p3 &&& (3 : Int32))), (.ref b12)])) rfl (by rw [hml]; rfl) (argsL := [(.ref b12), (.int (p3 &&& (3 : Int32))), (.int v2), (.int v6)]) (rest := []) (lenOf pd__28__5b_JIII_29_J rfl) rfl (by show 2 * 0 + _ ≤ _; exact Nat.le_of_eq rfl) (hb hby at_231) (fun _ _ => ⟨rfl, e20, (by decide : 1 + 0 ≤ _), (by decide : 4 + 0 ≤ _)⟩)
    dsimp only [Pt.U, Pt.locs, Pt.cells, Pt.slots] at X54 l54 y54 z54 st54 hQ54
    subst l54 y54 z54
    obtain ⟨rfl, N54q, e54⟩ := hQ54
    have N54 := Fr.app N20 N54q
    obtain ⟨M54, Y54, N54⟩ : ∃ M, Stand p l e room_1 s m #[(.long q0), (.long q1), (.long q2), (.int p3), (.int p4), (.int p5)] below meth c T54 M 1 4 ∧ Fr n0 M := ⟨_, X54, N54⟩
    have pre54 : Lead p e below G (T54.setTop (mkF m 234 #[.val (.long q0), .second, .val (.long q1), .second, .val (.long q2), .second, .val (.int p3), .val (.int p4), .val (.int p5), .val (.int (p3 &&& (3 : Int32))), .val (.int v2), .val (.int v6), .val (.long v10), .second, .val (.long (q2 &&& v10)), .second, .val (.ref b12), .val (.long v22), .second, .unset, .unset, .unset] [(.long (F1 (p3 &&& (3 : Int32)) v2 v6 (updF g18 3 (q1 ^^^ (-1 : Int64)))))])) := fun t k => pre53 t (st54 _ k)
    have pre57 : Lead p e below G (T54.setTop (mkF m 245 #[.val (.long q0), .second, .val (.long q1), .second, .val (.long q2), .second, .val (.int p3), .val (.int p4), .val (.int p5), .val (.int (p3 &&& (3 : Int32))), .val (.int v2), .val (.int v6), .val (.long v10), .second, .val (.long (q2 &&& v10)), .second, .val (.ref b12), .val (.long v22), .second, .unset, .unset, .unset] [(.int (if (F1 (p3 &&& (3 : Int32)) v2 v6 (updF g18 3 (q1 ^^^ (-1 : Int64)))) = (q2 &&& v10) then (1 : Int32) else (0 : Int32)))])) := fun t k => by
      refine pre54 t ?_
      show Steps p.tables e below (T54.setTop (mkF m 234 #[.val (.long q0), .second, .val (.long q1), .second, .val (.long q2), .second, .val (.int p3), .val (.int p4), .val (.int p5), .val (.int (p3 &&& (3 : Int32))), .val (.int v2), .val (.int v6), .val (.long v10), .second, .val (.long (q2 &&& v10)), .second, .val (.ref b12), .val (.long v22), .second, .unset, .unset, .unset] [(.long (F1 (p3 &&& (3 : Int32)) v2 v6 (updF g18 3 (q1 ^^^ (-1 : Int64)))))])) _
      refine XS.lload Y54.here hx rfl (hb hby at_234) rfl ?_
      show Steps p.tables e below (T54.setTop (mkF m 236 #[.val (.long q0), .second, .val (.long q1), .second, .val (.long q2), .second, .val (.int p3), .val (.int p4), .val (.int p5), .val (.int (p3 &&& (3 : Int32))), .val (.int v2), .val (.int v6), .val (.long v10), .second, .val (.long (q2 &&& v10)), .second, .val (.ref b12), .val (.long v22), .second, .unset, .unset, .unset] [(.long (q2 &&& v10)), (.long (F1 (p3 &&& (3 : Int32)) v2 v6 (updF g18 3 (q1 ^^^ (-1 : Int64)))))])) _
      refine XS.lcmp Y54.here hx rfl (hb hby at_236) rfl ?_
      show Steps p.tables e below (T54.setTop (mkF m 237 #[.val (.long q0), .second, .val (.long q1), .second, .val (.long q2), .second, .val (.int p3), .val (.int p4), .val (.int p5), .val (.int (p3 &&& (3 : Int32))), .val (.int v2), .val (.int v6), .val (.long v10), .second, .val (.long (q2 &&& v10)), .second, .val (.ref b12), .val (.long v22), .second, .unset, .unset, .unset] [(.int (lcmpW (F1 (p3 &&& (3 : Int32)) v2 v6 (updF g18 3 (q1 ^^^ (-1 : Int64)))) (q2 &&& v10)))])) _
      have j56 : ∀ t, Steps p.tables e below (T54.setTop (mkF m 245 #[.val (.long q0), .second, .val (.long q1), .second, .val (.long q2), .second, .val (.int p3), .val (.int p4), .val (.int p5), .val (.int (p3 &&& (3 : Int32))), .val (.int v2), .val (.int v6), .val (.long v10), .second, .val (.long (q2 &&& v10)), .second, .val (.ref b12), .val (.long v22), .second, .unset, .unset, .unset] [(.int (if (F1 (p3 &&& (3 : Int32)) v2 v6 (updF g18 3 (q1 ^^^ (-1 : Int64)))) = (q2 &&& v10) then (1 : Int32) else (0 : Int32)))])) t → Steps p.tables e below (T54.setTop (mkF m 237 #[.val (.long q0), .second, .val (.long q1), .second, .val (.long q2), .second, .val (.int p3), .val (.int p4), .val (.int p5), .val (.int (p3 &&& (3 : Int32))), .val (.int v2), .val (.int v6), .val (.long v10), .second, .val (.long (q2 &&& v10)), .second, .val (.ref b12), .val (.long v22), .second, .unset, .unset, .unset] [(.int (lcmpW (F1 (p3 &&& (3 : Int32)) v2 v6 (updF g18 3 (q1 ^^^ (-1 : Int64)))) (q2 &&& v10)))])) t := fun t k => by
        by_cases hc237_55 : (F1 (p3 &&& (3 : Int32)) v2 v6 (updF g18 3 (q1 ^^^ (-1 : Int64)))) = (q2 &&& v10)
        · simp only [if_pos hc237_55] at k
          refine XS.ifNo Y54.here hx rfl (hb hby at_237) rfl ((if0 _ _).trans (teq (own_lc_eq.mpr hc237_55)).2) ?_
          show Steps p.tables e below (T54.setTop (mkF m 240 #[.val (.long q0), .second, .val (.long q1), .second, .val (.long q2), .second, .val (.int p3), .val (.int p4), .val (.int p5), .val (.int (p3 &&& (3 : Int32))), .val (.int v2), .val (.int v6), .val (.long v10), .second, .val (.long (q2 &&& v10)), .second, .val (.ref b12), .val (.long v22), .second, .unset, .unset, .unset] [])) _
          refine XS.iconst Y54.here hx rfl (hb hby at_240) ?_
          show Steps p.tables e below (T54.setTop (mkF m 241 #[.val (.long q0), .second, .val (.long q1), .second, .val (.long q2), .second, .val (.int p3), .val (.int p4), .val (.int p5), .val (.int (p3 &&& (3 : Int32))), .val (.int v2), .val (.int v6), .val (.long v10), .second, .val (.long (q2 &&& v10)), .second, .val (.ref b12), .val (.long v22), .second, .unset, .unset, .unset] [(.int (1 : Int32))])) _
          refine XS.goto Y54.here hx rfl (pc0 := 241) (pc' := 245) rfl (hb hby at_241) (by decide) (by decide) ?_
          show Steps p.tables e below (T54.setTop (mkF m 245 #[.val (.long q0), .second, .val (.long q1), .second, .val (.long q2), .second, .val (.int p3), .val (.int p4), .val (.int p5), .val (.int (p3 &&& (3 : Int32))), .val (.int v2), .val (.int v6), .val (.long v10), .second, .val (.long (q2 &&& v10)), .second, .val (.ref b12), .val (.long v22), .second, .unset, .unset, .unset] [(.int (1 : Int32))])) _
          exact k
        · simp only [if_neg hc237_55] at k
          refine XS.ifYes Y54.here hx rfl (pc0 := 237) (pc' := 244) rfl (hb hby at_237) rfl ((if0 _ _).trans (feq (fun q => hc237_55 (own_lc_eq.mp q))).2) (by decide) (by decide) ?_
          show Steps p.tables e below (T54.setTop (mkF m 244 #[.val (.long q0), .second, .val (.long q1), .second, .val (.long q2), .second, .val (.int p3), .val (.int p4), .val (.int p5), .val (.int (p3 &&& (3 : Int32))), .val (.int v2), .val (.int v6), .val (.long v10), .second, .val (.long (q2 &&& v10)), .second, .val (.ref b12), .val (.long v22), .second, .unset, .unset, .unset] [])) _
          refine XS.iconst Y54.here hx rfl (hb hby at_244) ?_
          show Steps p.tables e below (T54.setTop (mkF m 245 #[.val (.long q0), .second, .val (.long q1), .second, .val (.long q2), .second, .val (.int p3), .val (.int p4), .val (.int p5), .val (.int (p3 &&& (3 : Int32))), .val (.int v2), .val (.int v6), .val (.long v10), .second, .val (.long (q2 &&& v10)), .second, .val (.ref b12), .val (.long v22), .second, .unset, .unset, .unset] [(.int (0 : Int32))])) _
          exact k
      refine j56 _ ?_
      show Steps p.tables e below (T54.setTop (mkF m 245 #[.val (.long q0), .second, .val (.long q1), .second, .val (.long q2), .second, .val (.int p3), .val (.int p4), .val (.int p5), .val (.int (p3 &&& (3 : Int32))), .val (.int v2), .val (.int v6), .val (.long v10), .second, .val (.long (q2 &&& v10)), .second, .val (.ref b12), .val (.long v22), .second, .unset, .unset, .unset] [(.int (if (F1 (p3 &&& (3 : Int32)) v2 v6 (updF g18 3 (q1 ^^^ (-1 : Int64)))) = (q2 &&& v10) then (1 : Int32) else (0 : Int32)))])) _
      exact k
    obtain ⟨v58, hv58⟩ : ∃ z : Int32, z = (if (F1 (p3 &&& (3 : Int32)) v2 v6 (updF g18 3 (q1 ^^^ (-1 : Int64)))) = (q2 &&& v10) then (1 : Int32) else (0 : Int32)) := ⟨_, rfl⟩
    have pre58 : Lead p e below G (T54.setTop (mkF m 245 #[.val (.long q0), .second, .val (.long q1), .second, .val (.long q2), .second, .val (.int p3), .val (.int p4), .val (.int p5), .val (.int (p3 &&& (3 : Int32))), .val (.int v2), .val (.int v6), .val (.long v10), .second, .val (.long (q2 &&& v10)), .second, .val (.ref b12), .val (.long v22), .second, .unset, .unset, .unset] [(.int v58)])) := by rw [hv58]; exact pre57
    obtain ⟨fs, hr, hrun, hended, hW, hsame⟩ := Y54.leave (v := some (.int (nar .boolean v58))) (fun h => by rw [Bd.returns] at h; cases h)
    subst hG
    refine ⟨_, _, pre58 _ ?_, hrun, hended, _, _, rfl, ?_, ⟨_, rfl⟩, hW, hsame.mono (by decide) (by decide)⟩
    · show Steps p.tables e below (T54.setTop (mkF m 245 #[.val (.long q0), .second, .val (.long q1), .second, .val (.long q2), .second, .val (.int p3), .val (.int p4), .val (.int p5), .val (.int (p3 &&& (3 : Int32))), .val (.int v2), .val (.int v6), .val (.long v10), .second, .val (.long (q2 &&& v10)), .second, .val (.ref b12), .val (.long v22), .second, .unset, .unset, .unset] [(.int v58)])) _
      exact retN Y54 hx (t := .boolean) Bd.returns (by simp) (hb hby at_245) hr
    · show Q0 Z q0 q1 q2 p3 p4 p5 h0 n0 _ T54.heap _
      refine ⟨congrArg (fun z => some (Value.int z)) (Eq.trans (?_ : (nar .boolean v58) = F0 q0 q1 q2 p3 p4 p5) (own_law q0 q1 q2 p3 p4 p5)), N54⟩
      subst hv58 hv22 hg18 hv10 hv6 hv2
      refine Eq.symm ?_; unfold F0; refine Eq.trans (if_neg hs129_25) ?_; rfl
set_option maxRecDepth 65536 in
set_option maxHeartbeats 40000000 in
theorem comes_1 {Post : Tables → Env → Array Value → State → Outcome → State → Prop} (hpost : ∀ tb e args s v u, (limb_1_1.after args s (.returned v) u = true ∧ limb_1_2.after args s (.returned v) u = true ∧ True) → FrameEnd s (.returned v) u (Jvm.fieldLocs frame_1_writes args s ++ Jvm.arrayLocs frame_1_arrays args s ++ Jvm.staticLocs frame_1_statics s) 16 128 → Post tb e args s (.returned v) u) :
    ArmFor flags0 classFile x code maxLocals ret World_1 tables_1 room_1 Calls_1 rest_1 Pre_1 Post := by
  intro l hfl _ _ p e ha hc hk s m args below hf hA hF happ hP
  obtain ⟨hcalls, hrest, hpre⟩ := hP
  obtain ⟨-, -, -, hnamed, -, -, -, hat⟩ := (Spec.applies_iff hf).mp happ
  obtain ⟨hg, hn⟩ := and_e (Cond.before_iff.mp (show (Jvm.Cond.and given_1 narrow_1).before args s = true from hpre))
  obtain ⟨g1, g2⟩ := and_e hg
  obtain ⟨g3, g4⟩ := and_e g2
  obtain ⟨g5, g6⟩ := and_e g4
  obtain ⟨g7, g8⟩ := and_e g6
  obtain ⟨g9, g10⟩ := and_e g8
  obtain ⟨g11, g12⟩ := and_e g10
  obtain ⟨w0, w1, w2, w3, w4, w5, rfl⟩ : ∃ w0 w1 w2 w3 w4 w5 : Value, args = #[w0, w1, w2, w3, w4, w5] := by
    have hs : args.size = 6 := by simpa [Cond.value, given_1] using g1
    obtain ⟨L⟩ := args
    match L, hs with
    | [w0, w1, w2, w3, w4, w5], _ => exact ⟨w0, w1, w2, w3, w4, w5, rfl⟩
  have hw := fun d (hd : d ∈ tables_1) => atoms_spec (ws := Jvm.Cond.code x code maxLocals ret :: tables_1) hat d (List.mem_cons_of_mem _ hd)
  obtain ⟨i0, ei0⟩ := isL_v g3
  obtain rfl : w0 = (.long i0) := Option.some.inj ei0
  obtain ⟨i1, ei1⟩ := isL_v g5
  obtain rfl : w1 = (.long i1) := Option.some.inj ei1
  obtain ⟨i2, ei2⟩ := isL_v g7
  obtain rfl : w2 = (.long i2) := Option.some.inj ei2
  obtain ⟨i3, ei3⟩ := is_v g9
  obtain rfl : w3 = (.int i3) := Option.some.inj ei3
  obtain ⟨i4, ei4⟩ := is_v g11
  obtain rfl : w4 = (.int i4) := Option.some.inj ei4
  obtain ⟨i5, ei5⟩ := is_v g12
  obtain rfl : w5 = (.int i5) := Option.some.inj ei5
  obtain ⟨n, o, h1, h2, h3, _, L, rfl, ⟨rfl, N⟩, hq⟩ := rm0 l s _ hw tables_1 i0 i1 i2 i3 i4 i5 s.heap s.heap.size (Nat.le_refl _) p e ha hc hk s m _ below hf ((Spec.applies_iff_loose hf).mp happ).1 ⟨rfl, State.Warmed39.refl s, rfl⟩ trivial
  refine ⟨n, _, h1, h2, h3, hpost _ _ _ _ _ _ ⟨Cond.after_iff.mpr rfl, Cond.after_iff.mpr (eq_i res_at (Term.int_eval (1)) rfl), trivial⟩ ⟨hq.1, hq.2.1, (hq.2.2.sift fun y hy => Or.inr (N y hy)).mono (by decide) (by decide)⟩⟩
theorem main_1_1 : Claimed_1_1 := comes_1 fun _ _ _ _ _ _ h hF => ⟨h.1, hF⟩
theorem main_1_2 : Claimed_1_2 := comes_1 fun _ _ _ _ _ _ h hF => ⟨h.2.1, hF⟩
end Jvm.Pilot.@@N@@
namespace Jvm.Pilot.@@N@@
open Jvm Jvm.ClassFile Sem Op Lib Jvm.Free Jvm.Stand Jvm.Pilot.@@N@@.Jvm.D
/-! MADE BY PROGRAM (witnessworld.py) out of the Statement's table words and the real class files: 11 classes; the members and pool entries that the words name. The judged class is class 1, her method 1. -/
namespace start1
open Jvm.ClassFile
def u (s : String) : CpInfo := .utf8 (stringToUtf16 s)
/-- a pool by its gaps: so many unusable entries, then the entry; so many at the end -/
def gap : Nat → List CpInfo → List CpInfo
  | 0, r => r
  | n + 1, r => .unusable :: gap n r
def poolList (es : List (Nat × CpInfo)) (last : Nat) : List CpInfo := es.foldr (fun e r => gap e.1 (e.2 :: r)) (gap last [])
def pool (es : List (Nat × CpInfo)) (last : Nat) : Array CpInfo := ⟨poolList es last⟩
def fileOf (pool : Array CpInfo) (this : Nat) (attrs : Array Attribute := #[]) (ms : Array MethodInfo := #[]) (fl : Nat := 33) (sup : Nat := 0) (ifs : Array Nat := #[]) (fds : Array FieldInfo := #[]) : ClassFile where
  minorVersion := 0
  majorVersion := 65
  constantPool := pool
  accessFlags := fl
  thisClass := this
  superClass := sup
  interfaces := ifs
  fields := fds
  methods := ms
  attributes := attrs
def plain (name : String) (sup : Option ClassId) : Class where
  name := name
  kind := .ordinary
  loader := none
  accessFlags := 33
  super := sup
  interfaces := #[]
  cf := none
  fields := #[]
  methods := #[]
  instanceTypes := #[]
  staticTypes := #[]
  resolved := #[]
  callSites := []
  init := .initialized
  statics := none
  mirror := none

def pool0 : Array CpInfo := pool [(5, u "<init>"), (0, u "()V"), (1, .class_ 10), (1, u "java/lang/Object")] 113

def k0m0 : Method := { name := "<init>", desc := "()V", sig := { parameters := [], returnType := none }, accessFlags := 1, code := none }
/-- java/lang/Object -/
def k0 : Class := { plain "java/lang/Object" none with
  accessFlags := 33
  interfaces := #[]
  cf := some (fileOf pool0 8 #[] #[{ accessFlags := 1, nameIndex := 5, descriptorIndex := 6, attributes := #[] }] 33 0 #[] #[])
  fields := #[]
  methods := #[k0m0]
  instanceTypes := #[]
  staticTypes := #[]
  resolved := Array.replicate 124 none
  statics := none }

def pool1 : Array CpInfo := pool [(2, .class_ 4), (1, u "java/lang/Object"), (0, u "<init>"), (0, u "()V"), (0, .integer 2147483647), (0, .long 18446744073709551615), (1, .long 64), (1, .methodref 13 14), (0, .class_ 15), (0, .nameAndType 16 17), (0, u "com/example/findwright/findwright/PackedInts"), (0, u "read"), (0, u "([JIII)J"), (0, .class_ 19), (0, u "com/example/findwright/findwright/PackedIntsReadPinLaw"), (2, u "law"), (0, u "(JJJIII)Z")] 5

def k1m0 : Method := { name := "<init>", desc := "()V", sig := { parameters := [], returnType := none }, accessFlags := 1, code := none }
def k1c1 : Code := { maxStack := 8, maxLocals := 22, code := code, exceptionTable := #[], attributes := #[] }
def k1m1 : Method := { name := "law", desc := "(JJJIII)Z", sig := { parameters := [.long, .long, .long, .int, .int, .int], returnType := some .boolean }, accessFlags := 9, code := some k1c1 }
/-- com/example/findwright/findwright/PackedIntsReadPinLaw -/
def k1 : Class := { plain "com/example/findwright/findwright/PackedIntsReadPinLaw" (some 0) with
  accessFlags := 49
  interfaces := #[]
  cf := some (fileOf pool1 18 #[] #[{ accessFlags := 1, nameIndex := 5, descriptorIndex := 6, attributes := #[] }, { accessFlags := 9, nameIndex := 22, descriptorIndex := 23, attributes := #[] }] 49 2 #[] #[])
  fields := #[]
  methods := #[k1m0, k1m1]
  instanceTypes := #[]
  staticTypes := #[]
  resolved := Array.replicate 29 none
  statics := none }

def pool2 : Array CpInfo := pool [(2, .class_ 4), (1, u "java/lang/Object"), (3, .class_ 10), (1, u "com/example/findwright/findwright/PackedInts"), (0, u "size"), (0, u "I"), (2, u "least"), (0, u "[I"), (2, u "widths"), (0, u "[B"), (2, u "starts"), (2, u "bits"), (0, u "[J"), (0, .class_ 29), (0, u "com/example/findwright/findwright/PackedInts$Builder"), (20, u "BLOCK_SHIFT"), (2, u "read"), (0, u "([JIII)J"), (17, .long 63), (1, .long 18446744073709551615), (7, u "BLOCK")] 39

def k2c0 : Code := { maxStack := 6, maxLocals := 10, code := prog_29_method_9_code, exceptionTable := #[], attributes := #[] }
def k2m0 : Method := { name := "read", desc := "([JIII)J", sig := { parameters := [(.array .long), .int, .int, .int], returnType := some .long }, accessFlags := 8, code := some k2c0 }
/-- com/example/findwright/findwright/PackedInts -/
def k2 : Class := { plain "com/example/findwright/findwright/PackedInts" (some 0) with
  accessFlags := 32
  interfaces := #[]
  cf := some (fileOf pool2 8 #[.nestMembers #[28]] #[{ accessFlags := 8, nameIndex := 53, descriptorIndex := 54, attributes := #[] }] 32 2 #[] #[{ accessFlags := 24, nameIndex := 82, descriptorIndex := 12, attributes := #[] }, { accessFlags := 26, nameIndex := 50, descriptorIndex := 12, attributes := #[] }, { accessFlags := 18, nameIndex := 11, descriptorIndex := 12, attributes := #[] }, { accessFlags := 18, nameIndex := 15, descriptorIndex := 16, attributes := #[] }, { accessFlags := 18, nameIndex := 19, descriptorIndex := 20, attributes := #[] }, { accessFlags := 18, nameIndex := 23, descriptorIndex := 16, attributes := #[] }, { accessFlags := 18, nameIndex := 26, descriptorIndex := 27, attributes := #[] }])
  fields := #[{ name := "BLOCK", type := .int, accessFlags := 24, slot := 0, constantValue := 0 }, { name := "BLOCK_SHIFT", type := .int, accessFlags := 26, slot := 1, constantValue := 0 }, { name := "size", type := .int, accessFlags := 18, slot := 0, constantValue := 0 }, { name := "least", type := (.array .int), accessFlags := 18, slot := 1, constantValue := 0 }, { name := "widths", type := (.array .byte), accessFlags := 18, slot := 2, constantValue := 0 }, { name := "starts", type := (.array .int), accessFlags := 18, slot := 3, constantValue := 0 }, { name := "bits", type := (.array .long), accessFlags := 18, slot := 4, constantValue := 0 }]
  methods := #[k2m0]
  instanceTypes := #[.int, (.array .int), (.array .byte), (.array .int), (.array .long)]
  staticTypes := #[.int, .int]
  resolved := Array.replicate 122 none
  statics := none }

def pool3 : Array CpInfo := pool [(1, u "java/lang/Cloneable"), (0, .class_ 1), (0, u "java/lang/Object"), (0, .class_ 3)] 3

/-- java/lang/Cloneable -/
def k3 : Class := { plain "java/lang/Cloneable" (some 0) with
  accessFlags := 1537
  interfaces := #[]
  cf := some (fileOf pool3 2 #[] #[] 1537 4 #[] #[])
  fields := #[]
  methods := #[]
  instanceTypes := #[]
  staticTypes := #[]
  resolved := Array.replicate 8 none
  statics := none }

def pool4 : Array CpInfo := pool [(1, u "java/io/Serializable"), (0, .class_ 1), (0, u "java/lang/Object"), (0, .class_ 3)] 3

/-- java/io/Serializable -/
def k4 : Class := { plain "java/io/Serializable" (some 0) with
  accessFlags := 1537
  interfaces := #[]
  cf := some (fileOf pool4 2 #[] #[] 1537 4 #[] #[])
  fields := #[]
  methods := #[]
  instanceTypes := #[]
  staticTypes := #[]
  resolved := Array.replicate 8 none
  statics := none }

/-- the primitive byte -/
def k5 : Class := { plain "byte" none with kind := .primitive 'B', accessFlags := 0x411 }
/-- [B -/
def k6 : Class := { plain "[B" (some 0) with kind := .array 5 .byte, interfaces := #[3, 4], accessFlags := 1041 }

/-- the primitive int -/
def k7 : Class := { plain "int" none with kind := .primitive 'I', accessFlags := 0x411 }
/-- [I -/
def k8 : Class := { plain "[I" (some 0) with kind := .array 7 .int, interfaces := #[3, 4], accessFlags := 1041 }

/-- the primitive long -/
def k9 : Class := { plain "long" none with kind := .primitive 'J', accessFlags := 0x411 }
/-- [J -/
def k10 : Class := { plain "[J" (some 0) with kind := .array 9 .long, interfaces := #[3, 4], accessFlags := 1041 }

def heap : Heap := #[]
def classes : Array Class := #[k0, k1, k2, k3, k4, k5, k6, k7, k8, k9, k10]
def interned : List (Array UInt16 × Addr) := []
def slotsUsed : Nat := 0
def theMethod : MethodId := ⟨1, 1⟩
def args0 : Array Value := #[.long 5, .long 9, .long 9, .int 9, .int 9, .int 9]
def aboutOver (below : List Frame) : State where
  vm := { classes := classes, interned := interned.toArray }
  heap := heap
  slotsUsed := slotsUsed
  threads := #[{ frames := .invoking theMethod args0 :: below }]
def below0 : List Frame := [.native { method := ⟨0, 0⟩, args := #[] }]
def about1 : State := aboutOver below0
def p0 : Program := .bare "" "" ""
def e0 : Env := launch0.env 0 0 0
theorem w_frames : about1.frames = Frame.invoking theMethod args0 :: below0 := rfl
set_option maxRecDepth 65536 in
theorem w_args : argsFit about1.vm theMethod args0 = true := by decide +kernel
set_option maxRecDepth 65536 in
theorem w_heap : heapFits about1 = true := by decide +kernel
set_option maxRecDepth 65536 in
theorem w_runnable : about1.curStatus? = some .runnable := by decide +kernel
set_option maxRecDepth 65536 in
theorem w_alone : about1.alone = true := by decide +kernel
set_option maxRecDepth 65536 in
theorem w_named : about1.methodNamed? x = some theMethod := by decide +kernel
set_option maxRecDepth 65536 in
theorem w_hears : about1.hears theMethod below0 = true := by decide +kernel
set_option maxRecDepth 65536 in
theorem w_ripe : about1.ripe theMethod args0 below0 = true := by decide +kernel
theorem w_running : about1.status = .running := rfl
set_option maxRecDepth 65536 in
theorem w_room : about1.hasRoom e0.platform room_1 = true :=
  launch0.hasRoom_least _ room_1 (by decide +kernel) (by decide +kernel) (by decide +kernel) (by decide +kernel) (by decide +kernel) (by decide +kernel)
theorem allAtoms_all (ts : List Jvm.Cond) (a : Array Jvm.Value) (st : Jvm.State) : (allAtoms ts).before a st = ts.all (fun c => c.before a st) := by
  induction ts with
  | nil => rfl
  | cons c t ih =>
    show (Jvm.Cond.and c (allAtoms t)).before a st = _
    rw [Jvm.Cond.before_and, ih, List.all_cons]
def words1 : List Jvm.Cond := Jvm.Cond.code x code maxLocals ret :: tables_1
/-- a 'code' word, met by the world's own term for the bytes: nothing is compared byte by byte -/
theorem code_word {y : MethodName} {bytes : ByteArray} {mx : Nat} {rt : Option FieldType} {a : Array Value} {s : State} {m : MethodId} {meth : Method} {c : Code} (h1 : s.methodNamed? y = some m) (h2 : s.vm.method? m = some meth) (h3 : meth.code = some c) (h4 : c.code = bytes)
    (h5 : (c.maxLocals == mx && c.exceptionTable.isEmpty && decide (c.maxStack ≤ mostOperands) && decide (meth.sig.returnType = rt) && !meth.locks && decide (parseMethodDescriptor y.desc = some meth.sig)) = true) : (Jvm.Cond.code y bytes mx rt).before a s = true := by
  simp only [Bool.and_eq_true, beq_iff_eq, Bool.not_eq_true', decide_eq_true_eq] at h5
  obtain ⟨⟨⟨⟨⟨g1, g2⟩, g3⟩, g4⟩, g5⟩, g6⟩ := h5
  simp [Cond.before, Cond.holds, Cond.value, h1, h2, h3, h4, g1, g2, g3, g4, g5, g6]
def isCode : Jvm.Cond → Bool
  | .code _ _ _ _ => true
  | _ => false
theorem all_split {L : List Jvm.Cond} {P : Jvm.Cond → Bool} (h1 : L.all (fun c => isCode c || P c) = true) (h2 : ∀ c ∈ L.filter isCode, P c = true) : L.all P = true := by
  refine List.all_eq_true.mpr fun c hc => ?_
  have h := List.all_eq_true.mp h1 c hc
  rcases Bool.eq_false_or_eq_true (isCode c) with hi | hi
  · exact h2 c (List.mem_filter.mpr ⟨hc, hi⟩)
  · simpa [hi] using h
set_option maxRecDepth 65536 in
theorem w_c0 : (Jvm.Cond.code x code maxLocals ret).before args0 about1 = true := code_word (m := ⟨1, 1⟩) (meth := k1m1) (c := k1c1) (by decide +kernel) rfl rfl rfl (by decide +kernel)
set_option maxRecDepth 65536 in
theorem w_c1 : (Jvm.Cond.code ({ cls := "com/example/findwright/findwright/PackedInts", name := "read", desc := "([JIII)J" } : Jvm.MethodName) prog_29_method_9_code (10 : Nat) (Option.some Jvm.ClassFile.FieldType.long)).before args0 about1 = true := code_word (m := ⟨2, 0⟩) (meth := k2m0) (c := k2c0) (by decide +kernel) rfl rfl rfl (by decide +kernel)
def codes1 : List Jvm.Cond := [Jvm.Cond.code x code maxLocals ret, Jvm.Cond.code ({ cls := "com/example/findwright/findwright/PackedInts", name := "read", desc := "([JIII)J" } : Jvm.MethodName) prog_29_method_9_code (10 : Nat) (Option.some Jvm.ClassFile.FieldType.long)]
set_option maxRecDepth 65536 in
theorem codes_eq : words1.filter isCode = codes1 := rfl
theorem w_codes : ∀ c ∈ words1.filter isCode, c.before args0 about1 = true := by
  rw [codes_eq]
  intro c hc
  simp only [codes1, List.mem_cons, List.not_mem_nil, or_false] at hc
  rcases hc with rfl | rfl
  · exact w_c0
  · exact w_c1
set_option maxRecDepth 65536 in
theorem w_t1 : words1.all (fun c => isCode c || c.before args0 about1) = true := by decide +kernel
theorem w_tables : (allAtoms (Jvm.Cond.code x code maxLocals ret :: tables_1)).before args0 about1 = true := by
  rw [allAtoms_all]
  show words1.all (fun c => c.before args0 about1) = true
  refine all_split ?_ w_codes
  rw [w_t1]
set_option maxRecDepth 65536 in
theorem w_case : (Jvm.Cond.and given_1 narrow_1).before args0 about1 = true := by decide +kernel
theorem w_applies : (headSpec (Jvm.Cond.code x code maxLocals ret :: tables_1) room_1).applies x e0.platform about1 = true :=
  (Spec.applies_iff w_frames).mpr ⟨w_running, w_runnable, w_alone, w_named, w_hears, w_ripe, w_room, w_tables⟩
theorem atStart : AtStart classFile x code maxLocals ret World_1 tables_1 room_1 Calls_1 rest_1 Pre_1 launch0 p0 e0 about1 theMethod args0 below0 :=
  ⟨lists_1, trivial, launch0.admits_env _ _ _, launch0.least_env, fairChoices_fair.cas, fairChoices_fair.clock, w_frames, w_args, w_heap, w_applies, trivial, trivial, w_case⟩
end start1
theorem witness_1 : WitnessClaimed_1 := ⟨start1.p0, start1.e0, start1.about1, start1.theMethod, start1.args0, start1.below0, start1.atStart⟩
end Jvm.Pilot.@@N@@

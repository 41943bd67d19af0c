import JvmDerived
import JvmDerived.Pilot.@@N@@Statement
import JvmDerived.Pilot.@@N@@Code
set_option linter.unusedVariables false
set_option linter.unusedSimpArgs false
@@BLOCK:NumsL.lean.txt@@
@@BLOCK:Masks.lean.txt@@
namespace Jvm.RoadKit
open Sem ClassFile Op Lib Jvm.Stand Jvm.Free Jvm.LawKit
section New
variable {p : Program} {l : Launch} {e : Env} {R : Room} {s : State} {m : MethodId} {args : Array Value} {below : List Frame} {meth : Method} {c : Code} {T : State} {locs : List Loc} {cells slots : Nat}
theorem retI (X : Stand p l e R s m args below meth c T locs cells slots) (hx : p.tables.exec = Jvm.exec) {pc : Nat} {Ls : Array Slot} {z : Int32} {rest : List Value} (hret : meth.sig.returnType = some .int) (hd : decode c.code pc = .ok (.ireturn, 1)) {fs : List Frame}
    (hl : ∀ (f : JFrame) (acts : List Action), f.method = m → f.locked = none → f.entered = [] → (doReturn e (T.setTop f) acts (some (.int z))).1 = T.setFrames fs) : Steps p.tables e below (T.setTop (mkF m pc Ls (.int z :: rest))) (T.setFrames fs) := by
  have hm' : T.vm.method? m = some meth := X.method'
  have hn : narrow .int (.int z) = .int z := rfl
  show Steps p.tables e below (T.setTop { method := m, pc := pc, locals := Ls, stack := _ :: rest, locked := none }) _
  jvm_step X.here [X.here.top, hx, hd, hm', hret, hn]
  first | (intro acts; rw [hl _ acts rfl rfl rfl]) | rw [hl _ _ rfl rfl rfl]
  exact Steps.refl _
theorem retJ (X : Stand p l e R s m args below meth c T locs cells slots) (hx : p.tables.exec = Jvm.exec) {pc : Nat} {Ls : Array Slot} {z : Int64} {rest : List Value} (hret : meth.sig.returnType = some .long) (hd : decode c.code pc = .ok (.lreturn, 1)) {fs : List Frame}
    (hl : ∀ (f : JFrame) (acts : List Action), f.method = m → f.locked = none → f.entered = [] → (doReturn e (T.setTop f) acts (some (.long z))).1 = T.setFrames fs) : Steps p.tables e below (T.setTop (mkF m pc Ls (.long z :: rest))) (T.setFrames fs) := by
  have hm' : T.vm.method? m = some meth := X.method'
  have hn : narrow .long (.long z) = .long z := rfl
  show Steps p.tables e below (T.setTop { method := m, pc := pc, locals := Ls, stack := _ :: rest, locked := none }) _
  jvm_step X.here [X.here.top, hx, hd, hm', hret, hn]
  first | (intro acts; rw [hl _ acts rfl rfl rfl]) | rw [hl _ _ rfl rfl rfl]
  exact Steps.refl _
end New
theorem own_ite {α : Type} {P : Prop} [Decidable P] {f : α → Prop} {a b : α} (ha : f a) (hb : f b) : f (if P then a else b) := by split <;> assumption
theorem own_lc_eq {x y : Int64} : lcmpW x y = 0 ↔ x = y := by rw [lcW]; exact lc_eq x y
theorem own_lc_lt {x y : Int64} : lcmpW x y < 0 ↔ x < y := by rw [lcW]; exact lc_lt x y
theorem own_lc_gt {x y : Int64} : 0 < lcmpW x y ↔ y < x := by rw [lcW]; exact lc_gt x y
end Jvm.RoadKit
namespace Jvm.RoadKit
open Sem ClassFile Op Lib Jvm.Stand Jvm.Free Jvm.LawKit
section Own
variable {Z : State} {h h' : Heap} {a b : Addr} {ty : FieldType} {n j : Int32} {sl : Nat} {v : Value} {ws : List Addr} {α : Type} {mk : α → Value} {g : Nat → α} {w : α}
/-- an array: its kind, its length and, by a function, what it holds -/
def JV (mk : α → Value) (Z : State) (h : Heap) (a : Addr) (ty : FieldType) (n : Int32) (g : Nat → α) : Prop := ∃ c : Cell, Arr Z h a c ty ∧ c.slots.size = n.toNatClampNeg ∧ ¬ n < 0 ∧ ∀ i, i < c.slots.size → c.slots[i]? = some (mk (g i))
def updF (g : Nat → α) (k : Nat) (w : α) : Nat → α := fun i => if i = k then w else g i
theorem JV.lt (F : JV mk Z h a ty n g) : a < h.size := by obtain ⟨c, A, -⟩ := F; exact A.lt
theorem JV.ext (F : JV mk Z h a ty n g) (E : Ext h h') : JV mk Z h' a ty n g := by obtain ⟨c, A, r⟩ := F; exact ⟨c, A.ext E, r⟩
theorem JV.other (F : JV mk Z h b ty n g) (W : Wr h h' a sl v) (q : b ≠ a) : JV mk Z h' b ty n g := by obtain ⟨c, A, r⟩ := F; exact ⟨c, A.other W q, r⟩
theorem JV.keep (F : JV mk Z h a ty n g) (K : Keep h h' ws) (q : a ∉ ws) : JV mk Z h' a ty n g := by obtain ⟨c, A, r⟩ := F; exact ⟨c, ⟨K.2.1 a c A.1 q, A.2⟩, r⟩
theorem JV.new {k : ClassId} (A : Arr Z h a (newA k ty n) ty) (q : ¬ n < 0) (w : α) (hd : defaultValue ty = mk w) : JV mk Z h a ty n (fun _ => w) := by
  obtain ⟨c, A', -, S, N, H, -⟩ := Arv.new A q
  exact ⟨c, A', S, N, fun i hi => by rw [H i hi, hd]; rfl⟩
theorem JV.in (F : JV mk Z h a ty n g) (q : ¬ j < 0 ∧ j < n) : ∃ c : Cell, Arr Z h a c ty ∧ ¬ (j < 0 ∨ c.slots.size ≤ j.toNatClampNeg) ∧ c.slots[j.toNatClampNeg]? = some (mk (g j.toNatClampNeg)) := by
  obtain ⟨c, A, S, N, H⟩ := F
  have hin := inb_of S q
  exact ⟨c, A, hin, H _ (Nat.lt_of_not_le fun y => hin (Or.inr y))⟩
theorem JV.len (F : JV mk Z h a ty n g) : ∃ c : Cell, Arr Z h a c ty ∧ c.slots.size.toInt32 = n := by
  obtain ⟨c, A, S, N, H⟩ := F
  exact ⟨c, A, len_of S N⟩
theorem JV.nn (F : JV mk Z h a ty n g) : ¬ n < 0 := by obtain ⟨c, A, S, N, H⟩ := F; exact N
theorem JV.set (F : JV mk Z h a ty n g) (W : Wr h h' a j.toNatClampNeg (mk w)) : JV mk Z h' a ty n (updF g j.toNatClampNeg w) := by
  obtain ⟨c, A, S, N, H⟩ := F
  refine ⟨_, A.same W, ?_, N, ?_⟩
  · rw [← S]; simp [Cell.setSlot]
  · intro i hi
    have hi' : i < c.slots.size := by simpa [Cell.setSlot] using hi
    obtain ⟨cell, h1, -, h3, rfl⟩ := W
    cases A.1.symm.trans h1
    by_cases e : i = j.toNatClampNeg
    · subst e; simp [Cell.setSlot, updF, hi']
    · rw [show (c.setSlot j.toNatClampNeg (mk w)).slots[i]? = c.slots[i]? from by simp [Cell.setSlot, Array.getElem?_setIfInBounds, Ne.symm e], H i hi']
      simp [updF, e]
end Own
end Jvm.RoadKit
namespace Jvm.Pilot.@@N@@
open Jvm Jvm.ClassFile Sem Op Lib Jvm.Free Jvm.Stand Jvm.LawKit Jvm.RoadKit Bundle Jvm.Pilot.@@N@@.Jvm.D
def Lead (p : Program) (e : Env) (below : List Frame) (A B : State) : Prop := ∀ t, Steps p.tables e below B t → Steps p.tables e below A t
def R1_2_191_0 (p0 : Int32) : Int32 := (if (983039 : Int32) < p0 then (0 : Int32) else (1 : Int32))
def R1_2_185_0 (p0 : Int32) : Int32 := (if p0 < (65536 : Int32) then (0 : Int32) else (R1_2_191_0 p0))
def R1_2_179_0 (p0 : Int32) : Int32 := (if (65533 : Int32) < p0 then (R1_2_185_0 p0) else (1 : Int32))
def R1_2_173_0 (p0 : Int32) : Int32 := (if p0 < (65008 : Int32) then (R1_2_185_0 p0) else (R1_2_179_0 p0))
def R1_2_167_0 (p0 : Int32) : Int32 := (if (64975 : Int32) < p0 then (R1_2_173_0 p0) else (1 : Int32))
def R1_2_161_0 (p0 : Int32) : Int32 := (if p0 < (63744 : Int32) then (R1_2_173_0 p0) else (R1_2_167_0 p0))
def R1_2_155_0 (p0 : Int32) : Int32 := (if (55295 : Int32) < p0 then (R1_2_161_0 p0) else (1 : Int32))
def R1_2_148_0 (p0 : Int32) : Int32 := (if p0 < (12289 : Int32) then (R1_2_161_0 p0) else (R1_2_155_0 p0))
def R1_2_141_0 (p0 : Int32) : Int32 := (if (12271 : Int32) < p0 then (R1_2_148_0 p0) else (1 : Int32))
def R1_2_134_0 (p0 : Int32) : Int32 := (if p0 < (11264 : Int32) then (R1_2_148_0 p0) else (R1_2_141_0 p0))
def R1_2_127_0 (p0 : Int32) : Int32 := (if (8591 : Int32) < p0 then (R1_2_134_0 p0) else (1 : Int32))
def R1_2_120_0 (p0 : Int32) : Int32 := (if p0 < (8304 : Int32) then (R1_2_134_0 p0) else (R1_2_127_0 p0))
def R1_2_113_0 (p0 : Int32) : Int32 := (if (8205 : Int32) < p0 then (R1_2_120_0 p0) else (1 : Int32))
def R1_2_106_0 (p0 : Int32) : Int32 := (if p0 < (8204 : Int32) then (R1_2_120_0 p0) else (R1_2_113_0 p0))
def R1_2_99_0 (p0 : Int32) : Int32 := (if (8191 : Int32) < p0 then (R1_2_106_0 p0) else (1 : Int32))
def R1_2_92_0 (p0 : Int32) : Int32 := (if p0 < (895 : Int32) then (R1_2_106_0 p0) else (R1_2_99_0 p0))
def R1_2_85_0 (p0 : Int32) : Int32 := (if (893 : Int32) < p0 then (R1_2_92_0 p0) else (1 : Int32))
def R1_2_78_0 (p0 : Int32) : Int32 := (if p0 < (880 : Int32) then (R1_2_92_0 p0) else (R1_2_85_0 p0))
def R1_2_71_0 (p0 : Int32) : Int32 := (if (767 : Int32) < p0 then (R1_2_78_0 p0) else (1 : Int32))
def R1_2_64_0 (p0 : Int32) : Int32 := (if p0 < (248 : Int32) then (R1_2_78_0 p0) else (R1_2_71_0 p0))
def R1_2_57_0 (p0 : Int32) : Int32 := (if (246 : Int32) < p0 then (R1_2_64_0 p0) else (1 : Int32))
def R1_2_50_0 (p0 : Int32) : Int32 := (if p0 < (216 : Int32) then (R1_2_64_0 p0) else (R1_2_57_0 p0))
def R1_2_43_0 (p0 : Int32) : Int32 := (if (214 : Int32) < p0 then (R1_2_50_0 p0) else (1 : Int32))
def R1_2_36_0 (p0 : Int32) : Int32 := (if p0 < (192 : Int32) then (R1_2_50_0 p0) else (R1_2_43_0 p0))
def R1_2_30_0 (p0 : Int32) : Int32 := (if p0 = (58 : Int32) then (1 : Int32) else (R1_2_36_0 p0))
def R1_2_24_0 (p0 : Int32) : Int32 := (if p0 = (95 : Int32) then (1 : Int32) else (R1_2_30_0 p0))
def R1_2_18_0 (p0 : Int32) : Int32 := (if (90 : Int32) < p0 then (R1_2_24_0 p0) else (1 : Int32))
def R1_2_12_0 (p0 : Int32) : Int32 := (if p0 < (65 : Int32) then (R1_2_24_0 p0) else (R1_2_18_0 p0))
def R1_2_6_0 (p0 : Int32) : Int32 := (if (122 : Int32) < p0 then (R1_2_12_0 p0) else (1 : Int32))
def R1_2_3_0 (p0 : Int32) : Int32 := (if p0 < (97 : Int32) then (R1_2_12_0 p0) else (R1_2_6_0 p0))
theorem d1_0 : decode prog_69_method_9_code 0 = .ok (.iload_n 0, 1) := by decide +kernel
theorem d1_1 : decode prog_69_method_9_code 1 = .ok (.bipush 97, 2) := by decide +kernel
theorem d1_3 : decode prog_69_method_9_code 3 = .ok (.if_icmp .lt 9, 3) := by decide +kernel
theorem d1_6 : decode prog_69_method_9_code 6 = .ok (.iload_n 0, 1) := by decide +kernel
theorem d1_7 : decode prog_69_method_9_code 7 = .ok (.bipush 122, 2) := by decide +kernel
theorem d1_9 : decode prog_69_method_9_code 9 = .ok (.if_icmp .le 188, 3) := by decide +kernel
theorem d1_12 : decode prog_69_method_9_code 12 = .ok (.iload_n 0, 1) := by decide +kernel
theorem d1_13 : decode prog_69_method_9_code 13 = .ok (.bipush 65, 2) := by decide +kernel
theorem d1_15 : decode prog_69_method_9_code 15 = .ok (.if_icmp .lt 9, 3) := by decide +kernel
theorem d1_18 : decode prog_69_method_9_code 18 = .ok (.iload_n 0, 1) := by decide +kernel
theorem d1_19 : decode prog_69_method_9_code 19 = .ok (.bipush 90, 2) := by decide +kernel
theorem d1_21 : decode prog_69_method_9_code 21 = .ok (.if_icmp .le 176, 3) := by decide +kernel
theorem d1_24 : decode prog_69_method_9_code 24 = .ok (.iload_n 0, 1) := by decide +kernel
theorem d1_25 : decode prog_69_method_9_code 25 = .ok (.bipush 95, 2) := by decide +kernel
theorem d1_27 : decode prog_69_method_9_code 27 = .ok (.if_icmp .eq 170, 3) := by decide +kernel
theorem d1_30 : decode prog_69_method_9_code 30 = .ok (.iload_n 0, 1) := by decide +kernel
theorem d1_31 : decode prog_69_method_9_code 31 = .ok (.bipush 58, 2) := by decide +kernel
theorem d1_33 : decode prog_69_method_9_code 33 = .ok (.if_icmp .eq 164, 3) := by decide +kernel
theorem d1_36 : decode prog_69_method_9_code 36 = .ok (.iload_n 0, 1) := by decide +kernel
theorem d1_37 : decode prog_69_method_9_code 37 = .ok (.sipush 192, 3) := by decide +kernel
theorem d1_40 : decode prog_69_method_9_code 40 = .ok (.if_icmp .lt 10, 3) := by decide +kernel
theorem d1_43 : decode prog_69_method_9_code 43 = .ok (.iload_n 0, 1) := by decide +kernel
theorem d1_44 : decode prog_69_method_9_code 44 = .ok (.sipush 214, 3) := by decide +kernel
theorem d1_47 : decode prog_69_method_9_code 47 = .ok (.if_icmp .le 150, 3) := by decide +kernel
theorem d1_50 : decode prog_69_method_9_code 50 = .ok (.iload_n 0, 1) := by decide +kernel
theorem d1_51 : decode prog_69_method_9_code 51 = .ok (.sipush 216, 3) := by decide +kernel
theorem d1_54 : decode prog_69_method_9_code 54 = .ok (.if_icmp .lt 10, 3) := by decide +kernel
theorem d1_57 : decode prog_69_method_9_code 57 = .ok (.iload_n 0, 1) := by decide +kernel
theorem d1_58 : decode prog_69_method_9_code 58 = .ok (.sipush 246, 3) := by decide +kernel
theorem d1_61 : decode prog_69_method_9_code 61 = .ok (.if_icmp .le 136, 3) := by decide +kernel
theorem d1_64 : decode prog_69_method_9_code 64 = .ok (.iload_n 0, 1) := by decide +kernel
theorem d1_65 : decode prog_69_method_9_code 65 = .ok (.sipush 248, 3) := by decide +kernel
theorem d1_68 : decode prog_69_method_9_code 68 = .ok (.if_icmp .lt 10, 3) := by decide +kernel
theorem d1_71 : decode prog_69_method_9_code 71 = .ok (.iload_n 0, 1) := by decide +kernel
theorem d1_72 : decode prog_69_method_9_code 72 = .ok (.sipush 767, 3) := by decide +kernel
theorem d1_75 : decode prog_69_method_9_code 75 = .ok (.if_icmp .le 122, 3) := by decide +kernel
theorem d1_78 : decode prog_69_method_9_code 78 = .ok (.iload_n 0, 1) := by decide +kernel
theorem d1_79 : decode prog_69_method_9_code 79 = .ok (.sipush 880, 3) := by decide +kernel
theorem d1_82 : decode prog_69_method_9_code 82 = .ok (.if_icmp .lt 10, 3) := by decide +kernel
theorem d1_85 : decode prog_69_method_9_code 85 = .ok (.iload_n 0, 1) := by decide +kernel
theorem d1_86 : decode prog_69_method_9_code 86 = .ok (.sipush 893, 3) := by decide +kernel
theorem d1_89 : decode prog_69_method_9_code 89 = .ok (.if_icmp .le 108, 3) := by decide +kernel
theorem d1_92 : decode prog_69_method_9_code 92 = .ok (.iload_n 0, 1) := by decide +kernel
theorem d1_93 : decode prog_69_method_9_code 93 = .ok (.sipush 895, 3) := by decide +kernel
theorem d1_96 : decode prog_69_method_9_code 96 = .ok (.if_icmp .lt 10, 3) := by decide +kernel
theorem d1_99 : decode prog_69_method_9_code 99 = .ok (.iload_n 0, 1) := by decide +kernel
theorem d1_100 : decode prog_69_method_9_code 100 = .ok (.sipush 8191, 3) := by decide +kernel
theorem d1_103 : decode prog_69_method_9_code 103 = .ok (.if_icmp .le 94, 3) := by decide +kernel
theorem d1_106 : decode prog_69_method_9_code 106 = .ok (.iload_n 0, 1) := by decide +kernel
theorem d1_107 : decode prog_69_method_9_code 107 = .ok (.sipush 8204, 3) := by decide +kernel
theorem d1_110 : decode prog_69_method_9_code 110 = .ok (.if_icmp .lt 10, 3) := by decide +kernel
theorem d1_113 : decode prog_69_method_9_code 113 = .ok (.iload_n 0, 1) := by decide +kernel
theorem d1_114 : decode prog_69_method_9_code 114 = .ok (.sipush 8205, 3) := by decide +kernel
theorem d1_117 : decode prog_69_method_9_code 117 = .ok (.if_icmp .le 80, 3) := by decide +kernel
theorem d1_120 : decode prog_69_method_9_code 120 = .ok (.iload_n 0, 1) := by decide +kernel
theorem d1_121 : decode prog_69_method_9_code 121 = .ok (.sipush 8304, 3) := by decide +kernel
theorem d1_124 : decode prog_69_method_9_code 124 = .ok (.if_icmp .lt 10, 3) := by decide +kernel
theorem d1_127 : decode prog_69_method_9_code 127 = .ok (.iload_n 0, 1) := by decide +kernel
theorem d1_128 : decode prog_69_method_9_code 128 = .ok (.sipush 8591, 3) := by decide +kernel
theorem d1_131 : decode prog_69_method_9_code 131 = .ok (.if_icmp .le 66, 3) := by decide +kernel
theorem d1_134 : decode prog_69_method_9_code 134 = .ok (.iload_n 0, 1) := by decide +kernel
theorem d1_135 : decode prog_69_method_9_code 135 = .ok (.sipush 11264, 3) := by decide +kernel
theorem d1_138 : decode prog_69_method_9_code 138 = .ok (.if_icmp .lt 10, 3) := by decide +kernel
theorem d1_141 : decode prog_69_method_9_code 141 = .ok (.iload_n 0, 1) := by decide +kernel
theorem d1_142 : decode prog_69_method_9_code 142 = .ok (.sipush 12271, 3) := by decide +kernel
theorem d1_145 : decode prog_69_method_9_code 145 = .ok (.if_icmp .le 52, 3) := by decide +kernel
theorem d1_148 : decode prog_69_method_9_code 148 = .ok (.iload_n 0, 1) := by decide +kernel
theorem d1_149 : decode prog_69_method_9_code 149 = .ok (.sipush 12289, 3) := by decide +kernel
theorem d1_152 : decode prog_69_method_9_code 152 = .ok (.if_icmp .lt 9, 3) := by decide +kernel
theorem d1_155 : decode prog_69_method_9_code 155 = .ok (.iload_n 0, 1) := by decide +kernel
theorem d1_156 : decode prog_69_method_9_code 156 = .ok (.ldc 109, 2) := by decide +kernel
theorem d1_158 : decode prog_69_method_9_code 158 = .ok (.if_icmp .le 39, 3) := by decide +kernel
theorem d1_161 : decode prog_69_method_9_code 161 = .ok (.iload_n 0, 1) := by decide +kernel
theorem d1_162 : decode prog_69_method_9_code 162 = .ok (.ldc 110, 2) := by decide +kernel
theorem d1_164 : decode prog_69_method_9_code 164 = .ok (.if_icmp .lt 9, 3) := by decide +kernel
theorem d1_167 : decode prog_69_method_9_code 167 = .ok (.iload_n 0, 1) := by decide +kernel
theorem d1_168 : decode prog_69_method_9_code 168 = .ok (.ldc 111, 2) := by decide +kernel
theorem d1_170 : decode prog_69_method_9_code 170 = .ok (.if_icmp .le 27, 3) := by decide +kernel
theorem d1_173 : decode prog_69_method_9_code 173 = .ok (.iload_n 0, 1) := by decide +kernel
theorem d1_174 : decode prog_69_method_9_code 174 = .ok (.ldc 112, 2) := by decide +kernel
theorem d1_176 : decode prog_69_method_9_code 176 = .ok (.if_icmp .lt 9, 3) := by decide +kernel
theorem d1_179 : decode prog_69_method_9_code 179 = .ok (.iload_n 0, 1) := by decide +kernel
theorem d1_180 : decode prog_69_method_9_code 180 = .ok (.ldc 113, 2) := by decide +kernel
theorem d1_182 : decode prog_69_method_9_code 182 = .ok (.if_icmp .le 15, 3) := by decide +kernel
theorem d1_185 : decode prog_69_method_9_code 185 = .ok (.iload_n 0, 1) := by decide +kernel
theorem d1_186 : decode prog_69_method_9_code 186 = .ok (.ldc 114, 2) := by decide +kernel
theorem d1_188 : decode prog_69_method_9_code 188 = .ok (.if_icmp .lt 13, 3) := by decide +kernel
theorem d1_191 : decode prog_69_method_9_code 191 = .ok (.iload_n 0, 1) := by decide +kernel
theorem d1_192 : decode prog_69_method_9_code 192 = .ok (.ldc 115, 2) := by decide +kernel
theorem d1_194 : decode prog_69_method_9_code 194 = .ok (.if_icmp .gt 7, 3) := by decide +kernel
theorem d1_197 : decode prog_69_method_9_code 197 = .ok (.iconst 1, 1) := by decide +kernel
theorem d1_198 : decode prog_69_method_9_code 198 = .ok (.goto 4, 3) := by decide +kernel
theorem d1_201 : decode prog_69_method_9_code 201 = .ok (.iconst 0, 1) := by decide +kernel
theorem d1_202 : decode prog_69_method_9_code 202 = .ok (.ireturn, 1) := by decide +kernel
def F1 (p0 : Int32) : Int32 := (nar .boolean (R1_2_3_0 p0))
theorem pn_com_example_processionary_processionary_expressions_Name : plainName "com/example/processionary/processionary/expressions/Name" = true := by first | (simp [plainName, overriddenIn]; done) | decide +kernel
theorem ef_1 (m : MethodId) (p0 : Int32) : entryFrame m #[(.int p0)] 1 = mkF m 0 #[.val (.int p0)] [] := by first | (simp [entryFrame, mkF, argsToLocals, Value.category]; done) | rfl
def Q1 (Z : State) (p0 : Int32)  (h0 : Heap) (n0 : Nat) (v : Option Value) (h : Heap) (L : List Loc) : Prop := v = some (.int (F1 p0)) ∧ Fr n0 L ∧ h = h0
set_option maxRecDepth 65536 in
set_option maxHeartbeats 40000000 in
theorem rm1 (l : Launch) (Z : State) (a0 : Array Value) (hw : ∀ d ∈ tables_1, d.before a0 Z = true) (ws : List Jvm.Cond) (p0 : Int32)  (h0 : Heap) (n0 : Nat) (Z0 : n0 ≤ h0.size)  :
    MetFree l (⟨"com/example/processionary/processionary/expressions/Name", "isStartChar", "(I)Z"⟩ : MethodName) (head1 (Jvm.Cond.code (⟨"com/example/processionary/processionary/expressions/Name", "isStartChar", "(I)Z"⟩ : MethodName) prog_69_method_9_code 1 (some .boolean) :: ws) ({ frames := 0, cells := 0, slots := 0, locals := 0 } : Room)) (fun a U => a = #[(.int p0)] ∧ Z.Warmed39 U.vm ∧ U.heap = h0) (fun _ _ _ _ _ => True) (fun _ U o U' => ∃ v L, o = .returned v ∧ Q1 Z p0 h0 n0 v U'.heap L ∧ FrameEnd U o U' L ({ frames := 0, cells := 0, slots := 0, locals := 0 } : Room).cells ({ frames := 0, cells := 0, slots := 0, locals := 0 } : Room).slots) := by
  refine MetFree.of_bodySF (plainFor_of_name pn_com_example_processionary_processionary_expressions_Name) hisR ?_
  intro p e s m args below meth c s₁ Bd hml0 hP hK
  obtain ⟨rfl, hZ, hh⟩ := hP
  have hx := Bd.exec
  have hby := Bd.bytes
  have hml : c.maxLocals = 1 := hml0
  have hown : s.vm.findClass "com/example/processionary/processionary/expressions/Name" = some m.cls := findClass_of_methodNamed Bd.named
  have hnm := (name_of_methodNamed Bd.named Bd.method).1
  have X0 : Stand p l e ({ frames := 0, cells := 0, slots := 0, locals := 0 } : Room) s m #[(.int p0)] below meth c s₁ [] 0 0 := Stand.of_body Bd
  have e0 : s₁.heap = h0 := by rw [← hh, Bd.state]; rfl
  have N0 := Fr.nil n0
  have K0 : Keep h0 h0 [] := Keep.refl _ _
  obtain ⟨G, hG⟩ : ∃ z, z = s₁.setTop (entryFrame m #[(.int p0)] 1) := ⟨_, rfl⟩
  have pre0 : Lead p e below G (s₁.setTop (mkF m 0 #[.val (.int p0)] [])) := fun t k => by rw [hG]; exact castTop (ef_1 m p0) k
  have pre1 : Lead p e below G (s₁.setTop (mkF m 3 #[.val (.int p0)] [(.int (97 : Int32)), (.int p0)])) := fun t k => by
    refine pre0 t ?_
    show Steps p.tables e below (s₁.setTop (mkF m 0 #[.val (.int p0)] [])) _
    refine XS.iloadN X0.here hx rfl (hb hby d1_0) rfl ?_
    show Steps p.tables e below (s₁.setTop (mkF m 1 #[.val (.int p0)] [(.int p0)])) _
    refine XS.bipush X0.here hx rfl (hb hby d1_1) ?_
    show Steps p.tables e below (s₁.setTop (mkF m 3 #[.val (.int p0)] [(.int (97 : Int32)), (.int p0)])) _
    exact k
  have c2_201 : ∀ t, Steps p.tables e below (s₁.setTop (mkF m 202 #[.val (.int p0)] [(.int (0 : Int32))])) t → Steps p.tables e below (s₁.setTop (mkF m 201 #[.val (.int p0)] [])) t := fun t k => by
    refine XS.iconst X0.here hx rfl (hb hby d1_201) ?_
    show Steps p.tables e below (s₁.setTop (mkF m 202 #[.val (.int p0)] [(.int (0 : Int32))])) _
    exact k
  have c2_197 : ∀ t, Steps p.tables e below (s₁.setTop (mkF m 202 #[.val (.int p0)] [(.int (1 : Int32))])) t → Steps p.tables e below (s₁.setTop (mkF m 197 #[.val (.int p0)] [])) t := fun t k => by
    refine XS.iconst X0.here hx rfl (hb hby d1_197) ?_
    show Steps p.tables e below (s₁.setTop (mkF m 198 #[.val (.int p0)] [(.int (1 : Int32))])) _
    refine XS.goto X0.here hx rfl (pc0 := 198) (pc' := 202) rfl (hb hby d1_198) (by decide) (by decide) ?_
    show Steps p.tables e below (s₁.setTop (mkF m 202 #[.val (.int p0)] [(.int (1 : Int32))])) _
    exact k
  have c2_191 : ∀ t, Steps p.tables e below (s₁.setTop (mkF m 202 #[.val (.int p0)] [(.int (R1_2_191_0 p0))])) t → Steps p.tables e below (s₁.setTop (mkF m 191 #[.val (.int p0)] [])) t := fun t k => by
    refine XS.iloadN X0.here hx rfl (hb hby d1_191) rfl ?_
    show Steps p.tables e below (s₁.setTop (mkF m 192 #[.val (.int p0)] [(.int p0)])) _
    refine X0.ldcInt hx hown (mvT hZ (hw _ (List.mem_of_getElem? (i := 26) rfl))) (g := (mkF m 192 #[.val (.int p0)] [(.int p0)])) rfl (hb hby d1_192) _ ?_
    show Steps p.tables e below (s₁.setTop (mkF m 194 #[.val (.int p0)] [(.int (983039 : Int32)), (.int p0)])) _
    by_cases hd2_191 : (983039 : Int32) < p0
    · rw [show (R1_2_191_0 p0) = (if (983039 : Int32) < p0 then (0 : Int32) else (1 : Int32)) from rfl, if_pos hd2_191] at k
      refine XS.icmpYes X0.here hx rfl (pc0 := 194) (pc' := 201) rfl (hb hby d1_194) rfl (tlt hd2_191).2.2.1 (by decide) (by decide) ?_
      show Steps p.tables e below (s₁.setTop (mkF m 201 #[.val (.int p0)] [])) _
      exact c2_201 t k
    · rw [show (R1_2_191_0 p0) = (if (983039 : Int32) < p0 then (0 : Int32) else (1 : Int32)) from rfl, if_neg hd2_191] at k
      refine XS.icmpNo X0.here hx rfl (hb hby d1_194) rfl (flt hd2_191).2.2.1 ?_
      show Steps p.tables e below (s₁.setTop (mkF m 197 #[.val (.int p0)] [])) _
      exact c2_197 t k
  have c2_185 : ∀ t, Steps p.tables e below (s₁.setTop (mkF m 202 #[.val (.int p0)] [(.int (R1_2_185_0 p0))])) t → Steps p.tables e below (s₁.setTop (mkF m 185 #[.val (.int p0)] [])) t := fun t k => by
    refine XS.iloadN X0.here hx rfl (hb hby d1_185) rfl ?_
    show Steps p.tables e below (s₁.setTop (mkF m 186 #[.val (.int p0)] [(.int p0)])) _
    refine X0.ldcInt hx hown (mvT hZ (hw _ (List.mem_of_getElem? (i := 14) rfl))) (g := (mkF m 186 #[.val (.int p0)] [(.int p0)])) rfl (hb hby d1_186) _ ?_
    show Steps p.tables e below (s₁.setTop (mkF m 188 #[.val (.int p0)] [(.int (65536 : Int32)), (.int p0)])) _
    by_cases hd2_185 : p0 < (65536 : Int32)
    · rw [show (R1_2_185_0 p0) = (if p0 < (65536 : Int32) then (0 : Int32) else (R1_2_191_0 p0)) from rfl, if_pos hd2_185] at k
      refine XS.icmpYes X0.here hx rfl (pc0 := 188) (pc' := 201) rfl (hb hby d1_188) rfl (tlt hd2_185).1 (by decide) (by decide) ?_
      show Steps p.tables e below (s₁.setTop (mkF m 201 #[.val (.int p0)] [])) _
      exact c2_201 t k
    · rw [show (R1_2_185_0 p0) = (if p0 < (65536 : Int32) then (0 : Int32) else (R1_2_191_0 p0)) from rfl, if_neg hd2_185] at k
      refine XS.icmpNo X0.here hx rfl (hb hby d1_188) rfl (flt hd2_185).1 ?_
      show Steps p.tables e below (s₁.setTop (mkF m 191 #[.val (.int p0)] [])) _
      exact c2_191 t k
  have c2_179 : ∀ t, Steps p.tables e below (s₁.setTop (mkF m 202 #[.val (.int p0)] [(.int (R1_2_179_0 p0))])) t → Steps p.tables e below (s₁.setTop (mkF m 179 #[.val (.int p0)] [])) t := fun t k => by
    refine XS.iloadN X0.here hx rfl (hb hby d1_179) rfl ?_
    show Steps p.tables e below (s₁.setTop (mkF m 180 #[.val (.int p0)] [(.int p0)])) _
    refine X0.ldcInt hx hown (mvT hZ (hw _ (List.mem_of_getElem? (i := 25) rfl))) (g := (mkF m 180 #[.val (.int p0)] [(.int p0)])) rfl (hb hby d1_180) _ ?_
    show Steps p.tables e below (s₁.setTop (mkF m 182 #[.val (.int p0)] [(.int (65533 : Int32)), (.int p0)])) _
    by_cases hd2_179 : (65533 : Int32) < p0
    · rw [show (R1_2_179_0 p0) = (if (65533 : Int32) < p0 then (R1_2_185_0 p0) else (1 : Int32)) from rfl, if_pos hd2_179] at k
      refine XS.icmpNo X0.here hx rfl (hb hby d1_182) rfl (tlt hd2_179).2.2.2 ?_
      show Steps p.tables e below (s₁.setTop (mkF m 185 #[.val (.int p0)] [])) _
      exact c2_185 t k
    · rw [show (R1_2_179_0 p0) = (if (65533 : Int32) < p0 then (R1_2_185_0 p0) else (1 : Int32)) from rfl, if_neg hd2_179] at k
      refine XS.icmpYes X0.here hx rfl (pc0 := 182) (pc' := 197) rfl (hb hby d1_182) rfl (flt hd2_179).2.2.2 (by decide) (by decide) ?_
      show Steps p.tables e below (s₁.setTop (mkF m 197 #[.val (.int p0)] [])) _
      exact c2_197 t k
  have c2_173 : ∀ t, Steps p.tables e below (s₁.setTop (mkF m 202 #[.val (.int p0)] [(.int (R1_2_173_0 p0))])) t → Steps p.tables e below (s₁.setTop (mkF m 173 #[.val (.int p0)] [])) t := fun t k => by
    refine XS.iloadN X0.here hx rfl (hb hby d1_173) rfl ?_
    show Steps p.tables e below (s₁.setTop (mkF m 174 #[.val (.int p0)] [(.int p0)])) _
    refine X0.ldcInt hx hown (mvT hZ (hw _ (List.mem_of_getElem? (i := 13) rfl))) (g := (mkF m 174 #[.val (.int p0)] [(.int p0)])) rfl (hb hby d1_174) _ ?_
    show Steps p.tables e below (s₁.setTop (mkF m 176 #[.val (.int p0)] [(.int (65008 : Int32)), (.int p0)])) _
    by_cases hd2_173 : p0 < (65008 : Int32)
    · rw [show (R1_2_173_0 p0) = (if p0 < (65008 : Int32) then (R1_2_185_0 p0) else (R1_2_179_0 p0)) from rfl, if_pos hd2_173] at k
      refine XS.icmpYes X0.here hx rfl (pc0 := 176) (pc' := 185) rfl (hb hby d1_176) rfl (tlt hd2_173).1 (by decide) (by decide) ?_
      show Steps p.tables e below (s₁.setTop (mkF m 185 #[.val (.int p0)] [])) _
      exact c2_185 t k
    · rw [show (R1_2_173_0 p0) = (if p0 < (65008 : Int32) then (R1_2_185_0 p0) else (R1_2_179_0 p0)) from rfl, if_neg hd2_173] at k
      refine XS.icmpNo X0.here hx rfl (hb hby d1_176) rfl (flt hd2_173).1 ?_
      show Steps p.tables e below (s₁.setTop (mkF m 179 #[.val (.int p0)] [])) _
      exact c2_179 t k
  have c2_167 : ∀ t, Steps p.tables e below (s₁.setTop (mkF m 202 #[.val (.int p0)] [(.int (R1_2_167_0 p0))])) t → Steps p.tables e below (s₁.setTop (mkF m 167 #[.val (.int p0)] [])) t := fun t k => by
    refine XS.iloadN X0.here hx rfl (hb hby d1_167) rfl ?_
    show Steps p.tables e below (s₁.setTop (mkF m 168 #[.val (.int p0)] [(.int p0)])) _
    refine X0.ldcInt hx hown (mvT hZ (hw _ (List.mem_of_getElem? (i := 24) rfl))) (g := (mkF m 168 #[.val (.int p0)] [(.int p0)])) rfl (hb hby d1_168) _ ?_
    show Steps p.tables e below (s₁.setTop (mkF m 170 #[.val (.int p0)] [(.int (64975 : Int32)), (.int p0)])) _
    by_cases hd2_167 : (64975 : Int32) < p0
    · rw [show (R1_2_167_0 p0) = (if (64975 : Int32) < p0 then (R1_2_173_0 p0) else (1 : Int32)) from rfl, if_pos hd2_167] at k
      refine XS.icmpNo X0.here hx rfl (hb hby d1_170) rfl (tlt hd2_167).2.2.2 ?_
      show Steps p.tables e below (s₁.setTop (mkF m 173 #[.val (.int p0)] [])) _
      exact c2_173 t k
    · rw [show (R1_2_167_0 p0) = (if (64975 : Int32) < p0 then (R1_2_173_0 p0) else (1 : Int32)) from rfl, if_neg hd2_167] at k
      refine XS.icmpYes X0.here hx rfl (pc0 := 170) (pc' := 197) rfl (hb hby d1_170) rfl (flt hd2_167).2.2.2 (by decide) (by decide) ?_
      show Steps p.tables e below (s₁.setTop (mkF m 197 #[.val (.int p0)] [])) _
      exact c2_197 t k
  have c2_161 : ∀ t, Steps p.tables e below (s₁.setTop (mkF m 202 #[.val (.int p0)] [(.int (R1_2_161_0 p0))])) t → Steps p.tables e below (s₁.setTop (mkF m 161 #[.val (.int p0)] [])) t := fun t k => by
    refine XS.iloadN X0.here hx rfl (hb hby d1_161) rfl ?_
    show Steps p.tables e below (s₁.setTop (mkF m 162 #[.val (.int p0)] [(.int p0)])) _
    refine X0.ldcInt hx hown (mvT hZ (hw _ (List.mem_of_getElem? (i := 12) rfl))) (g := (mkF m 162 #[.val (.int p0)] [(.int p0)])) rfl (hb hby d1_162) _ ?_
    show Steps p.tables e below (s₁.setTop (mkF m 164 #[.val (.int p0)] [(.int (63744 : Int32)), (.int p0)])) _
    by_cases hd2_161 : p0 < (63744 : Int32)
    · rw [show (R1_2_161_0 p0) = (if p0 < (63744 : Int32) then (R1_2_173_0 p0) else (R1_2_167_0 p0)) from rfl, if_pos hd2_161] at k
      refine XS.icmpYes X0.here hx rfl (pc0 := 164) (pc' := 173) rfl (hb hby d1_164) rfl (tlt hd2_161).1 (by decide) (by decide) ?_
      show Steps p.tables e below (s₁.setTop (mkF m 173 #[.val (.int p0)] [])) _
      exact c2_173 t k
    · rw [show (R1_2_161_0 p0) = (if p0 < (63744 : Int32) then (R1_2_173_0 p0) else (R1_2_167_0 p0)) from rfl, if_neg hd2_161] at k
      refine XS.icmpNo X0.here hx rfl (hb hby d1_164) rfl (flt hd2_161).1 ?_
      show Steps p.tables e below (s₁.setTop (mkF m 167 #[.val (.int p0)] [])) _
      exact c2_167 t k
  have c2_155 : ∀ t, Steps p.tables e below (s₁.setTop (mkF m 202 #[.val (.int p0)] [(.int (R1_2_155_0 p0))])) t → Steps p.tables e below (s₁.setTop (mkF m 155 #[.val (.int p0)] [])) t := fun t k => by
    refine XS.iloadN X0.here hx rfl (hb hby d1_155) rfl ?_
    show Steps p.tables e below (s₁.setTop (mkF m 156 #[.val (.int p0)] [(.int p0)])) _
    refine X0.ldcInt hx hown (mvT hZ (hw _ (List.mem_of_getElem? (i := 23) rfl))) (g := (mkF m 156 #[.val (.int p0)] [(.int p0)])) rfl (hb hby d1_156) _ ?_
    show Steps p.tables e below (s₁.setTop (mkF m 158 #[.val (.int p0)] [(.int (55295 : Int32)), (.int p0)])) _
    by_cases hd2_155 : (55295 : Int32) < p0
    · rw [show (R1_2_155_0 p0) = (if (55295 : Int32) < p0 then (R1_2_161_0 p0) else (1 : Int32)) from rfl, if_pos hd2_155] at k
      refine XS.icmpNo X0.here hx rfl (hb hby d1_158) rfl (tlt hd2_155).2.2.2 ?_
      show Steps p.tables e below (s₁.setTop (mkF m 161 #[.val (.int p0)] [])) _
      exact c2_161 t k
    · rw [show (R1_2_155_0 p0) = (if (55295 : Int32) < p0 then (R1_2_161_0 p0) else (1 : Int32)) from rfl, if_neg hd2_155] at k
      refine XS.icmpYes X0.here hx rfl (pc0 := 158) (pc' := 197) rfl (hb hby d1_158) rfl (flt hd2_155).2.2.2 (by decide) (by decide) ?_
      show Steps p.tables e below (s₁.setTop (mkF m 197 #[.val (.int p0)] [])) _
      exact c2_197 t k
  have c2_148 : ∀ t, Steps p.tables e below (s₁.setTop (mkF m 202 #[.val (.int p0)] [(.int (R1_2_148_0 p0))])) t → Steps p.tables e below (s₁.setTop (mkF m 148 #[.val (.int p0)] [])) t := fun t k => by
    refine XS.iloadN X0.here hx rfl (hb hby d1_148) rfl ?_
    show Steps p.tables e below (s₁.setTop (mkF m 149 #[.val (.int p0)] [(.int p0)])) _
    refine XS.sipush X0.here hx rfl (hb hby d1_149) ?_
    show Steps p.tables e below (s₁.setTop (mkF m 152 #[.val (.int p0)] [(.int (12289 : Int32)), (.int p0)])) _
    by_cases hd2_148 : p0 < (12289 : Int32)
    · rw [show (R1_2_148_0 p0) = (if p0 < (12289 : Int32) then (R1_2_161_0 p0) else (R1_2_155_0 p0)) from rfl, if_pos hd2_148] at k
      refine XS.icmpYes X0.here hx rfl (pc0 := 152) (pc' := 161) rfl (hb hby d1_152) rfl (tlt hd2_148).1 (by decide) (by decide) ?_
      show Steps p.tables e below (s₁.setTop (mkF m 161 #[.val (.int p0)] [])) _
      exact c2_161 t k
    · rw [show (R1_2_148_0 p0) = (if p0 < (12289 : Int32) then (R1_2_161_0 p0) else (R1_2_155_0 p0)) from rfl, if_neg hd2_148] at k
      refine XS.icmpNo X0.here hx rfl (hb hby d1_152) rfl (flt hd2_148).1 ?_
      show Steps p.tables e below (s₁.setTop (mkF m 155 #[.val (.int p0)] [])) _
      exact c2_155 t k
  have c2_141 : ∀ t, Steps p.tables e below (s₁.setTop (mkF m 202 #[.val (.int p0)] [(.int (R1_2_141_0 p0))])) t → Steps p.tables e below (s₁.setTop (mkF m 141 #[.val (.int p0)] [])) t := fun t k => by
    refine XS.iloadN X0.here hx rfl (hb hby d1_141) rfl ?_
    show Steps p.tables e below (s₁.setTop (mkF m 142 #[.val (.int p0)] [(.int p0)])) _
    refine XS.sipush X0.here hx rfl (hb hby d1_142) ?_
    show Steps p.tables e below (s₁.setTop (mkF m 145 #[.val (.int p0)] [(.int (12271 : Int32)), (.int p0)])) _
    by_cases hd2_141 : (12271 : Int32) < p0
    · rw [show (R1_2_141_0 p0) = (if (12271 : Int32) < p0 then (R1_2_148_0 p0) else (1 : Int32)) from rfl, if_pos hd2_141] at k
      refine XS.icmpNo X0.here hx rfl (hb hby d1_145) rfl (tlt hd2_141).2.2.2 ?_
      show Steps p.tables e below (s₁.setTop (mkF m 148 #[.val (.int p0)] [])) _
      exact c2_148 t k
    · rw [show (R1_2_141_0 p0) = (if (12271 : Int32) < p0 then (R1_2_148_0 p0) else (1 : Int32)) from rfl, if_neg hd2_141] at k
      refine XS.icmpYes X0.here hx rfl (pc0 := 145) (pc' := 197) rfl (hb hby d1_145) rfl (flt hd2_141).2.2.2 (by decide) (by decide) ?_
      show Steps p.tables e below (s₁.setTop (mkF m 197 #[.val (.int p0)] [])) _
      exact c2_197 t k
  have c2_134 : ∀ t, Steps p.tables e below (s₁.setTop (mkF m 202 #[.val (.int p0)] [(.int (R1_2_134_0 p0))])) t → Steps p.tables e below (s₁.setTop (mkF m 134 #[.val (.int p0)] [])) t := fun t k => by
    refine XS.iloadN X0.here hx rfl (hb hby d1_134) rfl ?_
    show Steps p.tables e below (s₁.setTop (mkF m 135 #[.val (.int p0)] [(.int p0)])) _
    refine XS.sipush X0.here hx rfl (hb hby d1_135) ?_
    show Steps p.tables e below (s₁.setTop (mkF m 138 #[.val (.int p0)] [(.int (11264 : Int32)), (.int p0)])) _
    by_cases hd2_134 : p0 < (11264 : Int32)
    · rw [show (R1_2_134_0 p0) = (if p0 < (11264 : Int32) then (R1_2_148_0 p0) else (R1_2_141_0 p0)) from rfl, if_pos hd2_134] at k
      refine XS.icmpYes X0.here hx rfl (pc0 := 138) (pc' := 148) rfl (hb hby d1_138) rfl (tlt hd2_134).1 (by decide) (by decide) ?_
      show Steps p.tables e below (s₁.setTop (mkF m 148 #[.val (.int p0)] [])) _
      exact c2_148 t k
    · rw [show (R1_2_134_0 p0) = (if p0 < (11264 : Int32) then (R1_2_148_0 p0) else (R1_2_141_0 p0)) from rfl, if_neg hd2_134] at k
      refine XS.icmpNo X0.here hx rfl (hb hby d1_138) rfl (flt hd2_134).1 ?_
      show Steps p.tables e below (s₁.setTop (mkF m 141 #[.val (.int p0)] [])) _
      exact c2_141 t k
  have c2_127 : ∀ t, Steps p.tables e below (s₁.setTop (mkF m 202 #[.val (.int p0)] [(.int (R1_2_127_0 p0))])) t → Steps p.tables e below (s₁.setTop (mkF m 127 #[.val (.int p0)] [])) t := fun t k => by
    refine XS.iloadN X0.here hx rfl (hb hby d1_127) rfl ?_
    show Steps p.tables e below (s₁.setTop (mkF m 128 #[.val (.int p0)] [(.int p0)])) _
    refine XS.sipush X0.here hx rfl (hb hby d1_128) ?_
    show Steps p.tables e below (s₁.setTop (mkF m 131 #[.val (.int p0)] [(.int (8591 : Int32)), (.int p0)])) _
    by_cases hd2_127 : (8591 : Int32) < p0
    · rw [show (R1_2_127_0 p0) = (if (8591 : Int32) < p0 then (R1_2_134_0 p0) else (1 : Int32)) from rfl, if_pos hd2_127] at k
      refine XS.icmpNo X0.here hx rfl (hb hby d1_131) rfl (tlt hd2_127).2.2.2 ?_
      show Steps p.tables e below (s₁.setTop (mkF m 134 #[.val (.int p0)] [])) _
      exact c2_134 t k
    · rw [show (R1_2_127_0 p0) = (if (8591 : Int32) < p0 then (R1_2_134_0 p0) else (1 : Int32)) from rfl, if_neg hd2_127] at k
      refine XS.icmpYes X0.here hx rfl (pc0 := 131) (pc' := 197) rfl (hb hby d1_131) rfl (flt hd2_127).2.2.2 (by decide) (by decide) ?_
      show Steps p.tables e below (s₁.setTop (mkF m 197 #[.val (.int p0)] [])) _
      exact c2_197 t k
  have c2_120 : ∀ t, Steps p.tables e below (s₁.setTop (mkF m 202 #[.val (.int p0)] [(.int (R1_2_120_0 p0))])) t → Steps p.tables e below (s₁.setTop (mkF m 120 #[.val (.int p0)] [])) t := fun t k => by
    refine XS.iloadN X0.here hx rfl (hb hby d1_120) rfl ?_
    show Steps p.tables e below (s₁.setTop (mkF m 121 #[.val (.int p0)] [(.int p0)])) _
    refine XS.sipush X0.here hx rfl (hb hby d1_121) ?_
    show Steps p.tables e below (s₁.setTop (mkF m 124 #[.val (.int p0)] [(.int (8304 : Int32)), (.int p0)])) _
    by_cases hd2_120 : p0 < (8304 : Int32)
    · rw [show (R1_2_120_0 p0) = (if p0 < (8304 : Int32) then (R1_2_134_0 p0) else (R1_2_127_0 p0)) from rfl, if_pos hd2_120] at k
      refine XS.icmpYes X0.here hx rfl (pc0 := 124) (pc' := 134) rfl (hb hby d1_124) rfl (tlt hd2_120).1 (by decide) (by decide) ?_
      show Steps p.tables e below (s₁.setTop (mkF m 134 #[.val (.int p0)] [])) _
      exact c2_134 t k
    · rw [show (R1_2_120_0 p0) = (if p0 < (8304 : Int32) then (R1_2_134_0 p0) else (R1_2_127_0 p0)) from rfl, if_neg hd2_120] at k
      refine XS.icmpNo X0.here hx rfl (hb hby d1_124) rfl (flt hd2_120).1 ?_
      show Steps p.tables e below (s₁.setTop (mkF m 127 #[.val (.int p0)] [])) _
      exact c2_127 t k
  have c2_113 : ∀ t, Steps p.tables e below (s₁.setTop (mkF m 202 #[.val (.int p0)] [(.int (R1_2_113_0 p0))])) t → Steps p.tables e below (s₁.setTop (mkF m 113 #[.val (.int p0)] [])) t := fun t k => by
    refine XS.iloadN X0.here hx rfl (hb hby d1_113) rfl ?_
    show Steps p.tables e below (s₁.setTop (mkF m 114 #[.val (.int p0)] [(.int p0)])) _
    refine XS.sipush X0.here hx rfl (hb hby d1_114) ?_
    show Steps p.tables e below (s₁.setTop (mkF m 117 #[.val (.int p0)] [(.int (8205 : Int32)), (.int p0)])) _
    by_cases hd2_113 : (8205 : Int32) < p0
    · rw [show (R1_2_113_0 p0) = (if (8205 : Int32) < p0 then (R1_2_120_0 p0) else (1 : Int32)) from rfl, if_pos hd2_113] at k
      refine XS.icmpNo X0.here hx rfl (hb hby d1_117) rfl (tlt hd2_113).2.2.2 ?_
      show Steps p.tables e below (s₁.setTop (mkF m 120 #[.val (.int p0)] [])) _
      exact c2_120 t k
    · rw [show (R1_2_113_0 p0) = (if (8205 : Int32) < p0 then (R1_2_120_0 p0) else (1 : Int32)) from rfl, if_neg hd2_113] at k
      refine XS.icmpYes X0.here hx rfl (pc0 := 117) (pc' := 197) rfl (hb hby d1_117) rfl (flt hd2_113).2.2.2 (by decide) (by decide) ?_
      show Steps p.tables e below (s₁.setTop (mkF m 197 #[.val (.int p0)] [])) _
      exact c2_197 t k
  have c2_106 : ∀ t, Steps p.tables e below (s₁.setTop (mkF m 202 #[.val (.int p0)] [(.int (R1_2_106_0 p0))])) t → Steps p.tables e below (s₁.setTop (mkF m 106 #[.val (.int p0)] [])) t := fun t k => by
    refine XS.iloadN X0.here hx rfl (hb hby d1_106) rfl ?_
    show Steps p.tables e below (s₁.setTop (mkF m 107 #[.val (.int p0)] [(.int p0)])) _
    refine XS.sipush X0.here hx rfl (hb hby d1_107) ?_
    show Steps p.tables e below (s₁.setTop (mkF m 110 #[.val (.int p0)] [(.int (8204 : Int32)), (.int p0)])) _
    by_cases hd2_106 : p0 < (8204 : Int32)
    · rw [show (R1_2_106_0 p0) = (if p0 < (8204 : Int32) then (R1_2_120_0 p0) else (R1_2_113_0 p0)) from rfl, if_pos hd2_106] at k
      refine XS.icmpYes X0.here hx rfl (pc0 := 110) (pc' := 120) rfl (hb hby d1_110) rfl (tlt hd2_106).1 (by decide) (by decide) ?_
      show Steps p.tables e below (s₁.setTop (mkF m 120 #[.val (.int p0)] [])) _
      exact c2_120 t k
    · rw [show (R1_2_106_0 p0) = (if p0 < (8204 : Int32) then (R1_2_120_0 p0) else (R1_2_113_0 p0)) from rfl, if_neg hd2_106] at k
      refine XS.icmpNo X0.here hx rfl (hb hby d1_110) rfl (flt hd2_106).1 ?_
      show Steps p.tables e below (s₁.setTop (mkF m 113 #[.val (.int p0)] [])) _
      exact c2_113 t k
  have c2_99 : ∀ t, Steps p.tables e below (s₁.setTop (mkF m 202 #[.val (.int p0)] [(.int (R1_2_99_0 p0))])) t → Steps p.tables e below (s₁.setTop (mkF m 99 #[.val (.int p0)] [])) t := fun t k => by
    refine XS.iloadN X0.here hx rfl (hb hby d1_99) rfl ?_
    show Steps p.tables e below (s₁.setTop (mkF m 100 #[.val (.int p0)] [(.int p0)])) _
    refine XS.sipush X0.here hx rfl (hb hby d1_100) ?_
    show Steps p.tables e below (s₁.setTop (mkF m 103 #[.val (.int p0)] [(.int (8191 : Int32)), (.int p0)])) _
    by_cases hd2_99 : (8191 : Int32) < p0
    · rw [show (R1_2_99_0 p0) = (if (8191 : Int32) < p0 then (R1_2_106_0 p0) else (1 : Int32)) from rfl, if_pos hd2_99] at k
      refine XS.icmpNo X0.here hx rfl (hb hby d1_103) rfl (tlt hd2_99).2.2.2 ?_
      show Steps p.tables e below (s₁.setTop (mkF m 106 #[.val (.int p0)] [])) _
      exact c2_106 t k
    · rw [show (R1_2_99_0 p0) = (if (8191 : Int32) < p0 then (R1_2_106_0 p0) else (1 : Int32)) from rfl, if_neg hd2_99] at k
      refine XS.icmpYes X0.here hx rfl (pc0 := 103) (pc' := 197) rfl (hb hby d1_103) rfl (flt hd2_99).2.2.2 (by decide) (by decide) ?_
      show Steps p.tables e below (s₁.setTop (mkF m 197 #[.val (.int p0)] [])) _
      exact c2_197 t k
  have c2_92 : ∀ t, Steps p.tables e below (s₁.setTop (mkF m 202 #[.val (.int p0)] [(.int (R1_2_92_0 p0))])) t → Steps p.tables e below (s₁.setTop (mkF m 92 #[.val (.int p0)] [])) t := fun t k => by
    refine XS.iloadN X0.here hx rfl (hb hby d1_92) rfl ?_
    show Steps p.tables e below (s₁.setTop (mkF m 93 #[.val (.int p0)] [(.int p0)])) _
    refine XS.sipush X0.here hx rfl (hb hby d1_93) ?_
    show Steps p.tables e below (s₁.setTop (mkF m 96 #[.val (.int p0)] [(.int (895 : Int32)), (.int p0)])) _
    by_cases hd2_92 : p0 < (895 : Int32)
    · rw [show (R1_2_92_0 p0) = (if p0 < (895 : Int32) then (R1_2_106_0 p0) else (R1_2_99_0 p0)) from rfl, if_pos hd2_92] at k
      refine XS.icmpYes X0.here hx rfl (pc0 := 96) (pc' := 106) rfl (hb hby d1_96) rfl (tlt hd2_92).1 (by decide) (by decide) ?_
      show Steps p.tables e below (s₁.setTop (mkF m 106 #[.val (.int p0)] [])) _
      exact c2_106 t k
    · rw [show (R1_2_92_0 p0) = (if p0 < (895 : Int32) then (R1_2_106_0 p0) else (R1_2_99_0 p0)) from rfl, if_neg hd2_92] at k
      refine XS.icmpNo X0.here hx rfl (hb hby d1_96) rfl (flt hd2_92).1 ?_
      show Steps p.tables e below (s₁.setTop (mkF m 99 #[.val (.int p0)] [])) _
      exact c2_99 t k
  have c2_85 : ∀ t, Steps p.tables e below (s₁.setTop (mkF m 202 #[.val (.int p0)] [(.int (R1_2_85_0 p0))])) t → Steps p.tables e below (s₁.setTop (mkF m 85 #[.val (.int p0)] [])) t := fun t k => by
    refine XS.iloadN X0.here hx rfl (hb hby d1_85) rfl ?_
    show Steps p.tables e below (s₁.setTop (mkF m 86 #[.val (.int p0)] [(.int p0)])) _
    refine XS.sipush X0.here hx rfl (hb hby d1_86) ?_
    show Steps p.tables e below (s₁.setTop (mkF m 89 #[.val (.int p0)] [(.int (893 : Int32)), (.int p0)])) _
    by_cases hd2_85 : (893 : Int32) < p0
    · rw [show (R1_2_85_0 p0) = (if (893 : Int32) < p0 then (R1_2_92_0 p0) else (1 : Int32)) from rfl, if_pos hd2_85] at k
      refine XS.icmpNo X0.here hx rfl (hb hby d1_89) rfl (tlt hd2_85).2.2.2 ?_
      show Steps p.tables e below (s₁.setTop (mkF m 92 #[.val (.int p0)] [])) _
      exact c2_92 t k
    · rw [show (R1_2_85_0 p0) = (if (893 : Int32) < p0 then (R1_2_92_0 p0) else (1 : Int32)) from rfl, if_neg hd2_85] at k
      refine XS.icmpYes X0.here hx rfl (pc0 := 89) (pc' := 197) rfl (hb hby d1_89) rfl (flt hd2_85).2.2.2 (by decide) (by decide) ?_
      show Steps p.tables e below (s₁.setTop (mkF m 197 #[.val (.int p0)] [])) _
      exact c2_197 t k
  have c2_78 : ∀ t, Steps p.tables e below (s₁.setTop (mkF m 202 #[.val (.int p0)] [(.int (R1_2_78_0 p0))])) t → Steps p.tables e below (s₁.setTop (mkF m 78 #[.val (.int p0)] [])) t := fun t k => by
    refine XS.iloadN X0.here hx rfl (hb hby d1_78) rfl ?_
    show Steps p.tables e below (s₁.setTop (mkF m 79 #[.val (.int p0)] [(.int p0)])) _
    refine XS.sipush X0.here hx rfl (hb hby d1_79) ?_
    show Steps p.tables e below (s₁.setTop (mkF m 82 #[.val (.int p0)] [(.int (880 : Int32)), (.int p0)])) _
    by_cases hd2_78 : p0 < (880 : Int32)
    · rw [show (R1_2_78_0 p0) = (if p0 < (880 : Int32) then (R1_2_92_0 p0) else (R1_2_85_0 p0)) from rfl, if_pos hd2_78] at k
      refine XS.icmpYes X0.here hx rfl (pc0 := 82) (pc' := 92) rfl (hb hby d1_82) rfl (tlt hd2_78).1 (by decide) (by decide) ?_
      show Steps p.tables e below (s₁.setTop (mkF m 92 #[.val (.int p0)] [])) _
      exact c2_92 t k
    · rw [show (R1_2_78_0 p0) = (if p0 < (880 : Int32) then (R1_2_92_0 p0) else (R1_2_85_0 p0)) from rfl, if_neg hd2_78] at k
      refine XS.icmpNo X0.here hx rfl (hb hby d1_82) rfl (flt hd2_78).1 ?_
      show Steps p.tables e below (s₁.setTop (mkF m 85 #[.val (.int p0)] [])) _
      exact c2_85 t k
  have c2_71 : ∀ t, Steps p.tables e below (s₁.setTop (mkF m 202 #[.val (.int p0)] [(.int (R1_2_71_0 p0))])) t → Steps p.tables e below (s₁.setTop (mkF m 71 #[.val (.int p0)] [])) t := fun t k => by
    refine XS.iloadN X0.here hx rfl (hb hby d1_71) rfl ?_
    show Steps p.tables e below (s₁.setTop (mkF m 72 #[.val (.int p0)] [(.int p0)])) _
    refine XS.sipush X0.here hx rfl (hb hby d1_72) ?_
    show Steps p.tables e below (s₁.setTop (mkF m 75 #[.val (.int p0)] [(.int (767 : Int32)), (.int p0)])) _
    by_cases hd2_71 : (767 : Int32) < p0
    · rw [show (R1_2_71_0 p0) = (if (767 : Int32) < p0 then (R1_2_78_0 p0) else (1 : Int32)) from rfl, if_pos hd2_71] at k
      refine XS.icmpNo X0.here hx rfl (hb hby d1_75) rfl (tlt hd2_71).2.2.2 ?_
      show Steps p.tables e below (s₁.setTop (mkF m 78 #[.val (.int p0)] [])) _
      exact c2_78 t k
    · rw [show (R1_2_71_0 p0) = (if (767 : Int32) < p0 then (R1_2_78_0 p0) else (1 : Int32)) from rfl, if_neg hd2_71] at k
      refine XS.icmpYes X0.here hx rfl (pc0 := 75) (pc' := 197) rfl (hb hby d1_75) rfl (flt hd2_71).2.2.2 (by decide) (by decide) ?_
      show Steps p.tables e below (s₁.setTop (mkF m 197 #[.val (.int p0)] [])) _
      exact c2_197 t k
  have c2_64 : ∀ t, Steps p.tables e below (s₁.setTop (mkF m 202 #[.val (.int p0)] [(.int (R1_2_64_0 p0))])) t → Steps p.tables e below (s₁.setTop (mkF m 64 #[.val (.int p0)] [])) t := fun t k => by
    refine XS.iloadN X0.here hx rfl (hb hby d1_64) rfl ?_
    show Steps p.tables e below (s₁.setTop (mkF m 65 #[.val (.int p0)] [(.int p0)])) _
    refine XS.sipush X0.here hx rfl (hb hby d1_65) ?_
    show Steps p.tables e below (s₁.setTop (mkF m 68 #[.val (.int p0)] [(.int (248 : Int32)), (.int p0)])) _
    by_cases hd2_64 : p0 < (248 : Int32)
    · rw [show (R1_2_64_0 p0) = (if p0 < (248 : Int32) then (R1_2_78_0 p0) else (R1_2_71_0 p0)) from rfl, if_pos hd2_64] at k
      refine XS.icmpYes X0.here hx rfl (pc0 := 68) (pc' := 78) rfl (hb hby d1_68) rfl (tlt hd2_64).1 (by decide) (by decide) ?_
      show Steps p.tables e below (s₁.setTop (mkF m 78 #[.val (.int p0)] [])) _
      exact c2_78 t k
    · rw [show (R1_2_64_0 p0) = (if p0 < (248 : Int32) then (R1_2_78_0 p0) else (R1_2_71_0 p0)) from rfl, if_neg hd2_64] at k
      refine XS.icmpNo X0.here hx rfl (hb hby d1_68) rfl (flt hd2_64).1 ?_
      show Steps p.tables e below (s₁.setTop (mkF m 71 #[.val (.int p0)] [])) _
      exact c2_71 t k
  have c2_57 : ∀ t, Steps p.tables e below (s₁.setTop (mkF m 202 #[.val (.int p0)] [(.int (R1_2_57_0 p0))])) t → Steps p.tables e below (s₁.setTop (mkF m 57 #[.val (.int p0)] [])) t := fun t k => by
    refine XS.iloadN X0.here hx rfl (hb hby d1_57) rfl ?_
    show Steps p.tables e below (s₁.setTop (mkF m 58 #[.val (.int p0)] [(.int p0)])) _
    refine XS.sipush X0.here hx rfl (hb hby d1_58) ?_
    show Steps p.tables e below (s₁.setTop (mkF m 61 #[.val (.int p0)] [(.int (246 : Int32)), (.int p0)])) _
    by_cases hd2_57 : (246 : Int32) < p0
    · rw [show (R1_2_57_0 p0) = (if (246 : Int32) < p0 then (R1_2_64_0 p0) else (1 : Int32)) from rfl, if_pos hd2_57] at k
      refine XS.icmpNo X0.here hx rfl (hb hby d1_61) rfl (tlt hd2_57).2.2.2 ?_
      show Steps p.tables e below (s₁.setTop (mkF m 64 #[.val (.int p0)] [])) _
      exact c2_64 t k
    · rw [show (R1_2_57_0 p0) = (if (246 : Int32) < p0 then (R1_2_64_0 p0) else (1 : Int32)) from rfl, if_neg hd2_57] at k
      refine XS.icmpYes X0.here hx rfl (pc0 := 61) (pc' := 197) rfl (hb hby d1_61) rfl (flt hd2_57).2.2.2 (by decide) (by decide) ?_
      show Steps p.tables e below (s₁.setTop (mkF m 197 #[.val (.int p0)] [])) _
      exact c2_197 t k
  have c2_50 : ∀ t, Steps p.tables e below (s₁.setTop (mkF m 202 #[.val (.int p0)] [(.int (R1_2_50_0 p0))])) t → Steps p.tables e below (s₁.setTop (mkF m 50 #[.val (.int p0)] [])) t := fun t k => by
    refine XS.iloadN X0.here hx rfl (hb hby d1_50) rfl ?_
    show Steps p.tables e below (s₁.setTop (mkF m 51 #[.val (.int p0)] [(.int p0)])) _
    refine XS.sipush X0.here hx rfl (hb hby d1_51) ?_
    show Steps p.tables e below (s₁.setTop (mkF m 54 #[.val (.int p0)] [(.int (216 : Int32)), (.int p0)])) _
    by_cases hd2_50 : p0 < (216 : Int32)
    · rw [show (R1_2_50_0 p0) = (if p0 < (216 : Int32) then (R1_2_64_0 p0) else (R1_2_57_0 p0)) from rfl, if_pos hd2_50] at k
      refine XS.icmpYes X0.here hx rfl (pc0 := 54) (pc' := 64) rfl (hb hby d1_54) rfl (tlt hd2_50).1 (by decide) (by decide) ?_
      show Steps p.tables e below (s₁.setTop (mkF m 64 #[.val (.int p0)] [])) _
      exact c2_64 t k
    · rw [show (R1_2_50_0 p0) = (if p0 < (216 : Int32) then (R1_2_64_0 p0) else (R1_2_57_0 p0)) from rfl, if_neg hd2_50] at k
      refine XS.icmpNo X0.here hx rfl (hb hby d1_54) rfl (flt hd2_50).1 ?_
      show Steps p.tables e below (s₁.setTop (mkF m 57 #[.val (.int p0)] [])) _
      exact c2_57 t k
  have c2_43 : ∀ t, Steps p.tables e below (s₁.setTop (mkF m 202 #[.val (.int p0)] [(.int (R1_2_43_0 p0))])) t → Steps p.tables e below (s₁.setTop (mkF m 43 #[.val (.int p0)] [])) t := fun t k => by
    refine XS.iloadN X0.here hx rfl (hb hby d1_43) rfl ?_
    show Steps p.tables e below (s₁.setTop (mkF m 44 #[.val (.int p0)] [(.int p0)])) _
    refine XS.sipush X0.here hx rfl (hb hby d1_44) ?_
    show Steps p.tables e below (s₁.setTop (mkF m 47 #[.val (.int p0)] [(.int (214 : Int32)), (.int p0)])) _
    by_cases hd2_43 : (214 : Int32) < p0
    · rw [show (R1_2_43_0 p0) = (if (214 : Int32) < p0 then (R1_2_50_0 p0) else (1 : Int32)) from rfl, if_pos hd2_43] at k
      refine XS.icmpNo X0.here hx rfl (hb hby d1_47) rfl (tlt hd2_43).2.2.2 ?_
      show Steps p.tables e below (s₁.setTop (mkF m 50 #[.val (.int p0)] [])) _
      exact c2_50 t k
    · rw [show (R1_2_43_0 p0) = (if (214 : Int32) < p0 then (R1_2_50_0 p0) else (1 : Int32)) from rfl, if_neg hd2_43] at k
      refine XS.icmpYes X0.here hx rfl (pc0 := 47) (pc' := 197) rfl (hb hby d1_47) rfl (flt hd2_43).2.2.2 (by decide) (by decide) ?_
      show Steps p.tables e below (s₁.setTop (mkF m 197 #[.val (.int p0)] [])) _
      exact c2_197 t k
  have c2_36 : ∀ t, Steps p.tables e below (s₁.setTop (mkF m 202 #[.val (.int p0)] [(.int (R1_2_36_0 p0))])) t → Steps p.tables e below (s₁.setTop (mkF m 36 #[.val (.int p0)] [])) t := fun t k => by
    refine XS.iloadN X0.here hx rfl (hb hby d1_36) rfl ?_
    show Steps p.tables e below (s₁.setTop (mkF m 37 #[.val (.int p0)] [(.int p0)])) _
    refine XS.sipush X0.here hx rfl (hb hby d1_37) ?_
    show Steps p.tables e below (s₁.setTop (mkF m 40 #[.val (.int p0)] [(.int (192 : Int32)), (.int p0)])) _
    by_cases hd2_36 : p0 < (192 : Int32)
    · rw [show (R1_2_36_0 p0) = (if p0 < (192 : Int32) then (R1_2_50_0 p0) else (R1_2_43_0 p0)) from rfl, if_pos hd2_36] at k
      refine XS.icmpYes X0.here hx rfl (pc0 := 40) (pc' := 50) rfl (hb hby d1_40) rfl (tlt hd2_36).1 (by decide) (by decide) ?_
      show Steps p.tables e below (s₁.setTop (mkF m 50 #[.val (.int p0)] [])) _
      exact c2_50 t k
    · rw [show (R1_2_36_0 p0) = (if p0 < (192 : Int32) then (R1_2_50_0 p0) else (R1_2_43_0 p0)) from rfl, if_neg hd2_36] at k
      refine XS.icmpNo X0.here hx rfl (hb hby d1_40) rfl (flt hd2_36).1 ?_
      show Steps p.tables e below (s₁.setTop (mkF m 43 #[.val (.int p0)] [])) _
      exact c2_43 t k
  have c2_30 : ∀ t, Steps p.tables e below (s₁.setTop (mkF m 202 #[.val (.int p0)] [(.int (R1_2_30_0 p0))])) t → Steps p.tables e below (s₁.setTop (mkF m 30 #[.val (.int p0)] [])) t := fun t k => by
    refine XS.iloadN X0.here hx rfl (hb hby d1_30) rfl ?_
    show Steps p.tables e below (s₁.setTop (mkF m 31 #[.val (.int p0)] [(.int p0)])) _
    refine XS.bipush X0.here hx rfl (hb hby d1_31) ?_
    show Steps p.tables e below (s₁.setTop (mkF m 33 #[.val (.int p0)] [(.int (58 : Int32)), (.int p0)])) _
    by_cases hd2_30 : p0 = (58 : Int32)
    · rw [show (R1_2_30_0 p0) = (if p0 = (58 : Int32) then (1 : Int32) else (R1_2_36_0 p0)) from rfl, if_pos hd2_30] at k
      refine XS.icmpYes X0.here hx rfl (pc0 := 33) (pc' := 197) rfl (hb hby d1_33) rfl (teq hd2_30).1 (by decide) (by decide) ?_
      show Steps p.tables e below (s₁.setTop (mkF m 197 #[.val (.int p0)] [])) _
      exact c2_197 t k
    · rw [show (R1_2_30_0 p0) = (if p0 = (58 : Int32) then (1 : Int32) else (R1_2_36_0 p0)) from rfl, if_neg hd2_30] at k
      refine XS.icmpNo X0.here hx rfl (hb hby d1_33) rfl (feq hd2_30).1 ?_
      show Steps p.tables e below (s₁.setTop (mkF m 36 #[.val (.int p0)] [])) _
      exact c2_36 t k
  have c2_24 : ∀ t, Steps p.tables e below (s₁.setTop (mkF m 202 #[.val (.int p0)] [(.int (R1_2_24_0 p0))])) t → Steps p.tables e below (s₁.setTop (mkF m 24 #[.val (.int p0)] [])) t := fun t k => by
    refine XS.iloadN X0.here hx rfl (hb hby d1_24) rfl ?_
    show Steps p.tables e below (s₁.setTop (mkF m 25 #[.val (.int p0)] [(.int p0)])) _
    refine XS.bipush X0.here hx rfl (hb hby d1_25) ?_
    show Steps p.tables e below (s₁.setTop (mkF m 27 #[.val (.int p0)] [(.int (95 : Int32)), (.int p0)])) _
    by_cases hd2_24 : p0 = (95 : Int32)
    · rw [show (R1_2_24_0 p0) = (if p0 = (95 : Int32) then (1 : Int32) else (R1_2_30_0 p0)) from rfl, if_pos hd2_24] at k
      refine XS.icmpYes X0.here hx rfl (pc0 := 27) (pc' := 197) rfl (hb hby d1_27) rfl (teq hd2_24).1 (by decide) (by decide) ?_
      show Steps p.tables e below (s₁.setTop (mkF m 197 #[.val (.int p0)] [])) _
      exact c2_197 t k
    · rw [show (R1_2_24_0 p0) = (if p0 = (95 : Int32) then (1 : Int32) else (R1_2_30_0 p0)) from rfl, if_neg hd2_24] at k
      refine XS.icmpNo X0.here hx rfl (hb hby d1_27) rfl (feq hd2_24).1 ?_
      show Steps p.tables e below (s₁.setTop (mkF m 30 #[.val (.int p0)] [])) _
      exact c2_30 t k
  have c2_18 : ∀ t, Steps p.tables e below (s₁.setTop (mkF m 202 #[.val (.int p0)] [(.int (R1_2_18_0 p0))])) t → Steps p.tables e below (s₁.setTop (mkF m 18 #[.val (.int p0)] [])) t := fun t k => by
    refine XS.iloadN X0.here hx rfl (hb hby d1_18) rfl ?_
    show Steps p.tables e below (s₁.setTop (mkF m 19 #[.val (.int p0)] [(.int p0)])) _
    refine XS.bipush X0.here hx rfl (hb hby d1_19) ?_
    show Steps p.tables e below (s₁.setTop (mkF m 21 #[.val (.int p0)] [(.int (90 : Int32)), (.int p0)])) _
    by_cases hd2_18 : (90 : Int32) < p0
    · rw [show (R1_2_18_0 p0) = (if (90 : Int32) < p0 then (R1_2_24_0 p0) else (1 : Int32)) from rfl, if_pos hd2_18] at k
      refine XS.icmpNo X0.here hx rfl (hb hby d1_21) rfl (tlt hd2_18).2.2.2 ?_
      show Steps p.tables e below (s₁.setTop (mkF m 24 #[.val (.int p0)] [])) _
      exact c2_24 t k
    · rw [show (R1_2_18_0 p0) = (if (90 : Int32) < p0 then (R1_2_24_0 p0) else (1 : Int32)) from rfl, if_neg hd2_18] at k
      refine XS.icmpYes X0.here hx rfl (pc0 := 21) (pc' := 197) rfl (hb hby d1_21) rfl (flt hd2_18).2.2.2 (by decide) (by decide) ?_
      show Steps p.tables e below (s₁.setTop (mkF m 197 #[.val (.int p0)] [])) _
      exact c2_197 t k
  have c2_12 : ∀ t, Steps p.tables e below (s₁.setTop (mkF m 202 #[.val (.int p0)] [(.int (R1_2_12_0 p0))])) t → Steps p.tables e below (s₁.setTop (mkF m 12 #[.val (.int p0)] [])) t := fun t k => by
    refine XS.iloadN X0.here hx rfl (hb hby d1_12) rfl ?_
    show Steps p.tables e below (s₁.setTop (mkF m 13 #[.val (.int p0)] [(.int p0)])) _
    refine XS.bipush X0.here hx rfl (hb hby d1_13) ?_
    show Steps p.tables e below (s₁.setTop (mkF m 15 #[.val (.int p0)] [(.int (65 : Int32)), (.int p0)])) _
    by_cases hd2_12 : p0 < (65 : Int32)
    · rw [show (R1_2_12_0 p0) = (if p0 < (65 : Int32) then (R1_2_24_0 p0) else (R1_2_18_0 p0)) from rfl, if_pos hd2_12] at k
      refine XS.icmpYes X0.here hx rfl (pc0 := 15) (pc' := 24) rfl (hb hby d1_15) rfl (tlt hd2_12).1 (by decide) (by decide) ?_
      show Steps p.tables e below (s₁.setTop (mkF m 24 #[.val (.int p0)] [])) _
      exact c2_24 t k
    · rw [show (R1_2_12_0 p0) = (if p0 < (65 : Int32) then (R1_2_24_0 p0) else (R1_2_18_0 p0)) from rfl, if_neg hd2_12] at k
      refine XS.icmpNo X0.here hx rfl (hb hby d1_15) rfl (flt hd2_12).1 ?_
      show Steps p.tables e below (s₁.setTop (mkF m 18 #[.val (.int p0)] [])) _
      exact c2_18 t k
  have c2_6 : ∀ t, Steps p.tables e below (s₁.setTop (mkF m 202 #[.val (.int p0)] [(.int (R1_2_6_0 p0))])) t → Steps p.tables e below (s₁.setTop (mkF m 6 #[.val (.int p0)] [])) t := fun t k => by
    refine XS.iloadN X0.here hx rfl (hb hby d1_6) rfl ?_
    show Steps p.tables e below (s₁.setTop (mkF m 7 #[.val (.int p0)] [(.int p0)])) _
    refine XS.bipush X0.here hx rfl (hb hby d1_7) ?_
    show Steps p.tables e below (s₁.setTop (mkF m 9 #[.val (.int p0)] [(.int (122 : Int32)), (.int p0)])) _
    by_cases hd2_6 : (122 : Int32) < p0
    · rw [show (R1_2_6_0 p0) = (if (122 : Int32) < p0 then (R1_2_12_0 p0) else (1 : Int32)) from rfl, if_pos hd2_6] at k
      refine XS.icmpNo X0.here hx rfl (hb hby d1_9) rfl (tlt hd2_6).2.2.2 ?_
      show Steps p.tables e below (s₁.setTop (mkF m 12 #[.val (.int p0)] [])) _
      exact c2_12 t k
    · rw [show (R1_2_6_0 p0) = (if (122 : Int32) < p0 then (R1_2_12_0 p0) else (1 : Int32)) from rfl, if_neg hd2_6] at k
      refine XS.icmpYes X0.here hx rfl (pc0 := 9) (pc' := 197) rfl (hb hby d1_9) rfl (flt hd2_6).2.2.2 (by decide) (by decide) ?_
      show Steps p.tables e below (s₁.setTop (mkF m 197 #[.val (.int p0)] [])) _
      exact c2_197 t k
  have c2_3 : ∀ t, Steps p.tables e below (s₁.setTop (mkF m 202 #[.val (.int p0)] [(.int (R1_2_3_0 p0))])) t → Steps p.tables e below (s₁.setTop (mkF m 3 #[.val (.int p0)] [(.int (97 : Int32)), (.int p0)])) t := fun t k => by
    by_cases hd2_3 : p0 < (97 : Int32)
    · rw [show (R1_2_3_0 p0) = (if p0 < (97 : Int32) then (R1_2_12_0 p0) else (R1_2_6_0 p0)) from rfl, if_pos hd2_3] at k
      refine XS.icmpYes X0.here hx rfl (pc0 := 3) (pc' := 12) rfl (hb hby d1_3) rfl (tlt hd2_3).1 (by decide) (by decide) ?_
      show Steps p.tables e below (s₁.setTop (mkF m 12 #[.val (.int p0)] [])) _
      exact c2_12 t k
    · rw [show (R1_2_3_0 p0) = (if p0 < (97 : Int32) then (R1_2_12_0 p0) else (R1_2_6_0 p0)) from rfl, if_neg hd2_3] at k
      refine XS.icmpNo X0.here hx rfl (hb hby d1_3) rfl (flt hd2_3).1 ?_
      show Steps p.tables e below (s₁.setTop (mkF m 6 #[.val (.int p0)] [])) _
      exact c2_6 t k
  have pre2 : Lead p e below G (s₁.setTop (mkF m 202 #[.val (.int p0)] [(.int (R1_2_3_0 p0))])) := fun t k => pre1 t (c2_3 t k)
  obtain ⟨fs, hr, hrun, hended, hW, hsame⟩ := X0.leave (v := some (.int (nar .boolean (R1_2_3_0 p0)))) (fun h => by rw [Bd.returns] at h; cases h)
  subst hG
  refine ⟨_, _, pre2 _ ?_, hrun, hended, _, _, rfl, ?_, ⟨_, rfl⟩, hW, hsame.mono (by decide) (by decide)⟩
  · show Steps p.tables e below (s₁.setTop (mkF m 202 #[.val (.int p0)] [(.int (R1_2_3_0 p0))])) _
    exact retN X0 hx (t := .boolean) Bd.returns (by simp) (hb hby d1_202) hr
  · show Q1 Z p0 h0 n0 _ s₁.heap _
    rw [e0]
    have hv_ : (nar .boolean (R1_2_3_0 p0)) = F1 p0 := by
      skip
      rfl
    exact ⟨congrArg (fun z => some (Value.int z)) hv_, N0, rfl⟩
def R3_2_170_0 (p0 : Int32) : Int32 := (if (65535 : Int32) < p0 then (0 : Int32) else (1 : Int32))
def R3_2_164_0 (p0 : Int32) : Int32 := (if p0 < (65534 : Int32) then (0 : Int32) else (R3_2_170_0 p0))
def R3_2_158_0 (p0 : Int32) : Int32 := (if (65007 : Int32) < p0 then (R3_2_164_0 p0) else (1 : Int32))
def R3_2_152_0 (p0 : Int32) : Int32 := (if p0 < (64976 : Int32) then (R3_2_164_0 p0) else (R3_2_158_0 p0))
def R3_2_146_0 (p0 : Int32) : Int32 := (if (63743 : Int32) < p0 then (R3_2_152_0 p0) else (1 : Int32))
def R3_2_140_0 (p0 : Int32) : Int32 := (if p0 < (55296 : Int32) then (R3_2_152_0 p0) else (R3_2_146_0 p0))
def R3_2_133_0 (p0 : Int32) : Int32 := (if (12288 : Int32) < p0 then (R3_2_140_0 p0) else (1 : Int32))
def R3_2_126_0 (p0 : Int32) : Int32 := (if p0 < (12272 : Int32) then (R3_2_140_0 p0) else (R3_2_133_0 p0))
def R3_2_119_0 (p0 : Int32) : Int32 := (if (11263 : Int32) < p0 then (R3_2_126_0 p0) else (1 : Int32))
def R3_2_112_0 (p0 : Int32) : Int32 := (if p0 < (8592 : Int32) then (R3_2_126_0 p0) else (R3_2_119_0 p0))
def R3_2_105_0 (p0 : Int32) : Int32 := (if (8303 : Int32) < p0 then (R3_2_112_0 p0) else (1 : Int32))
def R3_2_98_0 (p0 : Int32) : Int32 := (if p0 < (8206 : Int32) then (R3_2_112_0 p0) else (R3_2_105_0 p0))
def R3_2_91_0 (p0 : Int32) : Int32 := (if (8203 : Int32) < p0 then (R3_2_98_0 p0) else (1 : Int32))
def R3_2_84_0 (p0 : Int32) : Int32 := (if p0 < (8192 : Int32) then (R3_2_98_0 p0) else (R3_2_91_0 p0))
def R3_2_77_0 (p0 : Int32) : Int32 := (if p0 = (894 : Int32) then (1 : Int32) else (R3_2_84_0 p0))
def R3_2_70_0 (p0 : Int32) : Int32 := (if (879 : Int32) < p0 then (R3_2_77_0 p0) else (1 : Int32))
def R3_2_63_0 (p0 : Int32) : Int32 := (if p0 < (768 : Int32) then (R3_2_77_0 p0) else (R3_2_70_0 p0))
def R3_2_56_0 (p0 : Int32) : Int32 := (if p0 = (247 : Int32) then (1 : Int32) else (R3_2_63_0 p0))
def R3_2_49_0 (p0 : Int32) : Int32 := (if p0 = (215 : Int32) then (1 : Int32) else (R3_2_56_0 p0))
def R3_2_42_0 (p0 : Int32) : Int32 := (if (191 : Int32) < p0 then (R3_2_49_0 p0) else (1 : Int32))
def R3_2_36_0 (p0 : Int32) : Int32 := (if p0 < (123 : Int32) then (R3_2_49_0 p0) else (R3_2_42_0 p0))
def R3_2_30_0 (p0 : Int32) : Int32 := (if p0 = (96 : Int32) then (1 : Int32) else (R3_2_36_0 p0))
def R3_2_24_0 (p0 : Int32) : Int32 := (if (94 : Int32) < p0 then (R3_2_30_0 p0) else (1 : Int32))
def R3_2_18_0 (p0 : Int32) : Int32 := (if p0 < (91 : Int32) then (R3_2_30_0 p0) else (R3_2_24_0 p0))
def R3_2_12_0 (p0 : Int32) : Int32 := (if (64 : Int32) < p0 then (R3_2_18_0 p0) else (1 : Int32))
def R3_2_6_0 (p0 : Int32) : Int32 := (if p0 < (59 : Int32) then (R3_2_18_0 p0) else (R3_2_12_0 p0))
def R3_2_3_0 (p0 : Int32) : Int32 := (if (57 : Int32) < p0 then (R3_2_6_0 p0) else (1 : Int32))
theorem d3_0 : decode method_2_code 0 = .ok (.iload_n 0, 1) := by decide +kernel
theorem d3_1 : decode method_2_code 1 = .ok (.bipush 57, 2) := by decide +kernel
theorem d3_3 : decode method_2_code 3 = .ok (.if_icmp .le 173, 3) := by decide +kernel
theorem d3_6 : decode method_2_code 6 = .ok (.iload_n 0, 1) := by decide +kernel
theorem d3_7 : decode method_2_code 7 = .ok (.bipush 59, 2) := by decide +kernel
theorem d3_9 : decode method_2_code 9 = .ok (.if_icmp .lt 9, 3) := by decide +kernel
theorem d3_12 : decode method_2_code 12 = .ok (.iload_n 0, 1) := by decide +kernel
theorem d3_13 : decode method_2_code 13 = .ok (.bipush 64, 2) := by decide +kernel
theorem d3_15 : decode method_2_code 15 = .ok (.if_icmp .le 161, 3) := by decide +kernel
theorem d3_18 : decode method_2_code 18 = .ok (.iload_n 0, 1) := by decide +kernel
theorem d3_19 : decode method_2_code 19 = .ok (.bipush 91, 2) := by decide +kernel
theorem d3_21 : decode method_2_code 21 = .ok (.if_icmp .lt 9, 3) := by decide +kernel
theorem d3_24 : decode method_2_code 24 = .ok (.iload_n 0, 1) := by decide +kernel
theorem d3_25 : decode method_2_code 25 = .ok (.bipush 94, 2) := by decide +kernel
theorem d3_27 : decode method_2_code 27 = .ok (.if_icmp .le 149, 3) := by decide +kernel
theorem d3_30 : decode method_2_code 30 = .ok (.iload_n 0, 1) := by decide +kernel
theorem d3_31 : decode method_2_code 31 = .ok (.bipush 96, 2) := by decide +kernel
theorem d3_33 : decode method_2_code 33 = .ok (.if_icmp .eq 143, 3) := by decide +kernel
theorem d3_36 : decode method_2_code 36 = .ok (.iload_n 0, 1) := by decide +kernel
theorem d3_37 : decode method_2_code 37 = .ok (.bipush 123, 2) := by decide +kernel
theorem d3_39 : decode method_2_code 39 = .ok (.if_icmp .lt 10, 3) := by decide +kernel
theorem d3_42 : decode method_2_code 42 = .ok (.iload_n 0, 1) := by decide +kernel
theorem d3_43 : decode method_2_code 43 = .ok (.sipush 191, 3) := by decide +kernel
theorem d3_46 : decode method_2_code 46 = .ok (.if_icmp .le 130, 3) := by decide +kernel
theorem d3_49 : decode method_2_code 49 = .ok (.iload_n 0, 1) := by decide +kernel
theorem d3_50 : decode method_2_code 50 = .ok (.sipush 215, 3) := by decide +kernel
theorem d3_53 : decode method_2_code 53 = .ok (.if_icmp .eq 123, 3) := by decide +kernel
theorem d3_56 : decode method_2_code 56 = .ok (.iload_n 0, 1) := by decide +kernel
theorem d3_57 : decode method_2_code 57 = .ok (.sipush 247, 3) := by decide +kernel
theorem d3_60 : decode method_2_code 60 = .ok (.if_icmp .eq 116, 3) := by decide +kernel
theorem d3_63 : decode method_2_code 63 = .ok (.iload_n 0, 1) := by decide +kernel
theorem d3_64 : decode method_2_code 64 = .ok (.sipush 768, 3) := by decide +kernel
theorem d3_67 : decode method_2_code 67 = .ok (.if_icmp .lt 10, 3) := by decide +kernel
theorem d3_70 : decode method_2_code 70 = .ok (.iload_n 0, 1) := by decide +kernel
theorem d3_71 : decode method_2_code 71 = .ok (.sipush 879, 3) := by decide +kernel
theorem d3_74 : decode method_2_code 74 = .ok (.if_icmp .le 102, 3) := by decide +kernel
theorem d3_77 : decode method_2_code 77 = .ok (.iload_n 0, 1) := by decide +kernel
theorem d3_78 : decode method_2_code 78 = .ok (.sipush 894, 3) := by decide +kernel
theorem d3_81 : decode method_2_code 81 = .ok (.if_icmp .eq 95, 3) := by decide +kernel
theorem d3_84 : decode method_2_code 84 = .ok (.iload_n 0, 1) := by decide +kernel
theorem d3_85 : decode method_2_code 85 = .ok (.sipush 8192, 3) := by decide +kernel
theorem d3_88 : decode method_2_code 88 = .ok (.if_icmp .lt 10, 3) := by decide +kernel
theorem d3_91 : decode method_2_code 91 = .ok (.iload_n 0, 1) := by decide +kernel
theorem d3_92 : decode method_2_code 92 = .ok (.sipush 8203, 3) := by decide +kernel
theorem d3_95 : decode method_2_code 95 = .ok (.if_icmp .le 81, 3) := by decide +kernel
theorem d3_98 : decode method_2_code 98 = .ok (.iload_n 0, 1) := by decide +kernel
theorem d3_99 : decode method_2_code 99 = .ok (.sipush 8206, 3) := by decide +kernel
theorem d3_102 : decode method_2_code 102 = .ok (.if_icmp .lt 10, 3) := by decide +kernel
theorem d3_105 : decode method_2_code 105 = .ok (.iload_n 0, 1) := by decide +kernel
theorem d3_106 : decode method_2_code 106 = .ok (.sipush 8303, 3) := by decide +kernel
theorem d3_109 : decode method_2_code 109 = .ok (.if_icmp .le 67, 3) := by decide +kernel
theorem d3_112 : decode method_2_code 112 = .ok (.iload_n 0, 1) := by decide +kernel
theorem d3_113 : decode method_2_code 113 = .ok (.sipush 8592, 3) := by decide +kernel
theorem d3_116 : decode method_2_code 116 = .ok (.if_icmp .lt 10, 3) := by decide +kernel
theorem d3_119 : decode method_2_code 119 = .ok (.iload_n 0, 1) := by decide +kernel
theorem d3_120 : decode method_2_code 120 = .ok (.sipush 11263, 3) := by decide +kernel
theorem d3_123 : decode method_2_code 123 = .ok (.if_icmp .le 53, 3) := by decide +kernel
theorem d3_126 : decode method_2_code 126 = .ok (.iload_n 0, 1) := by decide +kernel
theorem d3_127 : decode method_2_code 127 = .ok (.sipush 12272, 3) := by decide +kernel
theorem d3_130 : decode method_2_code 130 = .ok (.if_icmp .lt 10, 3) := by decide +kernel
theorem d3_133 : decode method_2_code 133 = .ok (.iload_n 0, 1) := by decide +kernel
theorem d3_134 : decode method_2_code 134 = .ok (.sipush 12288, 3) := by decide +kernel
theorem d3_137 : decode method_2_code 137 = .ok (.if_icmp .le 39, 3) := by decide +kernel
theorem d3_140 : decode method_2_code 140 = .ok (.iload_n 0, 1) := by decide +kernel
theorem d3_141 : decode method_2_code 141 = .ok (.ldc 7, 2) := by decide +kernel
theorem d3_143 : decode method_2_code 143 = .ok (.if_icmp .lt 9, 3) := by decide +kernel
theorem d3_146 : decode method_2_code 146 = .ok (.iload_n 0, 1) := by decide +kernel
theorem d3_147 : decode method_2_code 147 = .ok (.ldc 8, 2) := by decide +kernel
theorem d3_149 : decode method_2_code 149 = .ok (.if_icmp .le 27, 3) := by decide +kernel
theorem d3_152 : decode method_2_code 152 = .ok (.iload_n 0, 1) := by decide +kernel
theorem d3_153 : decode method_2_code 153 = .ok (.ldc 9, 2) := by decide +kernel
theorem d3_155 : decode method_2_code 155 = .ok (.if_icmp .lt 9, 3) := by decide +kernel
theorem d3_158 : decode method_2_code 158 = .ok (.iload_n 0, 1) := by decide +kernel
theorem d3_159 : decode method_2_code 159 = .ok (.ldc 10, 2) := by decide +kernel
theorem d3_161 : decode method_2_code 161 = .ok (.if_icmp .le 15, 3) := by decide +kernel
theorem d3_164 : decode method_2_code 164 = .ok (.iload_n 0, 1) := by decide +kernel
theorem d3_165 : decode method_2_code 165 = .ok (.ldc 11, 2) := by decide +kernel
theorem d3_167 : decode method_2_code 167 = .ok (.if_icmp .lt 13, 3) := by decide +kernel
theorem d3_170 : decode method_2_code 170 = .ok (.iload_n 0, 1) := by decide +kernel
theorem d3_171 : decode method_2_code 171 = .ok (.ldc 12, 2) := by decide +kernel
theorem d3_173 : decode method_2_code 173 = .ok (.if_icmp .gt 7, 3) := by decide +kernel
theorem d3_176 : decode method_2_code 176 = .ok (.iconst 1, 1) := by decide +kernel
theorem d3_177 : decode method_2_code 177 = .ok (.goto 4, 3) := by decide +kernel
theorem d3_180 : decode method_2_code 180 = .ok (.iconst 0, 1) := by decide +kernel
theorem d3_181 : decode method_2_code 181 = .ok (.ireturn, 1) := by decide +kernel
def F3 (p0 : Int32) : Int32 := (nar .boolean (R3_2_3_0 p0))
theorem pn_com_example_processionary_processionary_expressions_NameIsStartCharPinLaw : plainName "com/example/processionary/processionary/expressions/NameIsStartCharPinLaw" = true := by first | (simp [plainName, overriddenIn]; done) | decide +kernel
theorem ef_3 (m : MethodId) (p0 : Int32) : entryFrame m #[(.int p0)] 1 = mkF m 0 #[.val (.int p0)] [] := by first | (simp [entryFrame, mkF, argsToLocals, Value.category]; done) | rfl
def Q3 (Z : State) (p0 : Int32)  (h0 : Heap) (n0 : Nat) (v : Option Value) (h : Heap) (L : List Loc) : Prop := v = some (.int (F3 p0)) ∧ Fr n0 L ∧ h = h0
set_option maxRecDepth 65536 in
set_option maxHeartbeats 40000000 in
theorem rm3 (l : Launch) (Z : State) (a0 : Array Value) (hw : ∀ d ∈ tables_1, d.before a0 Z = true) (ws : List Jvm.Cond) (p0 : Int32)  (h0 : Heap) (n0 : Nat) (Z0 : n0 ≤ h0.size)  :
    MetFree l (⟨"com/example/processionary/processionary/expressions/NameIsStartCharPinLaw", "excluded", "(I)Z"⟩ : MethodName) (head1 (Jvm.Cond.code (⟨"com/example/processionary/processionary/expressions/NameIsStartCharPinLaw", "excluded", "(I)Z"⟩ : MethodName) method_2_code 1 (some .boolean) :: ws) ({ frames := 0, cells := 0, slots := 0, locals := 0 } : Room)) (fun a U => a = #[(.int p0)] ∧ Z.Warmed39 U.vm ∧ U.heap = h0) (fun _ _ _ _ _ => True) (fun _ U o U' => ∃ v L, o = .returned v ∧ Q3 Z p0 h0 n0 v U'.heap L ∧ FrameEnd U o U' L ({ frames := 0, cells := 0, slots := 0, locals := 0 } : Room).cells ({ frames := 0, cells := 0, slots := 0, locals := 0 } : Room).slots) := by
  refine MetFree.of_bodySF (plainFor_of_name pn_com_example_processionary_processionary_expressions_NameIsStartCharPinLaw) hisR ?_
  intro p e s m args below meth c s₁ Bd hml0 hP hK
  obtain ⟨rfl, hZ, hh⟩ := hP
  have hx := Bd.exec
  have hby := Bd.bytes
  have hml : c.maxLocals = 1 := hml0
  have hown : s.vm.findClass "com/example/processionary/processionary/expressions/NameIsStartCharPinLaw" = some m.cls := findClass_of_methodNamed Bd.named
  have hnm := (name_of_methodNamed Bd.named Bd.method).1
  have X0 : Stand p l e ({ frames := 0, cells := 0, slots := 0, locals := 0 } : Room) s m #[(.int p0)] below meth c s₁ [] 0 0 := Stand.of_body Bd
  have e0 : s₁.heap = h0 := by rw [← hh, Bd.state]; rfl
  have N0 := Fr.nil n0
  have K0 : Keep h0 h0 [] := Keep.refl _ _
  obtain ⟨G, hG⟩ : ∃ z, z = s₁.setTop (entryFrame m #[(.int p0)] 1) := ⟨_, rfl⟩
  have pre0 : Lead p e below G (s₁.setTop (mkF m 0 #[.val (.int p0)] [])) := fun t k => by rw [hG]; exact castTop (ef_3 m p0) k
  have pre1 : Lead p e below G (s₁.setTop (mkF m 3 #[.val (.int p0)] [(.int (57 : Int32)), (.int p0)])) := fun t k => by
    refine pre0 t ?_
    show Steps p.tables e below (s₁.setTop (mkF m 0 #[.val (.int p0)] [])) _
    refine XS.iloadN X0.here hx rfl (hb hby d3_0) rfl ?_
    show Steps p.tables e below (s₁.setTop (mkF m 1 #[.val (.int p0)] [(.int p0)])) _
    refine XS.bipush X0.here hx rfl (hb hby d3_1) ?_
    show Steps p.tables e below (s₁.setTop (mkF m 3 #[.val (.int p0)] [(.int (57 : Int32)), (.int p0)])) _
    exact k
  have c2_180 : ∀ t, Steps p.tables e below (s₁.setTop (mkF m 181 #[.val (.int p0)] [(.int (0 : Int32))])) t → Steps p.tables e below (s₁.setTop (mkF m 180 #[.val (.int p0)] [])) t := fun t k => by
    refine XS.iconst X0.here hx rfl (hb hby d3_180) ?_
    show Steps p.tables e below (s₁.setTop (mkF m 181 #[.val (.int p0)] [(.int (0 : Int32))])) _
    exact k
  have c2_176 : ∀ t, Steps p.tables e below (s₁.setTop (mkF m 181 #[.val (.int p0)] [(.int (1 : Int32))])) t → Steps p.tables e below (s₁.setTop (mkF m 176 #[.val (.int p0)] [])) t := fun t k => by
    refine XS.iconst X0.here hx rfl (hb hby d3_176) ?_
    show Steps p.tables e below (s₁.setTop (mkF m 177 #[.val (.int p0)] [(.int (1 : Int32))])) _
    refine XS.goto X0.here hx rfl (pc0 := 177) (pc' := 181) rfl (hb hby d3_177) (by decide) (by decide) ?_
    show Steps p.tables e below (s₁.setTop (mkF m 181 #[.val (.int p0)] [(.int (1 : Int32))])) _
    exact k
  have c2_170 : ∀ t, Steps p.tables e below (s₁.setTop (mkF m 181 #[.val (.int p0)] [(.int (R3_2_170_0 p0))])) t → Steps p.tables e below (s₁.setTop (mkF m 170 #[.val (.int p0)] [])) t := fun t k => by
    refine XS.iloadN X0.here hx rfl (hb hby d3_170) rfl ?_
    show Steps p.tables e below (s₁.setTop (mkF m 171 #[.val (.int p0)] [(.int p0)])) _
    refine X0.ldcInt hx hown (mvT hZ (hw _ (List.mem_of_getElem? (i := 32) rfl))) (g := (mkF m 171 #[.val (.int p0)] [(.int p0)])) rfl (hb hby d3_171) _ ?_
    show Steps p.tables e below (s₁.setTop (mkF m 173 #[.val (.int p0)] [(.int (65535 : Int32)), (.int p0)])) _
    by_cases hd2_170 : (65535 : Int32) < p0
    · rw [show (R3_2_170_0 p0) = (if (65535 : Int32) < p0 then (0 : Int32) else (1 : Int32)) from rfl, if_pos hd2_170] at k
      refine XS.icmpYes X0.here hx rfl (pc0 := 173) (pc' := 180) rfl (hb hby d3_173) rfl (tlt hd2_170).2.2.1 (by decide) (by decide) ?_
      show Steps p.tables e below (s₁.setTop (mkF m 180 #[.val (.int p0)] [])) _
      exact c2_180 t k
    · rw [show (R3_2_170_0 p0) = (if (65535 : Int32) < p0 then (0 : Int32) else (1 : Int32)) from rfl, if_neg hd2_170] at k
      refine XS.icmpNo X0.here hx rfl (hb hby d3_173) rfl (flt hd2_170).2.2.1 ?_
      show Steps p.tables e below (s₁.setTop (mkF m 176 #[.val (.int p0)] [])) _
      exact c2_176 t k
  have c2_164 : ∀ t, Steps p.tables e below (s₁.setTop (mkF m 181 #[.val (.int p0)] [(.int (R3_2_164_0 p0))])) t → Steps p.tables e below (s₁.setTop (mkF m 164 #[.val (.int p0)] [])) t := fun t k => by
    refine XS.iloadN X0.here hx rfl (hb hby d3_164) rfl ?_
    show Steps p.tables e below (s₁.setTop (mkF m 165 #[.val (.int p0)] [(.int p0)])) _
    refine X0.ldcInt hx hown (mvT hZ (hw _ (List.mem_of_getElem? (i := 29) rfl))) (g := (mkF m 165 #[.val (.int p0)] [(.int p0)])) rfl (hb hby d3_165) _ ?_
    show Steps p.tables e below (s₁.setTop (mkF m 167 #[.val (.int p0)] [(.int (65534 : Int32)), (.int p0)])) _
    by_cases hd2_164 : p0 < (65534 : Int32)
    · rw [show (R3_2_164_0 p0) = (if p0 < (65534 : Int32) then (0 : Int32) else (R3_2_170_0 p0)) from rfl, if_pos hd2_164] at k
      refine XS.icmpYes X0.here hx rfl (pc0 := 167) (pc' := 180) rfl (hb hby d3_167) rfl (tlt hd2_164).1 (by decide) (by decide) ?_
      show Steps p.tables e below (s₁.setTop (mkF m 180 #[.val (.int p0)] [])) _
      exact c2_180 t k
    · rw [show (R3_2_164_0 p0) = (if p0 < (65534 : Int32) then (0 : Int32) else (R3_2_170_0 p0)) from rfl, if_neg hd2_164] at k
      refine XS.icmpNo X0.here hx rfl (hb hby d3_167) rfl (flt hd2_164).1 ?_
      show Steps p.tables e below (s₁.setTop (mkF m 170 #[.val (.int p0)] [])) _
      exact c2_170 t k
  have c2_158 : ∀ t, Steps p.tables e below (s₁.setTop (mkF m 181 #[.val (.int p0)] [(.int (R3_2_158_0 p0))])) t → Steps p.tables e below (s₁.setTop (mkF m 158 #[.val (.int p0)] [])) t := fun t k => by
    refine XS.iloadN X0.here hx rfl (hb hby d3_158) rfl ?_
    show Steps p.tables e below (s₁.setTop (mkF m 159 #[.val (.int p0)] [(.int p0)])) _
    refine X0.ldcInt hx hown (mvT hZ (hw _ (List.mem_of_getElem? (i := 31) rfl))) (g := (mkF m 159 #[.val (.int p0)] [(.int p0)])) rfl (hb hby d3_159) _ ?_
    show Steps p.tables e below (s₁.setTop (mkF m 161 #[.val (.int p0)] [(.int (65007 : Int32)), (.int p0)])) _
    by_cases hd2_158 : (65007 : Int32) < p0
    · rw [show (R3_2_158_0 p0) = (if (65007 : Int32) < p0 then (R3_2_164_0 p0) else (1 : Int32)) from rfl, if_pos hd2_158] at k
      refine XS.icmpNo X0.here hx rfl (hb hby d3_161) rfl (tlt hd2_158).2.2.2 ?_
      show Steps p.tables e below (s₁.setTop (mkF m 164 #[.val (.int p0)] [])) _
      exact c2_164 t k
    · rw [show (R3_2_158_0 p0) = (if (65007 : Int32) < p0 then (R3_2_164_0 p0) else (1 : Int32)) from rfl, if_neg hd2_158] at k
      refine XS.icmpYes X0.here hx rfl (pc0 := 161) (pc' := 176) rfl (hb hby d3_161) rfl (flt hd2_158).2.2.2 (by decide) (by decide) ?_
      show Steps p.tables e below (s₁.setTop (mkF m 176 #[.val (.int p0)] [])) _
      exact c2_176 t k
  have c2_152 : ∀ t, Steps p.tables e below (s₁.setTop (mkF m 181 #[.val (.int p0)] [(.int (R3_2_152_0 p0))])) t → Steps p.tables e below (s₁.setTop (mkF m 152 #[.val (.int p0)] [])) t := fun t k => by
    refine XS.iloadN X0.here hx rfl (hb hby d3_152) rfl ?_
    show Steps p.tables e below (s₁.setTop (mkF m 153 #[.val (.int p0)] [(.int p0)])) _
    refine X0.ldcInt hx hown (mvT hZ (hw _ (List.mem_of_getElem? (i := 28) rfl))) (g := (mkF m 153 #[.val (.int p0)] [(.int p0)])) rfl (hb hby d3_153) _ ?_
    show Steps p.tables e below (s₁.setTop (mkF m 155 #[.val (.int p0)] [(.int (64976 : Int32)), (.int p0)])) _
    by_cases hd2_152 : p0 < (64976 : Int32)
    · rw [show (R3_2_152_0 p0) = (if p0 < (64976 : Int32) then (R3_2_164_0 p0) else (R3_2_158_0 p0)) from rfl, if_pos hd2_152] at k
      refine XS.icmpYes X0.here hx rfl (pc0 := 155) (pc' := 164) rfl (hb hby d3_155) rfl (tlt hd2_152).1 (by decide) (by decide) ?_
      show Steps p.tables e below (s₁.setTop (mkF m 164 #[.val (.int p0)] [])) _
      exact c2_164 t k
    · rw [show (R3_2_152_0 p0) = (if p0 < (64976 : Int32) then (R3_2_164_0 p0) else (R3_2_158_0 p0)) from rfl, if_neg hd2_152] at k
      refine XS.icmpNo X0.here hx rfl (hb hby d3_155) rfl (flt hd2_152).1 ?_
      show Steps p.tables e below (s₁.setTop (mkF m 158 #[.val (.int p0)] [])) _
      exact c2_158 t k
  have c2_146 : ∀ t, Steps p.tables e below (s₁.setTop (mkF m 181 #[.val (.int p0)] [(.int (R3_2_146_0 p0))])) t → Steps p.tables e below (s₁.setTop (mkF m 146 #[.val (.int p0)] [])) t := fun t k => by
    refine XS.iloadN X0.here hx rfl (hb hby d3_146) rfl ?_
    show Steps p.tables e below (s₁.setTop (mkF m 147 #[.val (.int p0)] [(.int p0)])) _
    refine X0.ldcInt hx hown (mvT hZ (hw _ (List.mem_of_getElem? (i := 30) rfl))) (g := (mkF m 147 #[.val (.int p0)] [(.int p0)])) rfl (hb hby d3_147) _ ?_
    show Steps p.tables e below (s₁.setTop (mkF m 149 #[.val (.int p0)] [(.int (63743 : Int32)), (.int p0)])) _
    by_cases hd2_146 : (63743 : Int32) < p0
    · rw [show (R3_2_146_0 p0) = (if (63743 : Int32) < p0 then (R3_2_152_0 p0) else (1 : Int32)) from rfl, if_pos hd2_146] at k
      refine XS.icmpNo X0.here hx rfl (hb hby d3_149) rfl (tlt hd2_146).2.2.2 ?_
      show Steps p.tables e below (s₁.setTop (mkF m 152 #[.val (.int p0)] [])) _
      exact c2_152 t k
    · rw [show (R3_2_146_0 p0) = (if (63743 : Int32) < p0 then (R3_2_152_0 p0) else (1 : Int32)) from rfl, if_neg hd2_146] at k
      refine XS.icmpYes X0.here hx rfl (pc0 := 149) (pc' := 176) rfl (hb hby d3_149) rfl (flt hd2_146).2.2.2 (by decide) (by decide) ?_
      show Steps p.tables e below (s₁.setTop (mkF m 176 #[.val (.int p0)] [])) _
      exact c2_176 t k
  have c2_140 : ∀ t, Steps p.tables e below (s₁.setTop (mkF m 181 #[.val (.int p0)] [(.int (R3_2_140_0 p0))])) t → Steps p.tables e below (s₁.setTop (mkF m 140 #[.val (.int p0)] [])) t := fun t k => by
    refine XS.iloadN X0.here hx rfl (hb hby d3_140) rfl ?_
    show Steps p.tables e below (s₁.setTop (mkF m 141 #[.val (.int p0)] [(.int p0)])) _
    refine X0.ldcInt hx hown (mvT hZ (hw _ (List.mem_of_getElem? (i := 27) rfl))) (g := (mkF m 141 #[.val (.int p0)] [(.int p0)])) rfl (hb hby d3_141) _ ?_
    show Steps p.tables e below (s₁.setTop (mkF m 143 #[.val (.int p0)] [(.int (55296 : Int32)), (.int p0)])) _
    by_cases hd2_140 : p0 < (55296 : Int32)
    · rw [show (R3_2_140_0 p0) = (if p0 < (55296 : Int32) then (R3_2_152_0 p0) else (R3_2_146_0 p0)) from rfl, if_pos hd2_140] at k
      refine XS.icmpYes X0.here hx rfl (pc0 := 143) (pc' := 152) rfl (hb hby d3_143) rfl (tlt hd2_140).1 (by decide) (by decide) ?_
      show Steps p.tables e below (s₁.setTop (mkF m 152 #[.val (.int p0)] [])) _
      exact c2_152 t k
    · rw [show (R3_2_140_0 p0) = (if p0 < (55296 : Int32) then (R3_2_152_0 p0) else (R3_2_146_0 p0)) from rfl, if_neg hd2_140] at k
      refine XS.icmpNo X0.here hx rfl (hb hby d3_143) rfl (flt hd2_140).1 ?_
      show Steps p.tables e below (s₁.setTop (mkF m 146 #[.val (.int p0)] [])) _
      exact c2_146 t k
  have c2_133 : ∀ t, Steps p.tables e below (s₁.setTop (mkF m 181 #[.val (.int p0)] [(.int (R3_2_133_0 p0))])) t → Steps p.tables e below (s₁.setTop (mkF m 133 #[.val (.int p0)] [])) t := fun t k => by
    refine XS.iloadN X0.here hx rfl (hb hby d3_133) rfl ?_
    show Steps p.tables e below (s₁.setTop (mkF m 134 #[.val (.int p0)] [(.int p0)])) _
    refine XS.sipush X0.here hx rfl (hb hby d3_134) ?_
    show Steps p.tables e below (s₁.setTop (mkF m 137 #[.val (.int p0)] [(.int (12288 : Int32)), (.int p0)])) _
    by_cases hd2_133 : (12288 : Int32) < p0
    · rw [show (R3_2_133_0 p0) = (if (12288 : Int32) < p0 then (R3_2_140_0 p0) else (1 : Int32)) from rfl, if_pos hd2_133] at k
      refine XS.icmpNo X0.here hx rfl (hb hby d3_137) rfl (tlt hd2_133).2.2.2 ?_
      show Steps p.tables e below (s₁.setTop (mkF m 140 #[.val (.int p0)] [])) _
      exact c2_140 t k
    · rw [show (R3_2_133_0 p0) = (if (12288 : Int32) < p0 then (R3_2_140_0 p0) else (1 : Int32)) from rfl, if_neg hd2_133] at k
      refine XS.icmpYes X0.here hx rfl (pc0 := 137) (pc' := 176) rfl (hb hby d3_137) rfl (flt hd2_133).2.2.2 (by decide) (by decide) ?_
      show Steps p.tables e below (s₁.setTop (mkF m 176 #[.val (.int p0)] [])) _
      exact c2_176 t k
  have c2_126 : ∀ t, Steps p.tables e below (s₁.setTop (mkF m 181 #[.val (.int p0)] [(.int (R3_2_126_0 p0))])) t → Steps p.tables e below (s₁.setTop (mkF m 126 #[.val (.int p0)] [])) t := fun t k => by
    refine XS.iloadN X0.here hx rfl (hb hby d3_126) rfl ?_
    show Steps p.tables e below (s₁.setTop (mkF m 127 #[.val (.int p0)] [(.int p0)])) _
    refine XS.sipush X0.here hx rfl (hb hby d3_127) ?_
    show Steps p.tables e below (s₁.setTop (mkF m 130 #[.val (.int p0)] [(.int (12272 : Int32)), (.int p0)])) _
    by_cases hd2_126 : p0 < (12272 : Int32)
    · rw [show (R3_2_126_0 p0) = (if p0 < (12272 : Int32) then (R3_2_140_0 p0) else (R3_2_133_0 p0)) from rfl, if_pos hd2_126] at k
      refine XS.icmpYes X0.here hx rfl (pc0 := 130) (pc' := 140) rfl (hb hby d3_130) rfl (tlt hd2_126).1 (by decide) (by decide) ?_
      show Steps p.tables e below (s₁.setTop (mkF m 140 #[.val (.int p0)] [])) _
      exact c2_140 t k
    · rw [show (R3_2_126_0 p0) = (if p0 < (12272 : Int32) then (R3_2_140_0 p0) else (R3_2_133_0 p0)) from rfl, if_neg hd2_126] at k
      refine XS.icmpNo X0.here hx rfl (hb hby d3_130) rfl (flt hd2_126).1 ?_
      show Steps p.tables e below (s₁.setTop (mkF m 133 #[.val (.int p0)] [])) _
      exact c2_133 t k
  have c2_119 : ∀ t, Steps p.tables e below (s₁.setTop (mkF m 181 #[.val (.int p0)] [(.int (R3_2_119_0 p0))])) t → Steps p.tables e below (s₁.setTop (mkF m 119 #[.val (.int p0)] [])) t := fun t k => by
    refine XS.iloadN X0.here hx rfl (hb hby d3_119) rfl ?_
    show Steps p.tables e below (s₁.setTop (mkF m 120 #[.val (.int p0)] [(.int p0)])) _
    refine XS.sipush X0.here hx rfl (hb hby d3_120) ?_
    show Steps p.tables e below (s₁.setTop (mkF m 123 #[.val (.int p0)] [(.int (11263 : Int32)), (.int p0)])) _
    by_cases hd2_119 : (11263 : Int32) < p0
    · rw [show (R3_2_119_0 p0) = (if (11263 : Int32) < p0 then (R3_2_126_0 p0) else (1 : Int32)) from rfl, if_pos hd2_119] at k
      refine XS.icmpNo X0.here hx rfl (hb hby d3_123) rfl (tlt hd2_119).2.2.2 ?_
      show Steps p.tables e below (s₁.setTop (mkF m 126 #[.val (.int p0)] [])) _
      exact c2_126 t k
    · rw [show (R3_2_119_0 p0) = (if (11263 : Int32) < p0 then (R3_2_126_0 p0) else (1 : Int32)) from rfl, if_neg hd2_119] at k
      refine XS.icmpYes X0.here hx rfl (pc0 := 123) (pc' := 176) rfl (hb hby d3_123) rfl (flt hd2_119).2.2.2 (by decide) (by decide) ?_
      show Steps p.tables e below (s₁.setTop (mkF m 176 #[.val (.int p0)] [])) _
      exact c2_176 t k
  have c2_112 : ∀ t, Steps p.tables e below (s₁.setTop (mkF m 181 #[.val (.int p0)] [(.int (R3_2_112_0 p0))])) t → Steps p.tables e below (s₁.setTop (mkF m 112 #[.val (.int p0)] [])) t := fun t k => by
    refine XS.iloadN X0.here hx rfl (hb hby d3_112) rfl ?_
    show Steps p.tables e below (s₁.setTop (mkF m 113 #[.val (.int p0)] [(.int p0)])) _
    refine XS.sipush X0.here hx rfl (hb hby d3_113) ?_
    show Steps p.tables e below (s₁.setTop (mkF m 116 #[.val (.int p0)] [(.int (8592 : Int32)), (.int p0)])) _
    by_cases hd2_112 : p0 < (8592 : Int32)
    · rw [show (R3_2_112_0 p0) = (if p0 < (8592 : Int32) then (R3_2_126_0 p0) else (R3_2_119_0 p0)) from rfl, if_pos hd2_112] at k
      refine XS.icmpYes X0.here hx rfl (pc0 := 116) (pc' := 126) rfl (hb hby d3_116) rfl (tlt hd2_112).1 (by decide) (by decide) ?_
      show Steps p.tables e below (s₁.setTop (mkF m 126 #[.val (.int p0)] [])) _
      exact c2_126 t k
    · rw [show (R3_2_112_0 p0) = (if p0 < (8592 : Int32) then (R3_2_126_0 p0) else (R3_2_119_0 p0)) from rfl, if_neg hd2_112] at k
      refine XS.icmpNo X0.here hx rfl (hb hby d3_116) rfl (flt hd2_112).1 ?_
      show Steps p.tables e below (s₁.setTop (mkF m 119 #[.val (.int p0)] [])) _
      exact c2_119 t k
  have c2_105 : ∀ t, Steps p.tables e below (s₁.setTop (mkF m 181 #[.val (.int p0)] [(.int (R3_2_105_0 p0))])) t → Steps p.tables e below (s₁.setTop (mkF m 105 #[.val (.int p0)] [])) t := fun t k => by
    refine XS.iloadN X0.here hx rfl (hb hby d3_105) rfl ?_
    show Steps p.tables e below (s₁.setTop (mkF m 106 #[.val (.int p0)] [(.int p0)])) _
    refine XS.sipush X0.here hx rfl (hb hby d3_106) ?_
    show Steps p.tables e below (s₁.setTop (mkF m 109 #[.val (.int p0)] [(.int (8303 : Int32)), (.int p0)])) _
    by_cases hd2_105 : (8303 : Int32) < p0
    · rw [show (R3_2_105_0 p0) = (if (8303 : Int32) < p0 then (R3_2_112_0 p0) else (1 : Int32)) from rfl, if_pos hd2_105] at k
      refine XS.icmpNo X0.here hx rfl (hb hby d3_109) rfl (tlt hd2_105).2.2.2 ?_
      show Steps p.tables e below (s₁.setTop (mkF m 112 #[.val (.int p0)] [])) _
      exact c2_112 t k
    · rw [show (R3_2_105_0 p0) = (if (8303 : Int32) < p0 then (R3_2_112_0 p0) else (1 : Int32)) from rfl, if_neg hd2_105] at k
      refine XS.icmpYes X0.here hx rfl (pc0 := 109) (pc' := 176) rfl (hb hby d3_109) rfl (flt hd2_105).2.2.2 (by decide) (by decide) ?_
      show Steps p.tables e below (s₁.setTop (mkF m 176 #[.val (.int p0)] [])) _
      exact c2_176 t k
  have c2_98 : ∀ t, Steps p.tables e below (s₁.setTop (mkF m 181 #[.val (.int p0)] [(.int (R3_2_98_0 p0))])) t → Steps p.tables e below (s₁.setTop (mkF m 98 #[.val (.int p0)] [])) t := fun t k => by
    refine XS.iloadN X0.here hx rfl (hb hby d3_98) rfl ?_
    show Steps p.tables e below (s₁.setTop (mkF m 99 #[.val (.int p0)] [(.int p0)])) _
    refine XS.sipush X0.here hx rfl (hb hby d3_99) ?_
    show Steps p.tables e below (s₁.setTop (mkF m 102 #[.val (.int p0)] [(.int (8206 : Int32)), (.int p0)])) _
    by_cases hd2_98 : p0 < (8206 : Int32)
    · rw [show (R3_2_98_0 p0) = (if p0 < (8206 : Int32) then (R3_2_112_0 p0) else (R3_2_105_0 p0)) from rfl, if_pos hd2_98] at k
      refine XS.icmpYes X0.here hx rfl (pc0 := 102) (pc' := 112) rfl (hb hby d3_102) rfl (tlt hd2_98).1 (by decide) (by decide) ?_
      show Steps p.tables e below (s₁.setTop (mkF m 112 #[.val (.int p0)] [])) _
      exact c2_112 t k
    · rw [show (R3_2_98_0 p0) = (if p0 < (8206 : Int32) then (R3_2_112_0 p0) else (R3_2_105_0 p0)) from rfl, if_neg hd2_98] at k
      refine XS.icmpNo X0.here hx rfl (hb hby d3_102) rfl (flt hd2_98).1 ?_
      show Steps p.tables e below (s₁.setTop (mkF m 105 #[.val (.int p0)] [])) _
      exact c2_105 t k
  have c2_91 : ∀ t, Steps p.tables e below (s₁.setTop (mkF m 181 #[.val (.int p0)] [(.int (R3_2_91_0 p0))])) t → Steps p.tables e below (s₁.setTop (mkF m 91 #[.val (.int p0)] [])) t := fun t k => by
    refine XS.iloadN X0.here hx rfl (hb hby d3_91) rfl ?_
    show Steps p.tables e below (s₁.setTop (mkF m 92 #[.val (.int p0)] [(.int p0)])) _
    refine XS.sipush X0.here hx rfl (hb hby d3_92) ?_
    show Steps p.tables e below (s₁.setTop (mkF m 95 #[.val (.int p0)] [(.int (8203 : Int32)), (.int p0)])) _
    by_cases hd2_91 : (8203 : Int32) < p0
    · rw [show (R3_2_91_0 p0) = (if (8203 : Int32) < p0 then (R3_2_98_0 p0) else (1 : Int32)) from rfl, if_pos hd2_91] at k
      refine XS.icmpNo X0.here hx rfl (hb hby d3_95) rfl (tlt hd2_91).2.2.2 ?_
      show Steps p.tables e below (s₁.setTop (mkF m 98 #[.val (.int p0)] [])) _
      exact c2_98 t k
    · rw [show (R3_2_91_0 p0) = (if (8203 : Int32) < p0 then (R3_2_98_0 p0) else (1 : Int32)) from rfl, if_neg hd2_91] at k
      refine XS.icmpYes X0.here hx rfl (pc0 := 95) (pc' := 176) rfl (hb hby d3_95) rfl (flt hd2_91).2.2.2 (by decide) (by decide) ?_
      show Steps p.tables e below (s₁.setTop (mkF m 176 #[.val (.int p0)] [])) _
      exact c2_176 t k
  have c2_84 : ∀ t, Steps p.tables e below (s₁.setTop (mkF m 181 #[.val (.int p0)] [(.int (R3_2_84_0 p0))])) t → Steps p.tables e below (s₁.setTop (mkF m 84 #[.val (.int p0)] [])) t := fun t k => by
    refine XS.iloadN X0.here hx rfl (hb hby d3_84) rfl ?_
    show Steps p.tables e below (s₁.setTop (mkF m 85 #[.val (.int p0)] [(.int p0)])) _
    refine XS.sipush X0.here hx rfl (hb hby d3_85) ?_
    show Steps p.tables e below (s₁.setTop (mkF m 88 #[.val (.int p0)] [(.int (8192 : Int32)), (.int p0)])) _
    by_cases hd2_84 : p0 < (8192 : Int32)
    · rw [show (R3_2_84_0 p0) = (if p0 < (8192 : Int32) then (R3_2_98_0 p0) else (R3_2_91_0 p0)) from rfl, if_pos hd2_84] at k
      refine XS.icmpYes X0.here hx rfl (pc0 := 88) (pc' := 98) rfl (hb hby d3_88) rfl (tlt hd2_84).1 (by decide) (by decide) ?_
      show Steps p.tables e below (s₁.setTop (mkF m 98 #[.val (.int p0)] [])) _
      exact c2_98 t k
    · rw [show (R3_2_84_0 p0) = (if p0 < (8192 : Int32) then (R3_2_98_0 p0) else (R3_2_91_0 p0)) from rfl, if_neg hd2_84] at k
      refine XS.icmpNo X0.here hx rfl (hb hby d3_88) rfl (flt hd2_84).1 ?_
      show Steps p.tables e below (s₁.setTop (mkF m 91 #[.val (.int p0)] [])) _
      exact c2_91 t k
  have c2_77 : ∀ t, Steps p.tables e below (s₁.setTop (mkF m 181 #[.val (.int p0)] [(.int (R3_2_77_0 p0))])) t → Steps p.tables e below (s₁.setTop (mkF m 77 #[.val (.int p0)] [])) t := fun t k => by
    refine XS.iloadN X0.here hx rfl (hb hby d3_77) rfl ?_
    show Steps p.tables e below (s₁.setTop (mkF m 78 #[.val (.int p0)] [(.int p0)])) _
    refine XS.sipush X0.here hx rfl (hb hby d3_78) ?_
    show Steps p.tables e below (s₁.setTop (mkF m 81 #[.val (.int p0)] [(.int (894 : Int32)), (.int p0)])) _
    by_cases hd2_77 : p0 = (894 : Int32)
    · rw [show (R3_2_77_0 p0) = (if p0 = (894 : Int32) then (1 : Int32) else (R3_2_84_0 p0)) from rfl, if_pos hd2_77] at k
      refine XS.icmpYes X0.here hx rfl (pc0 := 81) (pc' := 176) rfl (hb hby d3_81) rfl (teq hd2_77).1 (by decide) (by decide) ?_
      show Steps p.tables e below (s₁.setTop (mkF m 176 #[.val (.int p0)] [])) _
      exact c2_176 t k
    · rw [show (R3_2_77_0 p0) = (if p0 = (894 : Int32) then (1 : Int32) else (R3_2_84_0 p0)) from rfl, if_neg hd2_77] at k
      refine XS.icmpNo X0.here hx rfl (hb hby d3_81) rfl (feq hd2_77).1 ?_
      show Steps p.tables e below (s₁.setTop (mkF m 84 #[.val (.int p0)] [])) _
      exact c2_84 t k
  have c2_70 : ∀ t, Steps p.tables e below (s₁.setTop (mkF m 181 #[.val (.int p0)] [(.int (R3_2_70_0 p0))])) t → Steps p.tables e below (s₁.setTop (mkF m 70 #[.val (.int p0)] [])) t := fun t k => by
    refine XS.iloadN X0.here hx rfl (hb hby d3_70) rfl ?_
    show Steps p.tables e below (s₁.setTop (mkF m 71 #[.val (.int p0)] [(.int p0)])) _
    refine XS.sipush X0.here hx rfl (hb hby d3_71) ?_
    show Steps p.tables e below (s₁.setTop (mkF m 74 #[.val (.int p0)] [(.int (879 : Int32)), (.int p0)])) _
    by_cases hd2_70 : (879 : Int32) < p0
    · rw [show (R3_2_70_0 p0) = (if (879 : Int32) < p0 then (R3_2_77_0 p0) else (1 : Int32)) from rfl, if_pos hd2_70] at k
      refine XS.icmpNo X0.here hx rfl (hb hby d3_74) rfl (tlt hd2_70).2.2.2 ?_
      show Steps p.tables e below (s₁.setTop (mkF m 77 #[.val (.int p0)] [])) _
      exact c2_77 t k
    · rw [show (R3_2_70_0 p0) = (if (879 : Int32) < p0 then (R3_2_77_0 p0) else (1 : Int32)) from rfl, if_neg hd2_70] at k
      refine XS.icmpYes X0.here hx rfl (pc0 := 74) (pc' := 176) rfl (hb hby d3_74) rfl (flt hd2_70).2.2.2 (by decide) (by decide) ?_
      show Steps p.tables e below (s₁.setTop (mkF m 176 #[.val (.int p0)] [])) _
      exact c2_176 t k
  have c2_63 : ∀ t, Steps p.tables e below (s₁.setTop (mkF m 181 #[.val (.int p0)] [(.int (R3_2_63_0 p0))])) t → Steps p.tables e below (s₁.setTop (mkF m 63 #[.val (.int p0)] [])) t := fun t k => by
    refine XS.iloadN X0.here hx rfl (hb hby d3_63) rfl ?_
    show Steps p.tables e below (s₁.setTop (mkF m 64 #[.val (.int p0)] [(.int p0)])) _
    refine XS.sipush X0.here hx rfl (hb hby d3_64) ?_
    show Steps p.tables e below (s₁.setTop (mkF m 67 #[.val (.int p0)] [(.int (768 : Int32)), (.int p0)])) _
    by_cases hd2_63 : p0 < (768 : Int32)
    · rw [show (R3_2_63_0 p0) = (if p0 < (768 : Int32) then (R3_2_77_0 p0) else (R3_2_70_0 p0)) from rfl, if_pos hd2_63] at k
      refine XS.icmpYes X0.here hx rfl (pc0 := 67) (pc' := 77) rfl (hb hby d3_67) rfl (tlt hd2_63).1 (by decide) (by decide) ?_
      show Steps p.tables e below (s₁.setTop (mkF m 77 #[.val (.int p0)] [])) _
      exact c2_77 t k
    · rw [show (R3_2_63_0 p0) = (if p0 < (768 : Int32) then (R3_2_77_0 p0) else (R3_2_70_0 p0)) from rfl, if_neg hd2_63] at k
      refine XS.icmpNo X0.here hx rfl (hb hby d3_67) rfl (flt hd2_63).1 ?_
      show Steps p.tables e below (s₁.setTop (mkF m 70 #[.val (.int p0)] [])) _
      exact c2_70 t k
  have c2_56 : ∀ t, Steps p.tables e below (s₁.setTop (mkF m 181 #[.val (.int p0)] [(.int (R3_2_56_0 p0))])) t → Steps p.tables e below (s₁.setTop (mkF m 56 #[.val (.int p0)] [])) t := fun t k => by
    refine XS.iloadN X0.here hx rfl (hb hby d3_56) rfl ?_
    show Steps p.tables e below (s₁.setTop (mkF m 57 #[.val (.int p0)] [(.int p0)])) _
    refine XS.sipush X0.here hx rfl (hb hby d3_57) ?_
    show Steps p.tables e below (s₁.setTop (mkF m 60 #[.val (.int p0)] [(.int (247 : Int32)), (.int p0)])) _
    by_cases hd2_56 : p0 = (247 : Int32)
    · rw [show (R3_2_56_0 p0) = (if p0 = (247 : Int32) then (1 : Int32) else (R3_2_63_0 p0)) from rfl, if_pos hd2_56] at k
      refine XS.icmpYes X0.here hx rfl (pc0 := 60) (pc' := 176) rfl (hb hby d3_60) rfl (teq hd2_56).1 (by decide) (by decide) ?_
      show Steps p.tables e below (s₁.setTop (mkF m 176 #[.val (.int p0)] [])) _
      exact c2_176 t k
    · rw [show (R3_2_56_0 p0) = (if p0 = (247 : Int32) then (1 : Int32) else (R3_2_63_0 p0)) from rfl, if_neg hd2_56] at k
      refine XS.icmpNo X0.here hx rfl (hb hby d3_60) rfl (feq hd2_56).1 ?_
      show Steps p.tables e below (s₁.setTop (mkF m 63 #[.val (.int p0)] [])) _
      exact c2_63 t k
  have c2_49 : ∀ t, Steps p.tables e below (s₁.setTop (mkF m 181 #[.val (.int p0)] [(.int (R3_2_49_0 p0))])) t → Steps p.tables e below (s₁.setTop (mkF m 49 #[.val (.int p0)] [])) t := fun t k => by
    refine XS.iloadN X0.here hx rfl (hb hby d3_49) rfl ?_
    show Steps p.tables e below (s₁.setTop (mkF m 50 #[.val (.int p0)] [(.int p0)])) _
    refine XS.sipush X0.here hx rfl (hb hby d3_50) ?_
    show Steps p.tables e below (s₁.setTop (mkF m 53 #[.val (.int p0)] [(.int (215 : Int32)), (.int p0)])) _
    by_cases hd2_49 : p0 = (215 : Int32)
    · rw [show (R3_2_49_0 p0) = (if p0 = (215 : Int32) then (1 : Int32) else (R3_2_56_0 p0)) from rfl, if_pos hd2_49] at k
      refine XS.icmpYes X0.here hx rfl (pc0 := 53) (pc' := 176) rfl (hb hby d3_53) rfl (teq hd2_49).1 (by decide) (by decide) ?_
      show Steps p.tables e below (s₁.setTop (mkF m 176 #[.val (.int p0)] [])) _
      exact c2_176 t k
    · rw [show (R3_2_49_0 p0) = (if p0 = (215 : Int32) then (1 : Int32) else (R3_2_56_0 p0)) from rfl, if_neg hd2_49] at k
      refine XS.icmpNo X0.here hx rfl (hb hby d3_53) rfl (feq hd2_49).1 ?_
      show Steps p.tables e below (s₁.setTop (mkF m 56 #[.val (.int p0)] [])) _
      exact c2_56 t k
  have c2_42 : ∀ t, Steps p.tables e below (s₁.setTop (mkF m 181 #[.val (.int p0)] [(.int (R3_2_42_0 p0))])) t → Steps p.tables e below (s₁.setTop (mkF m 42 #[.val (.int p0)] [])) t := fun t k => by
    refine XS.iloadN X0.here hx rfl (hb hby d3_42) rfl ?_
    show Steps p.tables e below (s₁.setTop (mkF m 43 #[.val (.int p0)] [(.int p0)])) _
    refine XS.sipush X0.here hx rfl (hb hby d3_43) ?_
    show Steps p.tables e below (s₁.setTop (mkF m 46 #[.val (.int p0)] [(.int (191 : Int32)), (.int p0)])) _
    by_cases hd2_42 : (191 : Int32) < p0
    · rw [show (R3_2_42_0 p0) = (if (191 : Int32) < p0 then (R3_2_49_0 p0) else (1 : Int32)) from rfl, if_pos hd2_42] at k
      refine XS.icmpNo X0.here hx rfl (hb hby d3_46) rfl (tlt hd2_42).2.2.2 ?_
      show Steps p.tables e below (s₁.setTop (mkF m 49 #[.val (.int p0)] [])) _
      exact c2_49 t k
    · rw [show (R3_2_42_0 p0) = (if (191 : Int32) < p0 then (R3_2_49_0 p0) else (1 : Int32)) from rfl, if_neg hd2_42] at k
      refine XS.icmpYes X0.here hx rfl (pc0 := 46) (pc' := 176) rfl (hb hby d3_46) rfl (flt hd2_42).2.2.2 (by decide) (by decide) ?_
      show Steps p.tables e below (s₁.setTop (mkF m 176 #[.val (.int p0)] [])) _
      exact c2_176 t k
  have c2_36 : ∀ t, Steps p.tables e below (s₁.setTop (mkF m 181 #[.val (.int p0)] [(.int (R3_2_36_0 p0))])) t → Steps p.tables e below (s₁.setTop (mkF m 36 #[.val (.int p0)] [])) t := fun t k => by
    refine XS.iloadN X0.here hx rfl (hb hby d3_36) rfl ?_
    show Steps p.tables e below (s₁.setTop (mkF m 37 #[.val (.int p0)] [(.int p0)])) _
    refine XS.bipush X0.here hx rfl (hb hby d3_37) ?_
    show Steps p.tables e below (s₁.setTop (mkF m 39 #[.val (.int p0)] [(.int (123 : Int32)), (.int p0)])) _
    by_cases hd2_36 : p0 < (123 : Int32)
    · rw [show (R3_2_36_0 p0) = (if p0 < (123 : Int32) then (R3_2_49_0 p0) else (R3_2_42_0 p0)) from rfl, if_pos hd2_36] at k
      refine XS.icmpYes X0.here hx rfl (pc0 := 39) (pc' := 49) rfl (hb hby d3_39) rfl (tlt hd2_36).1 (by decide) (by decide) ?_
      show Steps p.tables e below (s₁.setTop (mkF m 49 #[.val (.int p0)] [])) _
      exact c2_49 t k
    · rw [show (R3_2_36_0 p0) = (if p0 < (123 : Int32) then (R3_2_49_0 p0) else (R3_2_42_0 p0)) from rfl, if_neg hd2_36] at k
      refine XS.icmpNo X0.here hx rfl (hb hby d3_39) rfl (flt hd2_36).1 ?_
      show Steps p.tables e below (s₁.setTop (mkF m 42 #[.val (.int p0)] [])) _
      exact c2_42 t k
  have c2_30 : ∀ t, Steps p.tables e below (s₁.setTop (mkF m 181 #[.val (.int p0)] [(.int (R3_2_30_0 p0))])) t → Steps p.tables e below (s₁.setTop (mkF m 30 #[.val (.int p0)] [])) t := fun t k => by
    refine XS.iloadN X0.here hx rfl (hb hby d3_30) rfl ?_
    show Steps p.tables e below (s₁.setTop (mkF m 31 #[.val (.int p0)] [(.int p0)])) _
    refine XS.bipush X0.here hx rfl (hb hby d3_31) ?_
    show Steps p.tables e below (s₁.setTop (mkF m 33 #[.val (.int p0)] [(.int (96 : Int32)), (.int p0)])) _
    by_cases hd2_30 : p0 = (96 : Int32)
    · rw [show (R3_2_30_0 p0) = (if p0 = (96 : Int32) then (1 : Int32) else (R3_2_36_0 p0)) from rfl, if_pos hd2_30] at k
      refine XS.icmpYes X0.here hx rfl (pc0 := 33) (pc' := 176) rfl (hb hby d3_33) rfl (teq hd2_30).1 (by decide) (by decide) ?_
      show Steps p.tables e below (s₁.setTop (mkF m 176 #[.val (.int p0)] [])) _
      exact c2_176 t k
    · rw [show (R3_2_30_0 p0) = (if p0 = (96 : Int32) then (1 : Int32) else (R3_2_36_0 p0)) from rfl, if_neg hd2_30] at k
      refine XS.icmpNo X0.here hx rfl (hb hby d3_33) rfl (feq hd2_30).1 ?_
      show Steps p.tables e below (s₁.setTop (mkF m 36 #[.val (.int p0)] [])) _
      exact c2_36 t k
  have c2_24 : ∀ t, Steps p.tables e below (s₁.setTop (mkF m 181 #[.val (.int p0)] [(.int (R3_2_24_0 p0))])) t → Steps p.tables e below (s₁.setTop (mkF m 24 #[.val (.int p0)] [])) t := fun t k => by
    refine XS.iloadN X0.here hx rfl (hb hby d3_24) rfl ?_
    show Steps p.tables e below (s₁.setTop (mkF m 25 #[.val (.int p0)] [(.int p0)])) _
    refine XS.bipush X0.here hx rfl (hb hby d3_25) ?_
    show Steps p.tables e below (s₁.setTop (mkF m 27 #[.val (.int p0)] [(.int (94 : Int32)), (.int p0)])) _
    by_cases hd2_24 : (94 : Int32) < p0
    · rw [show (R3_2_24_0 p0) = (if (94 : Int32) < p0 then (R3_2_30_0 p0) else (1 : Int32)) from rfl, if_pos hd2_24] at k
      refine XS.icmpNo X0.here hx rfl (hb hby d3_27) rfl (tlt hd2_24).2.2.2 ?_
      show Steps p.tables e below (s₁.setTop (mkF m 30 #[.val (.int p0)] [])) _
      exact c2_30 t k
    · rw [show (R3_2_24_0 p0) = (if (94 : Int32) < p0 then (R3_2_30_0 p0) else (1 : Int32)) from rfl, if_neg hd2_24] at k
      refine XS.icmpYes X0.here hx rfl (pc0 := 27) (pc' := 176) rfl (hb hby d3_27) rfl (flt hd2_24).2.2.2 (by decide) (by decide) ?_
      show Steps p.tables e below (s₁.setTop (mkF m 176 #[.val (.int p0)] [])) _
      exact c2_176 t k
  have c2_18 : ∀ t, Steps p.tables e below (s₁.setTop (mkF m 181 #[.val (.int p0)] [(.int (R3_2_18_0 p0))])) t → Steps p.tables e below (s₁.setTop (mkF m 18 #[.val (.int p0)] [])) t := fun t k => by
    refine XS.iloadN X0.here hx rfl (hb hby d3_18) rfl ?_
    show Steps p.tables e below (s₁.setTop (mkF m 19 #[.val (.int p0)] [(.int p0)])) _
    refine XS.bipush X0.here hx rfl (hb hby d3_19) ?_
    show Steps p.tables e below (s₁.setTop (mkF m 21 #[.val (.int p0)] [(.int (91 : Int32)), (.int p0)])) _
    by_cases hd2_18 : p0 < (91 : Int32)
    · rw [show (R3_2_18_0 p0) = (if p0 < (91 : Int32) then (R3_2_30_0 p0) else (R3_2_24_0 p0)) from rfl, if_pos hd2_18] at k
      refine XS.icmpYes X0.here hx rfl (pc0 := 21) (pc' := 30) rfl (hb hby d3_21) rfl (tlt hd2_18).1 (by decide) (by decide) ?_
      show Steps p.tables e below (s₁.setTop (mkF m 30 #[.val (.int p0)] [])) _
      exact c2_30 t k
    · rw [show (R3_2_18_0 p0) = (if p0 < (91 : Int32) then (R3_2_30_0 p0) else (R3_2_24_0 p0)) from rfl, if_neg hd2_18] at k
      refine XS.icmpNo X0.here hx rfl (hb hby d3_21) rfl (flt hd2_18).1 ?_
      show Steps p.tables e below (s₁.setTop (mkF m 24 #[.val (.int p0)] [])) _
      exact c2_24 t k
  have c2_12 : ∀ t, Steps p.tables e below (s₁.setTop (mkF m 181 #[.val (.int p0)] [(.int (R3_2_12_0 p0))])) t → Steps p.tables e below (s₁.setTop (mkF m 12 #[.val (.int p0)] [])) t := fun t k => by
    refine XS.iloadN X0.here hx rfl (hb hby d3_12) rfl ?_
    show Steps p.tables e below (s₁.setTop (mkF m 13 #[.val (.int p0)] [(.int p0)])) _
    refine XS.bipush X0.here hx rfl (hb hby d3_13) ?_
    show Steps p.tables e below (s₁.setTop (mkF m 15 #[.val (.int p0)] [(.int (64 : Int32)), (.int p0)])) _
    by_cases hd2_12 : (64 : Int32) < p0
    · rw [show (R3_2_12_0 p0) = (if (64 : Int32) < p0 then (R3_2_18_0 p0) else (1 : Int32)) from rfl, if_pos hd2_12] at k
      refine XS.icmpNo X0.here hx rfl (hb hby d3_15) rfl (tlt hd2_12).2.2.2 ?_
      show Steps p.tables e below (s₁.setTop (mkF m 18 #[.val (.int p0)] [])) _
      exact c2_18 t k
    · rw [show (R3_2_12_0 p0) = (if (64 : Int32) < p0 then (R3_2_18_0 p0) else (1 : Int32)) from rfl, if_neg hd2_12] at k
      refine XS.icmpYes X0.here hx rfl (pc0 := 15) (pc' := 176) rfl (hb hby d3_15) rfl (flt hd2_12).2.2.2 (by decide) (by decide) ?_
      show Steps p.tables e below (s₁.setTop (mkF m 176 #[.val (.int p0)] [])) _
      exact c2_176 t k
  have c2_6 : ∀ t, Steps p.tables e below (s₁.setTop (mkF m 181 #[.val (.int p0)] [(.int (R3_2_6_0 p0))])) t → Steps p.tables e below (s₁.setTop (mkF m 6 #[.val (.int p0)] [])) t := fun t k => by
    refine XS.iloadN X0.here hx rfl (hb hby d3_6) rfl ?_
    show Steps p.tables e below (s₁.setTop (mkF m 7 #[.val (.int p0)] [(.int p0)])) _
    refine XS.bipush X0.here hx rfl (hb hby d3_7) ?_
    show Steps p.tables e below (s₁.setTop (mkF m 9 #[.val (.int p0)] [(.int (59 : Int32)), (.int p0)])) _
    by_cases hd2_6 : p0 < (59 : Int32)
    · rw [show (R3_2_6_0 p0) = (if p0 < (59 : Int32) then (R3_2_18_0 p0) else (R3_2_12_0 p0)) from rfl, if_pos hd2_6] at k
      refine XS.icmpYes X0.here hx rfl (pc0 := 9) (pc' := 18) rfl (hb hby d3_9) rfl (tlt hd2_6).1 (by decide) (by decide) ?_
      show Steps p.tables e below (s₁.setTop (mkF m 18 #[.val (.int p0)] [])) _
      exact c2_18 t k
    · rw [show (R3_2_6_0 p0) = (if p0 < (59 : Int32) then (R3_2_18_0 p0) else (R3_2_12_0 p0)) from rfl, if_neg hd2_6] at k
      refine XS.icmpNo X0.here hx rfl (hb hby d3_9) rfl (flt hd2_6).1 ?_
      show Steps p.tables e below (s₁.setTop (mkF m 12 #[.val (.int p0)] [])) _
      exact c2_12 t k
  have c2_3 : ∀ t, Steps p.tables e below (s₁.setTop (mkF m 181 #[.val (.int p0)] [(.int (R3_2_3_0 p0))])) t → Steps p.tables e below (s₁.setTop (mkF m 3 #[.val (.int p0)] [(.int (57 : Int32)), (.int p0)])) t := fun t k => by
    by_cases hd2_3 : (57 : Int32) < p0
    · rw [show (R3_2_3_0 p0) = (if (57 : Int32) < p0 then (R3_2_6_0 p0) else (1 : Int32)) from rfl, if_pos hd2_3] at k
      refine XS.icmpNo X0.here hx rfl (hb hby d3_3) rfl (tlt hd2_3).2.2.2 ?_
      show Steps p.tables e below (s₁.setTop (mkF m 6 #[.val (.int p0)] [])) _
      exact c2_6 t k
    · rw [show (R3_2_3_0 p0) = (if (57 : Int32) < p0 then (R3_2_6_0 p0) else (1 : Int32)) from rfl, if_neg hd2_3] at k
      refine XS.icmpYes X0.here hx rfl (pc0 := 3) (pc' := 176) rfl (hb hby d3_3) rfl (flt hd2_3).2.2.2 (by decide) (by decide) ?_
      show Steps p.tables e below (s₁.setTop (mkF m 176 #[.val (.int p0)] [])) _
      exact c2_176 t k
  have pre2 : Lead p e below G (s₁.setTop (mkF m 181 #[.val (.int p0)] [(.int (R3_2_3_0 p0))])) := fun t k => pre1 t (c2_3 t k)
  obtain ⟨fs, hr, hrun, hended, hW, hsame⟩ := X0.leave (v := some (.int (nar .boolean (R3_2_3_0 p0)))) (fun h => by rw [Bd.returns] at h; cases h)
  subst hG
  refine ⟨_, _, pre2 _ ?_, hrun, hended, _, _, rfl, ?_, ⟨_, rfl⟩, hW, hsame.mono (by decide) (by decide)⟩
  · show Steps p.tables e below (s₁.setTop (mkF m 181 #[.val (.int p0)] [(.int (R3_2_3_0 p0))])) _
    exact retN X0 hx (t := .boolean) Bd.returns (by simp) (hb hby d3_181) hr
  · show Q3 Z p0 h0 n0 _ s₁.heap _
    rw [e0]
    have hv_ : (nar .boolean (R3_2_3_0 p0)) = F3 p0 := by
      skip
      rfl
    exact ⟨congrArg (fun z => some (Value.int z)) hv_, N0, rfl⟩
theorem pd__28_I_29_Z : parseMethodDescriptor "(I)Z" = some ⟨[.int], some .boolean⟩ := by decide +kernel
theorem d2_0 : decode method_3_code 0 = .ok (.iload_n 0, 1) := by decide +kernel
theorem d2_1 : decode method_3_code 1 = .ok (.ldc 13, 2) := by decide +kernel
theorem d2_3 : decode method_3_code 3 = .ok (.if_icmp .gt 14, 3) := by decide +kernel
theorem d2_6 : decode method_3_code 6 = .ok (.iload_n 0, 1) := by decide +kernel
theorem d2_7 : decode method_3_code 7 = .ok (.invokestatic 14, 3) := by decide +kernel
theorem d2_10 : decode method_3_code 10 = .ok (.ifCond .ne 7, 3) := by decide +kernel
theorem d2_13 : decode method_3_code 13 = .ok (.iconst 1, 1) := by decide +kernel
theorem d2_14 : decode method_3_code 14 = .ok (.goto 4, 3) := by decide +kernel
theorem d2_17 : decode method_3_code 17 = .ok (.iconst 0, 1) := by decide +kernel
theorem d2_18 : decode method_3_code 18 = .ok (.ireturn, 1) := by decide +kernel
def F2 (p0 : Int32) : Int32 := if (983039 : Int32) < p0 then ((nar .boolean (0 : Int32))) else ((nar .boolean (if (F3 p0) = (0 : Int32) then (1 : Int32) else (0 : Int32))))
theorem ef_2 (m : MethodId) (p0 : Int32) : entryFrame m #[(.int p0)] 1 = mkF m 0 #[.val (.int p0)] [] := by first | (simp [entryFrame, mkF, argsToLocals, Value.category]; done) | rfl
def Q2 (Z : State) (p0 : Int32)  (h0 : Heap) (n0 : Nat) (v : Option Value) (h : Heap) (L : List Loc) : Prop := v = some (.int (F2 p0)) ∧ Fr n0 L ∧ h = h0
set_option maxRecDepth 65536 in
set_option maxHeartbeats 40000000 in
theorem rm2 (l : Launch) (Z : State) (a0 : Array Value) (hw : ∀ d ∈ tables_1, d.before a0 Z = true) (ws : List Jvm.Cond) (p0 : Int32)  (h0 : Heap) (n0 : Nat) (Z0 : n0 ≤ h0.size)  :
    MetFree l (⟨"com/example/processionary/processionary/expressions/NameIsStartCharPinLaw", "reference", "(I)Z"⟩ : MethodName) (head1 (Jvm.Cond.code (⟨"com/example/processionary/processionary/expressions/NameIsStartCharPinLaw", "reference", "(I)Z"⟩ : MethodName) method_3_code 1 (some .boolean) :: ws) ({ frames := 1, cells := 0, slots := 0, locals := 12 } : Room)) (fun a U => a = #[(.int p0)] ∧ Z.Warmed39 U.vm ∧ U.heap = h0) (fun _ _ _ _ _ => True) (fun _ U o U' => ∃ v L, o = .returned v ∧ Q2 Z p0 h0 n0 v U'.heap L ∧ FrameEnd U o U' L ({ frames := 1, cells := 0, slots := 0, locals := 12 } : Room).cells ({ frames := 1, cells := 0, slots := 0, locals := 12 } : Room).slots) := by
  refine MetFree.of_bodySF (plainFor_of_name pn_com_example_processionary_processionary_expressions_NameIsStartCharPinLaw) hisR ?_
  intro p e s m args below meth c s₁ Bd hml0 hP hK
  obtain ⟨rfl, hZ, hh⟩ := hP
  have hx := Bd.exec
  have hby := Bd.bytes
  have hml : c.maxLocals = 1 := hml0
  have hown : s.vm.findClass "com/example/processionary/processionary/expressions/NameIsStartCharPinLaw" = some m.cls := findClass_of_methodNamed Bd.named
  have hnm := (name_of_methodNamed Bd.named Bd.method).1
  have X0 : Stand p l e ({ frames := 1, cells := 0, slots := 0, locals := 12 } : Room) s m #[(.int p0)] below meth c s₁ [] 0 0 := Stand.of_body Bd
  have e0 : s₁.heap = h0 := by rw [← hh, Bd.state]; rfl
  have N0 := Fr.nil n0
  have K0 : Keep h0 h0 [] := Keep.refl _ _
  obtain ⟨G, hG⟩ : ∃ z, z = s₁.setTop (entryFrame m #[(.int p0)] 1) := ⟨_, rfl⟩
  have pre0 : Lead p e below G (s₁.setTop (mkF m 0 #[.val (.int p0)] [])) := fun t k => by rw [hG]; exact castTop (ef_2 m p0) k
  have pre2 : Lead p e below G (s₁.setTop (mkF m 3 #[.val (.int p0)] [(.int (983039 : Int32)), (.int p0)])) := fun t k => by
    refine pre0 t ?_
    show Steps p.tables e below (s₁.setTop (mkF m 0 #[.val (.int p0)] [])) _
    refine XS.iloadN X0.here hx rfl (hb hby d2_0) rfl ?_
    show Steps p.tables e below (s₁.setTop (mkF m 1 #[.val (.int p0)] [(.int p0)])) _
    refine X0.ldcInt hx hown (mvT hZ (hw _ (List.mem_of_getElem? (i := 7) rfl))) (g := (mkF m 1 #[.val (.int p0)] [(.int p0)])) rfl (hb hby d2_1) _ ?_
    show Steps p.tables e below (s₁.setTop (mkF m 3 #[.val (.int p0)] [(.int (983039 : Int32)), (.int p0)])) _
    exact k
  by_cases hs3_3 : (983039 : Int32) < p0
  · obtain ⟨fs, hr, hrun, hended, hW, hsame⟩ := X0.leave (v := some (.int (nar .boolean (0 : Int32)))) (fun h => by rw [Bd.returns] at h; cases h)
    subst hG
    refine ⟨_, _, pre2 _ ?_, hrun, hended, _, _, rfl, ?_, ⟨_, rfl⟩, hW, hsame.mono (by decide) (by decide)⟩
    · show Steps p.tables e below (s₁.setTop (mkF m 3 #[.val (.int p0)] [(.int (983039 : Int32)), (.int p0)])) _
      refine XS.icmpYes X0.here hx rfl (pc0 := 3) (pc' := 17) rfl (hb hby d2_3) rfl (tlt hs3_3).2.2.1 (by decide) (by decide) ?_
      show Steps p.tables e below (s₁.setTop (mkF m 17 #[.val (.int p0)] [])) _
      refine XS.iconst X0.here hx rfl (hb hby d2_17) ?_
      show Steps p.tables e below (s₁.setTop (mkF m 18 #[.val (.int p0)] [(.int (0 : Int32))])) _
      exact retN X0 hx (t := .boolean) Bd.returns (by simp) (hb hby d2_18) hr
    · show Q2 Z p0 h0 n0 _ s₁.heap _
      rw [e0]
      have hv_ : (nar .boolean (0 : Int32)) = F2 p0 := by
        skip
        unfold F2; simp only [if_pos hs3_3]
      exact ⟨congrArg (fun z => some (Value.int z)) hv_, N0, rfl⟩
  · have pre4 : Lead p e below G (s₁.setTop (mkF m 7 #[.val (.int p0)] [(.int p0)])) := fun t k => by
      refine pre2 t ?_
      show Steps p.tables e below (s₁.setTop (mkF m 3 #[.val (.int p0)] [(.int (983039 : Int32)), (.int p0)])) _
      refine XS.icmpNo X0.here hx rfl (hb hby d2_3) rfl (flt hs3_3).2.2.1 ?_
      show Steps p.tables e below (s₁.setTop (mkF m 6 #[.val (.int p0)] [])) _
      refine XS.iloadN X0.here hx rfl (hb hby d2_6) rfl ?_
      show Steps p.tables e below (s₁.setTop (mkF m 7 #[.val (.int p0)] [(.int p0)])) _
      exact k
    obtain ⟨_, _, ⟨T5, L5, k5, n5⟩, -, X5, ⟨Lc5, hQ5, l5, y5, z5⟩, st5⟩ := Jvm.LawKit.callS X0 hx (y := (⟨"com/example/processionary/processionary/expressions/NameIsStartCharPinLaw", "excluded", "(I)Z"⟩ : MethodName)) hown (mvT hZ (hw _ (List.mem_of_getElem? (i := 19) rfl))) (mvT hZ (hw _ (List.mem_of_getElem? (i := 20) rfl))) (mvT hZ (hw _ (List.mem_of_getElem? (i := 17) rfl))) (mvT hZ (hw _ (List.mem_of_getElem? (i := 21) rfl))) (by decide) (backOf (W := 0) (rm3 l Z a0 hw [] p0  h0 n0 (Nat.le_trans Z0 K0.1) ) hZ (hw _ (List.mem_of_getElem? (i := 21) rfl)) (hw _ (List.mem_of_getElem? (i := 17) rfl)) (by decide) (by decide)) (g := (mkF m 7 #[.val (.int p0)] [(.int p0)])) rfl (by rw [hml]; rfl) (argsL := [(.int p0)]) (rest := []) (lenOf pd__28_I_29_Z rfl) rfl (by show 2 * 0 + _ ≤ _; exact Nat.le_of_eq rfl) (hb hby d2_7) (fun _ _ => ⟨rfl, e0, (by decide : 0 + 0 ≤ _), (by decide : 0 + 0 ≤ _)⟩)
    dsimp only [Pt.U, Pt.locs, Pt.cells, Pt.slots] at X5 l5 y5 z5 st5 hQ5
    subst l5 y5 z5
    obtain ⟨rfl, N5q, e5⟩ := hQ5
    have N5 := Fr.app N0 N5q
    obtain ⟨M5, Y5, N5⟩ : ∃ M, Stand p l e ({ frames := 1, cells := 0, slots := 0, locals := 12 } : Room) s m #[(.int p0)] below meth c T5 M 0 0 ∧ Fr n0 M := ⟨_, X5, N5⟩
    have pre5 : Lead p e below G (T5.setTop (mkF m 10 #[.val (.int p0)] [(.int (F3 p0))])) := fun t k => pre4 t (st5 _ k)
    obtain ⟨fs, hr, hrun, hended, hW, hsame⟩ := Y5.leave (v := some (.int (nar .boolean (if (F3 p0) = (0 : Int32) then (1 : Int32) else (0 : Int32))))) (fun h => by rw [Bd.returns] at h; cases h)
    subst hG
    refine ⟨_, _, pre5 _ ?_, hrun, hended, _, _, rfl, ?_, ⟨_, rfl⟩, hW, hsame.mono (by decide) (by decide)⟩
    · show Steps p.tables e below (T5.setTop (mkF m 10 #[.val (.int p0)] [(.int (F3 p0))])) _
      have j7 : ∀ t, Steps p.tables e below (T5.setTop (mkF m 18 #[.val (.int p0)] [(.int (if (F3 p0) = (0 : Int32) then (1 : Int32) else (0 : Int32)))])) t → Steps p.tables e below (T5.setTop (mkF m 10 #[.val (.int p0)] [(.int (F3 p0))])) t := fun t k => by
        by_cases hc10_6 : (F3 p0) = (0 : Int32)
        · simp only [if_pos hc10_6] at k
          refine XS.ifNo Y5.here hx rfl (hb hby d2_10) rfl ((if0 _ _).trans (teq hc10_6).2) ?_
          show Steps p.tables e below (T5.setTop (mkF m 13 #[.val (.int p0)] [])) _
          refine XS.iconst Y5.here hx rfl (hb hby d2_13) ?_
          show Steps p.tables e below (T5.setTop (mkF m 14 #[.val (.int p0)] [(.int (1 : Int32))])) _
          refine XS.goto Y5.here hx rfl (pc0 := 14) (pc' := 18) rfl (hb hby d2_14) (by decide) (by decide) ?_
          show Steps p.tables e below (T5.setTop (mkF m 18 #[.val (.int p0)] [(.int (1 : Int32))])) _
          exact k
        · simp only [if_neg hc10_6] at k
          refine XS.ifYes Y5.here hx rfl (pc0 := 10) (pc' := 17) rfl (hb hby d2_10) rfl ((if0 _ _).trans (feq hc10_6).2) (by decide) (by decide) ?_
          show Steps p.tables e below (T5.setTop (mkF m 17 #[.val (.int p0)] [])) _
          refine XS.iconst Y5.here hx rfl (hb hby d2_17) ?_
          show Steps p.tables e below (T5.setTop (mkF m 18 #[.val (.int p0)] [(.int (0 : Int32))])) _
          exact k
      refine j7 _ ?_
      show Steps p.tables e below (T5.setTop (mkF m 18 #[.val (.int p0)] [(.int (if (F3 p0) = (0 : Int32) then (1 : Int32) else (0 : Int32)))])) _
      exact retN Y5 hx (t := .boolean) Bd.returns (by simp) (hb hby d2_18) hr
    · show Q2 Z p0 h0 n0 _ T5.heap _
      rw [e5]
      have hv_ : (nar .boolean (if (F3 p0) = (0 : Int32) then (1 : Int32) else (0 : Int32))) = F2 p0 := by
        skip
        unfold F2; simp only [if_neg hs3_3]
      exact ⟨congrArg (fun z => some (Value.int z)) hv_, N5, rfl⟩
def F0 (p0 : Int32) (p1 : Int32) (p2 : Int32) : Int32 := let g6 : Nat → Int32 := (updF (updF (fun _ => (0 : Int32)) 0 (97 : Int32)) 1 (65 : Int32)); let g12 : Nat → Int32 := (updF (updF (updF g6 2 (95 : Int32)) 3 (58 : Int32)) 4 (192 : Int32)); let g18 : Nat → Int32 := (updF (updF (updF g12 5 (216 : Int32)) 6 (248 : Int32)) 7 (880 : Int32)); let g24 : Nat → Int32 := (updF (updF (updF g18 8 (895 : Int32)) 9 (8204 : Int32)) 10 (8304 : Int32)); let g30 : Nat → Int32 := (updF (updF (updF g24 11 (11264 : Int32)) 12 (12289 : Int32)) 13 (63744 : Int32)); let g40 : Nat → Int32 := (updF (updF (fun _ => (0 : Int32)) 0 (122 : Int32)) 1 (90 : Int32)); let g46 : Nat → Int32 := (updF (updF (updF g40 2 (95 : Int32)) 3 (58 : Int32)) 4 (214 : Int32)); let g52 : Nat → Int32 := (updF (updF (updF g46 5 (246 : Int32)) 6 (767 : Int32)) 7 (893 : Int32)); let g58 : Nat → Int32 := (updF (updF (updF g52 8 (8191 : Int32)) 9 (8205 : Int32)) 10 (8591 : Int32)); let g64 : Nat → Int32 := (updF (updF (updF g58 11 (12271 : Int32)) 12 (55295 : Int32)) 13 (64975 : Int32)); let v76 : Int32 := (if (F1 p0) = (F2 p0) then (1 : Int32) else (0 : Int32)); let v80 : Int32 := ((updF (updF g30 14 (65008 : Int32)) 15 (65536 : Int32)) ((p1 &&& (15 : Int32))).toNatClampNeg); let v84 : Int32 := ((updF (updF g64 14 (65533 : Int32)) 15 (983039 : Int32)) ((p1 &&& (15 : Int32))).toNatClampNeg); let v86 : Int32 := (v80 + ((p2 &&& (2147483647 : Int32)) - ((p2 &&& (2147483647 : Int32)) / ((v84 - v80) + (1 : Int32))) * ((v84 - v80) + (1 : Int32)))); let v94 : Int32 := (if (F1 (v80 - (1 : Int32))) = (0 : Int32) then (1 : Int32) else (0 : Int32)); let v100 : Int32 := (if (F1 (v84 + (1 : Int32))) = (0 : Int32) then (1 : Int32) else (0 : Int32)); let v110 : Int32 := (if v76 = (0 : Int32) then (0 : Int32) else (if (F1 v86) = (0 : Int32) then (0 : Int32) else (if v94 = (0 : Int32) then (0 : Int32) else (if v100 = (0 : Int32) then (0 : Int32) else (1 : Int32))))); (nar .boolean v110)
theorem own_max (x : Int32) : (x &&& (2147483647 : Int32)).toInt = x.toInt % 2 ^ 31 := Jvm.Kit.i32_mask x _ (k := 31) (by decide) (by decide)
theorem own_rem (a k : Int32) (ha : 0 ≤ a.toInt) (hk : 0 < k.toInt) : (a - a / k * k).toInt = a.toInt % k.toInt := by
  have b1 := Int32.le_toInt a; have b2 := Int32.toInt_lt a
  have d : (a / k).toInt = a.toInt / k.toInt := by rw [Jvm.Kit.i32_div (by omega), Int.tdiv_eq_ediv_of_nonneg ha]
  have q0 : 0 ≤ a.toInt / k.toInt := Int.ediv_nonneg ha (by omega)
  have q1 : a.toInt / k.toInt * k.toInt ≤ a.toInt := Int.ediv_mul_le _ (by omega)
  have q2 : 0 ≤ a.toInt / k.toInt * k.toInt := Int.mul_nonneg q0 (by omega)
  have m : (a / k * k).toInt = a.toInt / k.toInt * k.toInt := by rw [Jvm.Kit.i32_mul, d] <;> rw [d] <;> omega
  rw [Jvm.Kit.i32_sub (by omega) (by omega), m, Int.emod_def, Int.mul_comm]
theorem own_nar0 : nar .boolean (0 : Int32) = 0 := by decide
theorem own_nar1 : nar .boolean (1 : Int32) = 1 := by decide
theorem own_nat {a : Int32} {k : Nat} (h : a.toInt ≤ k) : a.toNatClampNeg ≤ k := by
  show a.toInt.toNat ≤ k
  omega
def own_B (P : Prop) [Decidable P] : Int32 := if P then 1 else 0
theorem own_blk {c lo hi : Int32} {l h : Int} {P : Prop} [Decidable P] (hl : lo.toInt = l) (hh : hi.toInt = h) : (if c < lo then own_B P else if hi < c then own_B P else 1) = own_B ((l ≤ c.toInt ∧ c.toInt ≤ h) ∨ P) := by
  unfold own_B
  have e1 : c < lo ↔ c.toInt < l := by rw [Int32.lt_iff_toInt_lt, hl]
  have e2 : hi < c ↔ h < c.toInt := by rw [Int32.lt_iff_toInt_lt, hh]
  by_cases a : c < lo
  · rw [if_pos a]; have a' := e1.mp a; by_cases q : P
    · rw [if_pos q, if_pos (Or.inr q)]
    · rw [if_neg q, if_neg (fun z => z.elim (fun z => by omega) q)]
  · have a' : ¬ c.toInt < l := fun z => a (e1.mpr z)
    rw [if_neg a]; by_cases b : hi < c
    · have b' := e2.mp b
      rw [if_pos b]; by_cases q : P
      · rw [if_pos q, if_pos (Or.inr q)]
      · rw [if_neg q, if_neg (fun z => z.elim (fun z => by omega) q)]
    · have b' : ¬ h < c.toInt := fun z => b (e2.mpr z)
      rw [if_neg b, if_pos (Or.inl (by omega))]
theorem own_blk0 {c lo hi : Int32} {l h : Int} (hl : lo.toInt = l) (hh : hi.toInt = h) : (if c < lo then (0 : Int32) else if hi < c then (0 : Int32) else 1) = own_B (l ≤ c.toInt ∧ c.toInt ≤ h) := by
  have e := own_blk (c := c) (P := False) hl hh
  unfold own_B at e ⊢
  simp only [if_false] at e
  rw [e]
  by_cases q : l ≤ c.toInt ∧ c.toInt ≤ h
  · rw [if_pos q, if_pos (Or.inl q)]
  · rw [if_neg q, if_neg (fun z => z.elim q id)]
theorem own_eqb {c k : Int32} {i : Int} {P : Prop} [Decidable P] (hk : k.toInt = i) : (if c = k then 1 else own_B P) = own_B (c.toInt = i ∨ P) := by
  unfold own_B
  by_cases a : c = k
  · rw [if_pos a, if_pos (Or.inl (by rw [a, hk]))]
  · have a' : ¬ c.toInt = i := fun e => a (Int32.toInt_inj.mp (by rw [e, hk]))
    rw [if_neg a]; by_cases q : P
    · rw [if_pos q, if_pos (Or.inr q)]
    · rw [if_neg q, if_neg (fun z => z.elim a' q)]
theorem own_leb {c k : Int32} {i : Int} {P : Prop} [Decidable P] (hk : k.toInt = i) : (if k < c then own_B P else 1) = own_B (c.toInt ≤ i ∨ P) := by
  unfold own_B
  have e1 : k < c ↔ i < c.toInt := by rw [Int32.lt_iff_toInt_lt, hk]
  by_cases a : k < c
  · have a' := e1.mp a
    rw [if_pos a]; by_cases q : P
    · rw [if_pos q, if_pos (Or.inr q)]
    · rw [if_neg q, if_neg (fun z => z.elim (fun z => by omega) q)]
  · have a' : ¬ i < c.toInt := fun z => a (e1.mpr z)
    rw [if_neg a, if_pos (Or.inl (by omega))]
theorem own_B0 : own_B False = 0 := rfl
theorem own_R1_2_185_0 (p0 : Int32) : R1_2_185_0 p0 = own_B ((65536 ≤ p0.toInt ∧ p0.toInt ≤ 983039)) := own_blk0 (by decide) (by decide)
theorem own_R1_2_173_0 (p0 : Int32) : R1_2_173_0 p0 = own_B ((65008 ≤ p0.toInt ∧ p0.toInt ≤ 65533) ∨ ((65536 ≤ p0.toInt ∧ p0.toInt ≤ 983039))) := by
  show (if p0 < (65008 : Int32) then R1_2_185_0 p0 else (if (65533 : Int32) < p0 then R1_2_185_0 p0 else (1 : Int32))) = _
  rw [own_R1_2_185_0]; exact own_blk (by decide) (by decide)
theorem own_R1_2_161_0 (p0 : Int32) : R1_2_161_0 p0 = own_B ((63744 ≤ p0.toInt ∧ p0.toInt ≤ 64975) ∨ ((65008 ≤ p0.toInt ∧ p0.toInt ≤ 65533) ∨ ((65536 ≤ p0.toInt ∧ p0.toInt ≤ 983039)))) := by
  show (if p0 < (63744 : Int32) then R1_2_173_0 p0 else (if (64975 : Int32) < p0 then R1_2_173_0 p0 else (1 : Int32))) = _
  rw [own_R1_2_173_0]; exact own_blk (by decide) (by decide)
theorem own_R1_2_148_0 (p0 : Int32) : R1_2_148_0 p0 = own_B ((12289 ≤ p0.toInt ∧ p0.toInt ≤ 55295) ∨ ((63744 ≤ p0.toInt ∧ p0.toInt ≤ 64975) ∨ ((65008 ≤ p0.toInt ∧ p0.toInt ≤ 65533) ∨ ((65536 ≤ p0.toInt ∧ p0.toInt ≤ 983039))))) := by
  show (if p0 < (12289 : Int32) then R1_2_161_0 p0 else (if (55295 : Int32) < p0 then R1_2_161_0 p0 else (1 : Int32))) = _
  rw [own_R1_2_161_0]; exact own_blk (by decide) (by decide)
theorem own_R1_2_134_0 (p0 : Int32) : R1_2_134_0 p0 = own_B ((11264 ≤ p0.toInt ∧ p0.toInt ≤ 12271) ∨ ((12289 ≤ p0.toInt ∧ p0.toInt ≤ 55295) ∨ ((63744 ≤ p0.toInt ∧ p0.toInt ≤ 64975) ∨ ((65008 ≤ p0.toInt ∧ p0.toInt ≤ 65533) ∨ ((65536 ≤ p0.toInt ∧ p0.toInt ≤ 983039)))))) := by
  show (if p0 < (11264 : Int32) then R1_2_148_0 p0 else (if (12271 : Int32) < p0 then R1_2_148_0 p0 else (1 : Int32))) = _
  rw [own_R1_2_148_0]; exact own_blk (by decide) (by decide)
theorem own_R1_2_120_0 (p0 : Int32) : R1_2_120_0 p0 = own_B ((8304 ≤ p0.toInt ∧ p0.toInt ≤ 8591) ∨ ((11264 ≤ p0.toInt ∧ p0.toInt ≤ 12271) ∨ ((12289 ≤ p0.toInt ∧ p0.toInt ≤ 55295) ∨ ((63744 ≤ p0.toInt ∧ p0.toInt ≤ 64975) ∨ ((65008 ≤ p0.toInt ∧ p0.toInt ≤ 65533) ∨ ((65536 ≤ p0.toInt ∧ p0.toInt ≤ 983039))))))) := by
  show (if p0 < (8304 : Int32) then R1_2_134_0 p0 else (if (8591 : Int32) < p0 then R1_2_134_0 p0 else (1 : Int32))) = _
  rw [own_R1_2_134_0]; exact own_blk (by decide) (by decide)
theorem own_R1_2_106_0 (p0 : Int32) : R1_2_106_0 p0 = own_B ((8204 ≤ p0.toInt ∧ p0.toInt ≤ 8205) ∨ ((8304 ≤ p0.toInt ∧ p0.toInt ≤ 8591) ∨ ((11264 ≤ p0.toInt ∧ p0.toInt ≤ 12271) ∨ ((12289 ≤ p0.toInt ∧ p0.toInt ≤ 55295) ∨ ((63744 ≤ p0.toInt ∧ p0.toInt ≤ 64975) ∨ ((65008 ≤ p0.toInt ∧ p0.toInt ≤ 65533) ∨ ((65536 ≤ p0.toInt ∧ p0.toInt ≤ 983039)))))))) := by
  show (if p0 < (8204 : Int32) then R1_2_120_0 p0 else (if (8205 : Int32) < p0 then R1_2_120_0 p0 else (1 : Int32))) = _
  rw [own_R1_2_120_0]; exact own_blk (by decide) (by decide)
theorem own_R1_2_92_0 (p0 : Int32) : R1_2_92_0 p0 = own_B ((895 ≤ p0.toInt ∧ p0.toInt ≤ 8191) ∨ ((8204 ≤ p0.toInt ∧ p0.toInt ≤ 8205) ∨ ((8304 ≤ p0.toInt ∧ p0.toInt ≤ 8591) ∨ ((11264 ≤ p0.toInt ∧ p0.toInt ≤ 12271) ∨ ((12289 ≤ p0.toInt ∧ p0.toInt ≤ 55295) ∨ ((63744 ≤ p0.toInt ∧ p0.toInt ≤ 64975) ∨ ((65008 ≤ p0.toInt ∧ p0.toInt ≤ 65533) ∨ ((65536 ≤ p0.toInt ∧ p0.toInt ≤ 983039))))))))) := by
  show (if p0 < (895 : Int32) then R1_2_106_0 p0 else (if (8191 : Int32) < p0 then R1_2_106_0 p0 else (1 : Int32))) = _
  rw [own_R1_2_106_0]; exact own_blk (by decide) (by decide)
theorem own_R1_2_78_0 (p0 : Int32) : R1_2_78_0 p0 = own_B ((880 ≤ p0.toInt ∧ p0.toInt ≤ 893) ∨ ((895 ≤ p0.toInt ∧ p0.toInt ≤ 8191) ∨ ((8204 ≤ p0.toInt ∧ p0.toInt ≤ 8205) ∨ ((8304 ≤ p0.toInt ∧ p0.toInt ≤ 8591) ∨ ((11264 ≤ p0.toInt ∧ p0.toInt ≤ 12271) ∨ ((12289 ≤ p0.toInt ∧ p0.toInt ≤ 55295) ∨ ((63744 ≤ p0.toInt ∧ p0.toInt ≤ 64975) ∨ ((65008 ≤ p0.toInt ∧ p0.toInt ≤ 65533) ∨ ((65536 ≤ p0.toInt ∧ p0.toInt ≤ 983039)))))))))) := by
  show (if p0 < (880 : Int32) then R1_2_92_0 p0 else (if (893 : Int32) < p0 then R1_2_92_0 p0 else (1 : Int32))) = _
  rw [own_R1_2_92_0]; exact own_blk (by decide) (by decide)
theorem own_R1_2_64_0 (p0 : Int32) : R1_2_64_0 p0 = own_B ((248 ≤ p0.toInt ∧ p0.toInt ≤ 767) ∨ ((880 ≤ p0.toInt ∧ p0.toInt ≤ 893) ∨ ((895 ≤ p0.toInt ∧ p0.toInt ≤ 8191) ∨ ((8204 ≤ p0.toInt ∧ p0.toInt ≤ 8205) ∨ ((8304 ≤ p0.toInt ∧ p0.toInt ≤ 8591) ∨ ((11264 ≤ p0.toInt ∧ p0.toInt ≤ 12271) ∨ ((12289 ≤ p0.toInt ∧ p0.toInt ≤ 55295) ∨ ((63744 ≤ p0.toInt ∧ p0.toInt ≤ 64975) ∨ ((65008 ≤ p0.toInt ∧ p0.toInt ≤ 65533) ∨ ((65536 ≤ p0.toInt ∧ p0.toInt ≤ 983039))))))))))) := by
  show (if p0 < (248 : Int32) then R1_2_78_0 p0 else (if (767 : Int32) < p0 then R1_2_78_0 p0 else (1 : Int32))) = _
  rw [own_R1_2_78_0]; exact own_blk (by decide) (by decide)
theorem own_R1_2_50_0 (p0 : Int32) : R1_2_50_0 p0 = own_B ((216 ≤ p0.toInt ∧ p0.toInt ≤ 246) ∨ ((248 ≤ p0.toInt ∧ p0.toInt ≤ 767) ∨ ((880 ≤ p0.toInt ∧ p0.toInt ≤ 893) ∨ ((895 ≤ p0.toInt ∧ p0.toInt ≤ 8191) ∨ ((8204 ≤ p0.toInt ∧ p0.toInt ≤ 8205) ∨ ((8304 ≤ p0.toInt ∧ p0.toInt ≤ 8591) ∨ ((11264 ≤ p0.toInt ∧ p0.toInt ≤ 12271) ∨ ((12289 ≤ p0.toInt ∧ p0.toInt ≤ 55295) ∨ ((63744 ≤ p0.toInt ∧ p0.toInt ≤ 64975) ∨ ((65008 ≤ p0.toInt ∧ p0.toInt ≤ 65533) ∨ ((65536 ≤ p0.toInt ∧ p0.toInt ≤ 983039)))))))))))) := by
  show (if p0 < (216 : Int32) then R1_2_64_0 p0 else (if (246 : Int32) < p0 then R1_2_64_0 p0 else (1 : Int32))) = _
  rw [own_R1_2_64_0]; exact own_blk (by decide) (by decide)
theorem own_R1_2_36_0 (p0 : Int32) : R1_2_36_0 p0 = own_B ((192 ≤ p0.toInt ∧ p0.toInt ≤ 214) ∨ ((216 ≤ p0.toInt ∧ p0.toInt ≤ 246) ∨ ((248 ≤ p0.toInt ∧ p0.toInt ≤ 767) ∨ ((880 ≤ p0.toInt ∧ p0.toInt ≤ 893) ∨ ((895 ≤ p0.toInt ∧ p0.toInt ≤ 8191) ∨ ((8204 ≤ p0.toInt ∧ p0.toInt ≤ 8205) ∨ ((8304 ≤ p0.toInt ∧ p0.toInt ≤ 8591) ∨ ((11264 ≤ p0.toInt ∧ p0.toInt ≤ 12271) ∨ ((12289 ≤ p0.toInt ∧ p0.toInt ≤ 55295) ∨ ((63744 ≤ p0.toInt ∧ p0.toInt ≤ 64975) ∨ ((65008 ≤ p0.toInt ∧ p0.toInt ≤ 65533) ∨ ((65536 ≤ p0.toInt ∧ p0.toInt ≤ 983039))))))))))))) := by
  show (if p0 < (192 : Int32) then R1_2_50_0 p0 else (if (214 : Int32) < p0 then R1_2_50_0 p0 else (1 : Int32))) = _
  rw [own_R1_2_50_0]; exact own_blk (by decide) (by decide)
theorem own_R1_2_30_0 (p0 : Int32) : R1_2_30_0 p0 = own_B (p0.toInt = 58 ∨ ((192 ≤ p0.toInt ∧ p0.toInt ≤ 214) ∨ ((216 ≤ p0.toInt ∧ p0.toInt ≤ 246) ∨ ((248 ≤ p0.toInt ∧ p0.toInt ≤ 767) ∨ ((880 ≤ p0.toInt ∧ p0.toInt ≤ 893) ∨ ((895 ≤ p0.toInt ∧ p0.toInt ≤ 8191) ∨ ((8204 ≤ p0.toInt ∧ p0.toInt ≤ 8205) ∨ ((8304 ≤ p0.toInt ∧ p0.toInt ≤ 8591) ∨ ((11264 ≤ p0.toInt ∧ p0.toInt ≤ 12271) ∨ ((12289 ≤ p0.toInt ∧ p0.toInt ≤ 55295) ∨ ((63744 ≤ p0.toInt ∧ p0.toInt ≤ 64975) ∨ ((65008 ≤ p0.toInt ∧ p0.toInt ≤ 65533) ∨ ((65536 ≤ p0.toInt ∧ p0.toInt ≤ 983039)))))))))))))) := by
  show (if p0 = (58 : Int32) then (1 : Int32) else R1_2_36_0 p0) = _
  rw [own_R1_2_36_0]; exact own_eqb (by decide)
theorem own_R1_2_24_0 (p0 : Int32) : R1_2_24_0 p0 = own_B (p0.toInt = 95 ∨ (p0.toInt = 58 ∨ ((192 ≤ p0.toInt ∧ p0.toInt ≤ 214) ∨ ((216 ≤ p0.toInt ∧ p0.toInt ≤ 246) ∨ ((248 ≤ p0.toInt ∧ p0.toInt ≤ 767) ∨ ((880 ≤ p0.toInt ∧ p0.toInt ≤ 893) ∨ ((895 ≤ p0.toInt ∧ p0.toInt ≤ 8191) ∨ ((8204 ≤ p0.toInt ∧ p0.toInt ≤ 8205) ∨ ((8304 ≤ p0.toInt ∧ p0.toInt ≤ 8591) ∨ ((11264 ≤ p0.toInt ∧ p0.toInt ≤ 12271) ∨ ((12289 ≤ p0.toInt ∧ p0.toInt ≤ 55295) ∨ ((63744 ≤ p0.toInt ∧ p0.toInt ≤ 64975) ∨ ((65008 ≤ p0.toInt ∧ p0.toInt ≤ 65533) ∨ ((65536 ≤ p0.toInt ∧ p0.toInt ≤ 983039))))))))))))))) := by
  show (if p0 = (95 : Int32) then (1 : Int32) else R1_2_30_0 p0) = _
  rw [own_R1_2_30_0]; exact own_eqb (by decide)
theorem own_R1_2_12_0 (p0 : Int32) : R1_2_12_0 p0 = own_B ((65 ≤ p0.toInt ∧ p0.toInt ≤ 90) ∨ (p0.toInt = 95 ∨ (p0.toInt = 58 ∨ ((192 ≤ p0.toInt ∧ p0.toInt ≤ 214) ∨ ((216 ≤ p0.toInt ∧ p0.toInt ≤ 246) ∨ ((248 ≤ p0.toInt ∧ p0.toInt ≤ 767) ∨ ((880 ≤ p0.toInt ∧ p0.toInt ≤ 893) ∨ ((895 ≤ p0.toInt ∧ p0.toInt ≤ 8191) ∨ ((8204 ≤ p0.toInt ∧ p0.toInt ≤ 8205) ∨ ((8304 ≤ p0.toInt ∧ p0.toInt ≤ 8591) ∨ ((11264 ≤ p0.toInt ∧ p0.toInt ≤ 12271) ∨ ((12289 ≤ p0.toInt ∧ p0.toInt ≤ 55295) ∨ ((63744 ≤ p0.toInt ∧ p0.toInt ≤ 64975) ∨ ((65008 ≤ p0.toInt ∧ p0.toInt ≤ 65533) ∨ ((65536 ≤ p0.toInt ∧ p0.toInt ≤ 983039)))))))))))))))) := by
  show (if p0 < (65 : Int32) then R1_2_24_0 p0 else (if (90 : Int32) < p0 then R1_2_24_0 p0 else (1 : Int32))) = _
  rw [own_R1_2_24_0]; exact own_blk (by decide) (by decide)
theorem own_R1_2_3_0 (p0 : Int32) : R1_2_3_0 p0 = own_B ((97 ≤ p0.toInt ∧ p0.toInt ≤ 122) ∨ ((65 ≤ p0.toInt ∧ p0.toInt ≤ 90) ∨ (p0.toInt = 95 ∨ (p0.toInt = 58 ∨ ((192 ≤ p0.toInt ∧ p0.toInt ≤ 214) ∨ ((216 ≤ p0.toInt ∧ p0.toInt ≤ 246) ∨ ((248 ≤ p0.toInt ∧ p0.toInt ≤ 767) ∨ ((880 ≤ p0.toInt ∧ p0.toInt ≤ 893) ∨ ((895 ≤ p0.toInt ∧ p0.toInt ≤ 8191) ∨ ((8204 ≤ p0.toInt ∧ p0.toInt ≤ 8205) ∨ ((8304 ≤ p0.toInt ∧ p0.toInt ≤ 8591) ∨ ((11264 ≤ p0.toInt ∧ p0.toInt ≤ 12271) ∨ ((12289 ≤ p0.toInt ∧ p0.toInt ≤ 55295) ∨ ((63744 ≤ p0.toInt ∧ p0.toInt ≤ 64975) ∨ ((65008 ≤ p0.toInt ∧ p0.toInt ≤ 65533) ∨ ((65536 ≤ p0.toInt ∧ p0.toInt ≤ 983039))))))))))))))))) := by
  show (if p0 < (97 : Int32) then R1_2_12_0 p0 else (if (122 : Int32) < p0 then R1_2_12_0 p0 else (1 : Int32))) = _
  rw [own_R1_2_12_0]; exact own_blk (by decide) (by decide)
theorem own_R3_2_164_0 (p0 : Int32) : R3_2_164_0 p0 = own_B ((65534 ≤ p0.toInt ∧ p0.toInt ≤ 65535)) := own_blk0 (by decide) (by decide)
theorem own_R3_2_152_0 (p0 : Int32) : R3_2_152_0 p0 = own_B ((64976 ≤ p0.toInt ∧ p0.toInt ≤ 65007) ∨ ((65534 ≤ p0.toInt ∧ p0.toInt ≤ 65535))) := by
  show (if p0 < (64976 : Int32) then R3_2_164_0 p0 else (if (65007 : Int32) < p0 then R3_2_164_0 p0 else (1 : Int32))) = _
  rw [own_R3_2_164_0]; exact own_blk (by decide) (by decide)
theorem own_R3_2_140_0 (p0 : Int32) : R3_2_140_0 p0 = own_B ((55296 ≤ p0.toInt ∧ p0.toInt ≤ 63743) ∨ ((64976 ≤ p0.toInt ∧ p0.toInt ≤ 65007) ∨ ((65534 ≤ p0.toInt ∧ p0.toInt ≤ 65535)))) := by
  show (if p0 < (55296 : Int32) then R3_2_152_0 p0 else (if (63743 : Int32) < p0 then R3_2_152_0 p0 else (1 : Int32))) = _
  rw [own_R3_2_152_0]; exact own_blk (by decide) (by decide)
theorem own_R3_2_126_0 (p0 : Int32) : R3_2_126_0 p0 = own_B ((12272 ≤ p0.toInt ∧ p0.toInt ≤ 12288) ∨ ((55296 ≤ p0.toInt ∧ p0.toInt ≤ 63743) ∨ ((64976 ≤ p0.toInt ∧ p0.toInt ≤ 65007) ∨ ((65534 ≤ p0.toInt ∧ p0.toInt ≤ 65535))))) := by
  show (if p0 < (12272 : Int32) then R3_2_140_0 p0 else (if (12288 : Int32) < p0 then R3_2_140_0 p0 else (1 : Int32))) = _
  rw [own_R3_2_140_0]; exact own_blk (by decide) (by decide)
theorem own_R3_2_112_0 (p0 : Int32) : R3_2_112_0 p0 = own_B ((8592 ≤ p0.toInt ∧ p0.toInt ≤ 11263) ∨ ((12272 ≤ p0.toInt ∧ p0.toInt ≤ 12288) ∨ ((55296 ≤ p0.toInt ∧ p0.toInt ≤ 63743) ∨ ((64976 ≤ p0.toInt ∧ p0.toInt ≤ 65007) ∨ ((65534 ≤ p0.toInt ∧ p0.toInt ≤ 65535)))))) := by
  show (if p0 < (8592 : Int32) then R3_2_126_0 p0 else (if (11263 : Int32) < p0 then R3_2_126_0 p0 else (1 : Int32))) = _
  rw [own_R3_2_126_0]; exact own_blk (by decide) (by decide)
theorem own_R3_2_98_0 (p0 : Int32) : R3_2_98_0 p0 = own_B ((8206 ≤ p0.toInt ∧ p0.toInt ≤ 8303) ∨ ((8592 ≤ p0.toInt ∧ p0.toInt ≤ 11263) ∨ ((12272 ≤ p0.toInt ∧ p0.toInt ≤ 12288) ∨ ((55296 ≤ p0.toInt ∧ p0.toInt ≤ 63743) ∨ ((64976 ≤ p0.toInt ∧ p0.toInt ≤ 65007) ∨ ((65534 ≤ p0.toInt ∧ p0.toInt ≤ 65535))))))) := by
  show (if p0 < (8206 : Int32) then R3_2_112_0 p0 else (if (8303 : Int32) < p0 then R3_2_112_0 p0 else (1 : Int32))) = _
  rw [own_R3_2_112_0]; exact own_blk (by decide) (by decide)
theorem own_R3_2_84_0 (p0 : Int32) : R3_2_84_0 p0 = own_B ((8192 ≤ p0.toInt ∧ p0.toInt ≤ 8203) ∨ ((8206 ≤ p0.toInt ∧ p0.toInt ≤ 8303) ∨ ((8592 ≤ p0.toInt ∧ p0.toInt ≤ 11263) ∨ ((12272 ≤ p0.toInt ∧ p0.toInt ≤ 12288) ∨ ((55296 ≤ p0.toInt ∧ p0.toInt ≤ 63743) ∨ ((64976 ≤ p0.toInt ∧ p0.toInt ≤ 65007) ∨ ((65534 ≤ p0.toInt ∧ p0.toInt ≤ 65535)))))))) := by
  show (if p0 < (8192 : Int32) then R3_2_98_0 p0 else (if (8203 : Int32) < p0 then R3_2_98_0 p0 else (1 : Int32))) = _
  rw [own_R3_2_98_0]; exact own_blk (by decide) (by decide)
theorem own_R3_2_77_0 (p0 : Int32) : R3_2_77_0 p0 = own_B (p0.toInt = 894 ∨ ((8192 ≤ p0.toInt ∧ p0.toInt ≤ 8203) ∨ ((8206 ≤ p0.toInt ∧ p0.toInt ≤ 8303) ∨ ((8592 ≤ p0.toInt ∧ p0.toInt ≤ 11263) ∨ ((12272 ≤ p0.toInt ∧ p0.toInt ≤ 12288) ∨ ((55296 ≤ p0.toInt ∧ p0.toInt ≤ 63743) ∨ ((64976 ≤ p0.toInt ∧ p0.toInt ≤ 65007) ∨ ((65534 ≤ p0.toInt ∧ p0.toInt ≤ 65535))))))))) := by
  show (if p0 = (894 : Int32) then (1 : Int32) else R3_2_84_0 p0) = _
  rw [own_R3_2_84_0]; exact own_eqb (by decide)
theorem own_R3_2_63_0 (p0 : Int32) : R3_2_63_0 p0 = own_B ((768 ≤ p0.toInt ∧ p0.toInt ≤ 879) ∨ (p0.toInt = 894 ∨ ((8192 ≤ p0.toInt ∧ p0.toInt ≤ 8203) ∨ ((8206 ≤ p0.toInt ∧ p0.toInt ≤ 8303) ∨ ((8592 ≤ p0.toInt ∧ p0.toInt ≤ 11263) ∨ ((12272 ≤ p0.toInt ∧ p0.toInt ≤ 12288) ∨ ((55296 ≤ p0.toInt ∧ p0.toInt ≤ 63743) ∨ ((64976 ≤ p0.toInt ∧ p0.toInt ≤ 65007) ∨ ((65534 ≤ p0.toInt ∧ p0.toInt ≤ 65535)))))))))) := by
  show (if p0 < (768 : Int32) then R3_2_77_0 p0 else (if (879 : Int32) < p0 then R3_2_77_0 p0 else (1 : Int32))) = _
  rw [own_R3_2_77_0]; exact own_blk (by decide) (by decide)
theorem own_R3_2_56_0 (p0 : Int32) : R3_2_56_0 p0 = own_B (p0.toInt = 247 ∨ ((768 ≤ p0.toInt ∧ p0.toInt ≤ 879) ∨ (p0.toInt = 894 ∨ ((8192 ≤ p0.toInt ∧ p0.toInt ≤ 8203) ∨ ((8206 ≤ p0.toInt ∧ p0.toInt ≤ 8303) ∨ ((8592 ≤ p0.toInt ∧ p0.toInt ≤ 11263) ∨ ((12272 ≤ p0.toInt ∧ p0.toInt ≤ 12288) ∨ ((55296 ≤ p0.toInt ∧ p0.toInt ≤ 63743) ∨ ((64976 ≤ p0.toInt ∧ p0.toInt ≤ 65007) ∨ ((65534 ≤ p0.toInt ∧ p0.toInt ≤ 65535))))))))))) := by
  show (if p0 = (247 : Int32) then (1 : Int32) else R3_2_63_0 p0) = _
  rw [own_R3_2_63_0]; exact own_eqb (by decide)
theorem own_R3_2_49_0 (p0 : Int32) : R3_2_49_0 p0 = own_B (p0.toInt = 215 ∨ (p0.toInt = 247 ∨ ((768 ≤ p0.toInt ∧ p0.toInt ≤ 879) ∨ (p0.toInt = 894 ∨ ((8192 ≤ p0.toInt ∧ p0.toInt ≤ 8203) ∨ ((8206 ≤ p0.toInt ∧ p0.toInt ≤ 8303) ∨ ((8592 ≤ p0.toInt ∧ p0.toInt ≤ 11263) ∨ ((12272 ≤ p0.toInt ∧ p0.toInt ≤ 12288) ∨ ((55296 ≤ p0.toInt ∧ p0.toInt ≤ 63743) ∨ ((64976 ≤ p0.toInt ∧ p0.toInt ≤ 65007) ∨ ((65534 ≤ p0.toInt ∧ p0.toInt ≤ 65535)))))))))))) := by
  show (if p0 = (215 : Int32) then (1 : Int32) else R3_2_56_0 p0) = _
  rw [own_R3_2_56_0]; exact own_eqb (by decide)
theorem own_R3_2_36_0 (p0 : Int32) : R3_2_36_0 p0 = own_B ((123 ≤ p0.toInt ∧ p0.toInt ≤ 191) ∨ (p0.toInt = 215 ∨ (p0.toInt = 247 ∨ ((768 ≤ p0.toInt ∧ p0.toInt ≤ 879) ∨ (p0.toInt = 894 ∨ ((8192 ≤ p0.toInt ∧ p0.toInt ≤ 8203) ∨ ((8206 ≤ p0.toInt ∧ p0.toInt ≤ 8303) ∨ ((8592 ≤ p0.toInt ∧ p0.toInt ≤ 11263) ∨ ((12272 ≤ p0.toInt ∧ p0.toInt ≤ 12288) ∨ ((55296 ≤ p0.toInt ∧ p0.toInt ≤ 63743) ∨ ((64976 ≤ p0.toInt ∧ p0.toInt ≤ 65007) ∨ ((65534 ≤ p0.toInt ∧ p0.toInt ≤ 65535))))))))))))) := by
  show (if p0 < (123 : Int32) then R3_2_49_0 p0 else (if (191 : Int32) < p0 then R3_2_49_0 p0 else (1 : Int32))) = _
  rw [own_R3_2_49_0]; exact own_blk (by decide) (by decide)
theorem own_R3_2_30_0 (p0 : Int32) : R3_2_30_0 p0 = own_B (p0.toInt = 96 ∨ ((123 ≤ p0.toInt ∧ p0.toInt ≤ 191) ∨ (p0.toInt = 215 ∨ (p0.toInt = 247 ∨ ((768 ≤ p0.toInt ∧ p0.toInt ≤ 879) ∨ (p0.toInt = 894 ∨ ((8192 ≤ p0.toInt ∧ p0.toInt ≤ 8203) ∨ ((8206 ≤ p0.toInt ∧ p0.toInt ≤ 8303) ∨ ((8592 ≤ p0.toInt ∧ p0.toInt ≤ 11263) ∨ ((12272 ≤ p0.toInt ∧ p0.toInt ≤ 12288) ∨ ((55296 ≤ p0.toInt ∧ p0.toInt ≤ 63743) ∨ ((64976 ≤ p0.toInt ∧ p0.toInt ≤ 65007) ∨ ((65534 ≤ p0.toInt ∧ p0.toInt ≤ 65535)))))))))))))) := by
  show (if p0 = (96 : Int32) then (1 : Int32) else R3_2_36_0 p0) = _
  rw [own_R3_2_36_0]; exact own_eqb (by decide)
theorem own_R3_2_18_0 (p0 : Int32) : R3_2_18_0 p0 = own_B ((91 ≤ p0.toInt ∧ p0.toInt ≤ 94) ∨ (p0.toInt = 96 ∨ ((123 ≤ p0.toInt ∧ p0.toInt ≤ 191) ∨ (p0.toInt = 215 ∨ (p0.toInt = 247 ∨ ((768 ≤ p0.toInt ∧ p0.toInt ≤ 879) ∨ (p0.toInt = 894 ∨ ((8192 ≤ p0.toInt ∧ p0.toInt ≤ 8203) ∨ ((8206 ≤ p0.toInt ∧ p0.toInt ≤ 8303) ∨ ((8592 ≤ p0.toInt ∧ p0.toInt ≤ 11263) ∨ ((12272 ≤ p0.toInt ∧ p0.toInt ≤ 12288) ∨ ((55296 ≤ p0.toInt ∧ p0.toInt ≤ 63743) ∨ ((64976 ≤ p0.toInt ∧ p0.toInt ≤ 65007) ∨ ((65534 ≤ p0.toInt ∧ p0.toInt ≤ 65535))))))))))))))) := by
  show (if p0 < (91 : Int32) then R3_2_30_0 p0 else (if (94 : Int32) < p0 then R3_2_30_0 p0 else (1 : Int32))) = _
  rw [own_R3_2_30_0]; exact own_blk (by decide) (by decide)
theorem own_R3_2_6_0 (p0 : Int32) : R3_2_6_0 p0 = own_B ((59 ≤ p0.toInt ∧ p0.toInt ≤ 64) ∨ ((91 ≤ p0.toInt ∧ p0.toInt ≤ 94) ∨ (p0.toInt = 96 ∨ ((123 ≤ p0.toInt ∧ p0.toInt ≤ 191) ∨ (p0.toInt = 215 ∨ (p0.toInt = 247 ∨ ((768 ≤ p0.toInt ∧ p0.toInt ≤ 879) ∨ (p0.toInt = 894 ∨ ((8192 ≤ p0.toInt ∧ p0.toInt ≤ 8203) ∨ ((8206 ≤ p0.toInt ∧ p0.toInt ≤ 8303) ∨ ((8592 ≤ p0.toInt ∧ p0.toInt ≤ 11263) ∨ ((12272 ≤ p0.toInt ∧ p0.toInt ≤ 12288) ∨ ((55296 ≤ p0.toInt ∧ p0.toInt ≤ 63743) ∨ ((64976 ≤ p0.toInt ∧ p0.toInt ≤ 65007) ∨ ((65534 ≤ p0.toInt ∧ p0.toInt ≤ 65535)))))))))))))))) := by
  show (if p0 < (59 : Int32) then R3_2_18_0 p0 else (if (64 : Int32) < p0 then R3_2_18_0 p0 else (1 : Int32))) = _
  rw [own_R3_2_18_0]; exact own_blk (by decide) (by decide)
theorem own_R3_2_3_0 (p0 : Int32) : R3_2_3_0 p0 = own_B (p0.toInt ≤ 57 ∨ ((59 ≤ p0.toInt ∧ p0.toInt ≤ 64) ∨ ((91 ≤ p0.toInt ∧ p0.toInt ≤ 94) ∨ (p0.toInt = 96 ∨ ((123 ≤ p0.toInt ∧ p0.toInt ≤ 191) ∨ (p0.toInt = 215 ∨ (p0.toInt = 247 ∨ ((768 ≤ p0.toInt ∧ p0.toInt ≤ 879) ∨ (p0.toInt = 894 ∨ ((8192 ≤ p0.toInt ∧ p0.toInt ≤ 8203) ∨ ((8206 ≤ p0.toInt ∧ p0.toInt ≤ 8303) ∨ ((8592 ≤ p0.toInt ∧ p0.toInt ≤ 11263) ∨ ((12272 ≤ p0.toInt ∧ p0.toInt ≤ 12288) ∨ ((55296 ≤ p0.toInt ∧ p0.toInt ≤ 63743) ∨ ((64976 ≤ p0.toInt ∧ p0.toInt ≤ 65007) ∨ ((65534 ≤ p0.toInt ∧ p0.toInt ≤ 65535))))))))))))))))) := by
  show (if (57 : Int32) < p0 then R3_2_6_0 p0 else (1 : Int32)) = _
  rw [own_R3_2_6_0]; exact own_leb (by decide)
theorem own_F1 (p0 : Int32) : F1 p0 = own_B ((97 ≤ p0.toInt ∧ p0.toInt ≤ 122) ∨ ((65 ≤ p0.toInt ∧ p0.toInt ≤ 90) ∨ (p0.toInt = 95 ∨ (p0.toInt = 58 ∨ ((192 ≤ p0.toInt ∧ p0.toInt ≤ 214) ∨ ((216 ≤ p0.toInt ∧ p0.toInt ≤ 246) ∨ ((248 ≤ p0.toInt ∧ p0.toInt ≤ 767) ∨ ((880 ≤ p0.toInt ∧ p0.toInt ≤ 893) ∨ ((895 ≤ p0.toInt ∧ p0.toInt ≤ 8191) ∨ ((8204 ≤ p0.toInt ∧ p0.toInt ≤ 8205) ∨ ((8304 ≤ p0.toInt ∧ p0.toInt ≤ 8591) ∨ ((11264 ≤ p0.toInt ∧ p0.toInt ≤ 12271) ∨ ((12289 ≤ p0.toInt ∧ p0.toInt ≤ 55295) ∨ ((63744 ≤ p0.toInt ∧ p0.toInt ≤ 64975) ∨ ((65008 ≤ p0.toInt ∧ p0.toInt ≤ 65533) ∨ ((65536 ≤ p0.toInt ∧ p0.toInt ≤ 983039))))))))))))))))) := by
  show nar .boolean (R1_2_3_0 p0) = _
  rw [own_R1_2_3_0]; unfold own_B; split <;> decide
theorem own_F3 (p0 : Int32) : F3 p0 = own_B (p0.toInt ≤ 57 ∨ ((59 ≤ p0.toInt ∧ p0.toInt ≤ 64) ∨ ((91 ≤ p0.toInt ∧ p0.toInt ≤ 94) ∨ (p0.toInt = 96 ∨ ((123 ≤ p0.toInt ∧ p0.toInt ≤ 191) ∨ (p0.toInt = 215 ∨ (p0.toInt = 247 ∨ ((768 ≤ p0.toInt ∧ p0.toInt ≤ 879) ∨ (p0.toInt = 894 ∨ ((8192 ≤ p0.toInt ∧ p0.toInt ≤ 8203) ∨ ((8206 ≤ p0.toInt ∧ p0.toInt ≤ 8303) ∨ ((8592 ≤ p0.toInt ∧ p0.toInt ≤ 11263) ∨ ((12272 ≤ p0.toInt ∧ p0.toInt ≤ 12288) ∨ ((55296 ≤ p0.toInt ∧ p0.toInt ≤ 63743) ∨ ((64976 ≤ p0.toInt ∧ p0.toInt ≤ 65007) ∨ ((65534 ≤ p0.toInt ∧ p0.toInt ≤ 65535))))))))))))))))) := by
  show nar .boolean (R3_2_3_0 p0) = _
  rw [own_R3_2_3_0]; unfold own_B; split <;> decide
theorem own_iff (x : Int) : ((97 ≤ x ∧ x ≤ 122) ∨ ((65 ≤ x ∧ x ≤ 90) ∨ (x = 95 ∨ (x = 58 ∨ ((192 ≤ x ∧ x ≤ 214) ∨ ((216 ≤ x ∧ x ≤ 246) ∨ ((248 ≤ x ∧ x ≤ 767) ∨ ((880 ≤ x ∧ x ≤ 893) ∨ ((895 ≤ x ∧ x ≤ 8191) ∨ ((8204 ≤ x ∧ x ≤ 8205) ∨ ((8304 ≤ x ∧ x ≤ 8591) ∨ ((11264 ≤ x ∧ x ≤ 12271) ∨ ((12289 ≤ x ∧ x ≤ 55295) ∨ ((63744 ≤ x ∧ x ≤ 64975) ∨ ((65008 ≤ x ∧ x ≤ 65533) ∨ ((65536 ≤ x ∧ x ≤ 983039))))))))))))))))) ↔ (¬ 983039 < x ∧ ¬ (x ≤ 57 ∨ ((59 ≤ x ∧ x ≤ 64) ∨ ((91 ≤ x ∧ x ≤ 94) ∨ (x = 96 ∨ ((123 ≤ x ∧ x ≤ 191) ∨ (x = 215 ∨ (x = 247 ∨ ((768 ≤ x ∧ x ≤ 879) ∨ (x = 894 ∨ ((8192 ≤ x ∧ x ≤ 8203) ∨ ((8206 ≤ x ∧ x ≤ 8303) ∨ ((8592 ≤ x ∧ x ≤ 11263) ∨ ((12272 ≤ x ∧ x ≤ 12288) ∨ ((55296 ≤ x ∧ x ≤ 63743) ∨ ((64976 ≤ x ∧ x ≤ 65007) ∨ ((65534 ≤ x ∧ x ≤ 65535)))))))))))))))))) := by
  by_cases h58 : x < 58
  · omega
  by_cases h59 : x < 59
  · omega
  by_cases h65 : x < 65
  · omega
  by_cases h91 : x < 91
  · omega
  by_cases h95 : x < 95
  · omega
  by_cases h96 : x < 96
  · omega
  by_cases h97 : x < 97
  · omega
  by_cases h123 : x < 123
  · omega
  by_cases h192 : x < 192
  · omega
  by_cases h215 : x < 215
  · omega
  by_cases h216 : x < 216
  · omega
  by_cases h247 : x < 247
  · omega
  by_cases h248 : x < 248
  · omega
  by_cases h768 : x < 768
  · omega
  by_cases h880 : x < 880
  · omega
  by_cases h894 : x < 894
  · omega
  by_cases h895 : x < 895
  · omega
  by_cases h8192 : x < 8192
  · omega
  by_cases h8204 : x < 8204
  · omega
  by_cases h8206 : x < 8206
  · omega
  by_cases h8304 : x < 8304
  · omega
  by_cases h8592 : x < 8592
  · omega
  by_cases h11264 : x < 11264
  · omega
  by_cases h12272 : x < 12272
  · omega
  by_cases h12289 : x < 12289
  · omega
  by_cases h55296 : x < 55296
  · omega
  by_cases h63744 : x < 63744
  · omega
  by_cases h64976 : x < 64976
  · omega
  by_cases h65008 : x < 65008
  · omega
  by_cases h65534 : x < 65534
  · omega
  by_cases h65536 : x < 65536
  · omega
  by_cases h983040 : x < 983040
  · omega
  omega
theorem own_whole (p0 : Int32) : F1 p0 = F2 p0 := by
  have c : (983039 : Int32).toInt = 983039 := by decide
  unfold F2
  rw [own_F1, own_F3]
  have e1 : (983039 : Int32) < p0 ↔ 983039 < p0.toInt := by rw [Int32.lt_iff_toInt_lt, c]
  have i := own_iff p0.toInt
  by_cases q0 : (983039 : Int32) < p0
  · have q := e1.mp q0
    rw [if_pos q0]; unfold own_B; rw [if_neg (fun z => (i.mp z).1 q)]; decide
  · have q : ¬ 983039 < p0.toInt := fun z => q0 (e1.mpr z)
    rw [if_neg q0]; unfold own_B
    by_cases r : p0.toInt ≤ 57 ∨ ((59 ≤ p0.toInt ∧ p0.toInt ≤ 64) ∨ ((91 ≤ p0.toInt ∧ p0.toInt ≤ 94) ∨ (p0.toInt = 96 ∨ ((123 ≤ p0.toInt ∧ p0.toInt ≤ 191) ∨ (p0.toInt = 215 ∨ (p0.toInt = 247 ∨ ((768 ≤ p0.toInt ∧ p0.toInt ≤ 879) ∨ (p0.toInt = 894 ∨ ((8192 ≤ p0.toInt ∧ p0.toInt ≤ 8203) ∨ ((8206 ≤ p0.toInt ∧ p0.toInt ≤ 8303) ∨ ((8592 ≤ p0.toInt ∧ p0.toInt ≤ 11263) ∨ ((12272 ≤ p0.toInt ∧ p0.toInt ≤ 12288) ∨ ((55296 ≤ p0.toInt ∧ p0.toInt ≤ 63743) ∨ ((64976 ≤ p0.toInt ∧ p0.toInt ≤ 65007) ∨ ((65534 ≤ p0.toInt ∧ p0.toInt ≤ 65535))))))))))))))))
    · rw [if_pos r, if_neg (fun z => (i.mp z).2 r)]; decide
    · rw [if_neg r, if_pos (i.mpr ⟨q, r⟩)]; decide
def own_lo : Nat → Int32 := (updF (updF (updF (updF (updF (updF (updF (updF (updF (updF (updF (updF (updF (updF (updF (updF (fun _ => (0 : Int32)) 0 (97 : Int32)) 1 (65 : Int32)) 2 (95 : Int32)) 3 (58 : Int32)) 4 (192 : Int32)) 5 (216 : Int32)) 6 (248 : Int32)) 7 (880 : Int32)) 8 (895 : Int32)) 9 (8204 : Int32)) 10 (8304 : Int32)) 11 (11264 : Int32)) 12 (12289 : Int32)) 13 (63744 : Int32)) 14 (65008 : Int32)) 15 (65536 : Int32))
def own_hi : Nat → Int32 := (updF (updF (updF (updF (updF (updF (updF (updF (updF (updF (updF (updF (updF (updF (updF (updF (fun _ => (0 : Int32)) 0 (122 : Int32)) 1 (90 : Int32)) 2 (95 : Int32)) 3 (58 : Int32)) 4 (214 : Int32)) 5 (246 : Int32)) 6 (767 : Int32)) 7 (893 : Int32)) 8 (8191 : Int32)) 9 (8205 : Int32)) 10 (8591 : Int32)) 11 (12271 : Int32)) 12 (55295 : Int32)) 13 (64975 : Int32)) 14 (65533 : Int32)) 15 (983039 : Int32))
theorem own_k (p : Int32) : ∃ k : Fin 16, (p &&& (15 : Int32)).toNatClampNeg = k.val := by
  have h : (p &&& (15 : Int32)).toInt = p.toInt % 2 ^ 4 := Jvm.Kit.i32_mask p _ (k := 4) (by decide) (by decide)
  exact ⟨⟨(p &&& (15 : Int32)).toInt.toNat, by omega⟩, rfl⟩
theorem own_idx (p : Int32) : ¬ (p &&& (15 : Int32)) < 0 ∧ (p &&& (15 : Int32)) < 16 := by
  have h : (p &&& (15 : Int32)).toInt = p.toInt % 2 ^ 4 := Jvm.Kit.i32_mask p _ (k := 4) (by decide) (by decide)
  have c : (16 : Int32).toInt = 16 := by decide
  rw [Int32.lt_iff_toInt_lt, Int32.lt_iff_toInt_lt, Int32.toInt_zero, c]; omega
theorem own_tab : ∀ k : Fin 16, (own_hi k.val - own_lo k.val + 1).toInt = (own_hi k.val).toInt - (own_lo k.val).toInt + 1 ∧ 0 ≤ (own_lo k.val).toInt ∧ (own_lo k.val).toInt ≤ (own_hi k.val).toInt ∧ (own_hi k.val).toInt ≤ 983039 ∧ F1 (own_lo k.val - 1) = 0 ∧ F1 (own_hi k.val + 1) = 0 := by decide +kernel
theorem own_nz (p1 : Int32) : own_hi (p1 &&& (15 : Int32)).toNatClampNeg - own_lo (p1 &&& (15 : Int32)).toNatClampNeg + 1 ≠ 0 := fun e => by
  obtain ⟨k, hk⟩ := own_k p1
  rw [hk] at e
  have h := own_tab k
  rw [e, Int32.toInt_zero] at h; omega
theorem own_in (x : Int) (k : Fin 16) (h1 : (own_lo k.val).toInt ≤ x) (h2 : x ≤ (own_hi k.val).toInt) : (97 ≤ x ∧ x ≤ 122) ∨ ((65 ≤ x ∧ x ≤ 90) ∨ (x = 95 ∨ (x = 58 ∨ ((192 ≤ x ∧ x ≤ 214) ∨ ((216 ≤ x ∧ x ≤ 246) ∨ ((248 ≤ x ∧ x ≤ 767) ∨ ((880 ≤ x ∧ x ≤ 893) ∨ ((895 ≤ x ∧ x ≤ 8191) ∨ ((8204 ≤ x ∧ x ≤ 8205) ∨ ((8304 ≤ x ∧ x ≤ 8591) ∨ ((11264 ≤ x ∧ x ≤ 12271) ∨ ((12289 ≤ x ∧ x ≤ 55295) ∨ ((63744 ≤ x ∧ x ≤ 64975) ∨ ((65008 ≤ x ∧ x ≤ 65533) ∨ ((65536 ≤ x ∧ x ≤ 983039)))))))))))))))) := by
  match k, h1, h2 with
  | ⟨0, _⟩, h1, h2 => have a : 97 ≤ x := h1; have b : x ≤ 122 := h2; omega
  | ⟨1, _⟩, h1, h2 => have a : 65 ≤ x := h1; have b : x ≤ 90 := h2; omega
  | ⟨2, _⟩, h1, h2 => have a : 95 ≤ x := h1; have b : x ≤ 95 := h2; omega
  | ⟨3, _⟩, h1, h2 => have a : 58 ≤ x := h1; have b : x ≤ 58 := h2; omega
  | ⟨4, _⟩, h1, h2 => have a : 192 ≤ x := h1; have b : x ≤ 214 := h2; omega
  | ⟨5, _⟩, h1, h2 => have a : 216 ≤ x := h1; have b : x ≤ 246 := h2; omega
  | ⟨6, _⟩, h1, h2 => have a : 248 ≤ x := h1; have b : x ≤ 767 := h2; omega
  | ⟨7, _⟩, h1, h2 => have a : 880 ≤ x := h1; have b : x ≤ 893 := h2; omega
  | ⟨8, _⟩, h1, h2 => have a : 895 ≤ x := h1; have b : x ≤ 8191 := h2; omega
  | ⟨9, _⟩, h1, h2 => have a : 8204 ≤ x := h1; have b : x ≤ 8205 := h2; omega
  | ⟨10, _⟩, h1, h2 => have a : 8304 ≤ x := h1; have b : x ≤ 8591 := h2; omega
  | ⟨11, _⟩, h1, h2 => have a : 11264 ≤ x := h1; have b : x ≤ 12271 := h2; omega
  | ⟨12, _⟩, h1, h2 => have a : 12289 ≤ x := h1; have b : x ≤ 55295 := h2; omega
  | ⟨13, _⟩, h1, h2 => have a : 63744 ≤ x := h1; have b : x ≤ 64975 := h2; omega
  | ⟨14, _⟩, h1, h2 => have a : 65008 ≤ x := h1; have b : x ≤ 65533 := h2; omega
  | ⟨15, _⟩, h1, h2 => have a : 65536 ≤ x := h1; have b : x ≤ 983039 := h2; omega
  | ⟨n + 16, hn⟩, _, _ => exact absurd hn (by omega)
theorem own_inside (p1 p2 : Int32) : F1 (own_lo (p1 &&& (15 : Int32)).toNatClampNeg + ((p2 &&& (2147483647 : Int32)) - ((p2 &&& (2147483647 : Int32)) / (own_hi (p1 &&& (15 : Int32)).toNatClampNeg - own_lo (p1 &&& (15 : Int32)).toNatClampNeg + 1)) * (own_hi (p1 &&& (15 : Int32)).toNatClampNeg - own_lo (p1 &&& (15 : Int32)).toNatClampNeg + 1))) = 1 := by
  obtain ⟨k, hk⟩ := own_k p1
  rw [hk]
  have h := own_tab k
  have m := own_max p2
  have r := own_rem (p2 &&& 2147483647) (own_hi k.val - own_lo k.val + 1) (by omega) (by omega)
  rw [h.1] at r
  have b1 := Int.emod_nonneg (p2 &&& 2147483647).toInt (show (own_hi k.val).toInt - (own_lo k.val).toInt + 1 ≠ 0 by omega)
  have b2 := Int.emod_lt_of_pos (p2 &&& 2147483647).toInt (show 0 < (own_hi k.val).toInt - (own_lo k.val).toInt + 1 by omega)
  rw [← r] at b1 b2
  rw [own_F1]; unfold own_B
  refine if_pos (own_in _ k ?_ ?_) <;> rw [Jvm.Kit.i32_add] <;> omega
theorem own_law (p0 p1 p2 : Int32) : F0 p0 p1 p2 = 1 := by
  have w := own_whole p0
  have i := own_inside p1 p2
  obtain ⟨k, hk⟩ := own_k p1
  have h := own_tab k
  rw [hk] at i
  show nar .boolean (if (if F1 p0 = F2 p0 then (1 : Int32) else 0) = 0 then (0 : Int32) else (if F1 (own_lo (p1 &&& (15 : Int32)).toNatClampNeg + ((p2 &&& (2147483647 : Int32)) - ((p2 &&& (2147483647 : Int32)) / (own_hi (p1 &&& (15 : Int32)).toNatClampNeg - own_lo (p1 &&& (15 : Int32)).toNatClampNeg + 1)) * (own_hi (p1 &&& (15 : Int32)).toNatClampNeg - own_lo (p1 &&& (15 : Int32)).toNatClampNeg + 1))) = 0 then (0 : Int32) else (if (if F1 (own_lo (p1 &&& (15 : Int32)).toNatClampNeg - 1) = 0 then (1 : Int32) else 0) = 0 then (0 : Int32) else (if (if F1 (own_hi (p1 &&& (15 : Int32)).toNatClampNeg + 1) = 0 then (1 : Int32) else 0) = 0 then (0 : Int32) else 1)))) = 1
  rw [hk, w, i, h.2.2.2.2.1, h.2.2.2.2.2]
  simp only [if_pos rfl]; decide

theorem ef_0 (m : MethodId) (p0 : Int32) (p1 : Int32) (p2 : Int32) : entryFrame m #[(.int p0), (.int p1), (.int p2)] maxLocals = mkF m 0 #[.val (.int p0), .val (.int p1), .val (.int p2), .unset, .unset, .unset, .unset, .unset, .unset, .unset, .unset, .unset, .unset] [] := by first | (simp [entryFrame, mkF, argsToLocals, Value.category, maxLocals]; done) | rfl
def Q0 (Z : State) (p0 : Int32) (p1 : Int32) (p2 : Int32)  (h0 : Heap) (n0 : Nat) (v : Option Value) (h : Heap) (L : List Loc) : Prop := v = some (.int (1 : Int32)) ∧ Fr n0 L
set_option maxRecDepth 65536 in
set_option maxHeartbeats 40000000 in
theorem rm0 (l : Launch) (Z : State) (a0 : Array Value) (hw : ∀ d ∈ tables_1, d.before a0 Z = true) (ws : List Jvm.Cond) (p0 : Int32) (p1 : Int32) (p2 : Int32)  (h0 : Heap) (n0 : Nat) (Z0 : n0 ≤ h0.size)  :
    MetFree l x (head1 (Jvm.Cond.code x code maxLocals ret :: ws) room_1) (fun a U => a = #[(.int p0), (.int p1), (.int p2)] ∧ Z.Warmed39 U.vm ∧ U.heap = h0) (fun _ _ _ _ _ => True) (fun _ U o U' => ∃ v L, o = .returned v ∧ Q0 Z p0 p1 p2 h0 n0 v U'.heap L ∧ FrameEnd U o U' L room_1.cells room_1.slots) := by
  refine MetFree.of_bodySF (plainFor_of_name pn_com_example_processionary_processionary_expressions_NameIsStartCharPinLaw) hisR ?_
  intro p e s m args below meth c s₁ Bd hml0 hP hK
  obtain ⟨rfl, hZ, hh⟩ := hP
  have hx := Bd.exec
  have hby := Bd.bytes
  have hml : c.maxLocals = 13 := hml0
  have hown : s.vm.findClass "com/example/processionary/processionary/expressions/NameIsStartCharPinLaw" = some m.cls := findClass_of_methodNamed Bd.named
  have hnm := (name_of_methodNamed Bd.named Bd.method).1
  have X0 : Stand p l e room_1 s m #[(.int p0), (.int p1), (.int p2)] below meth c s₁ [] 0 0 := Stand.of_body Bd
  have e0 : s₁.heap = h0 := by rw [← hh, Bd.state]; rfl
  have N0 := Fr.nil n0
  have K0 : Keep h0 h0 [] := Keep.refl _ _
  obtain ⟨G, hG⟩ : ∃ z, z = s₁.setTop (entryFrame m #[(.int p0), (.int p1), (.int p2)] maxLocals) := ⟨_, rfl⟩
  have pre0 : Lead p e below G (s₁.setTop (mkF m 0 #[.val (.int p0), .val (.int p1), .val (.int p2), .unset, .unset, .unset, .unset, .unset, .unset, .unset, .unset, .unset, .unset] [])) := fun t k => by rw [hG]; exact castTop (ef_0 m p0 p1 p2) k
  have pre1 : Lead p e below G (s₁.setTop (mkF m 2 #[.val (.int p0), .val (.int p1), .val (.int p2), .unset, .unset, .unset, .unset, .unset, .unset, .unset, .unset, .unset, .unset] [(.int (16 : Int32))])) := fun t k => by
    refine pre0 t ?_
    show Steps p.tables e below (s₁.setTop (mkF m 0 #[.val (.int p0), .val (.int p1), .val (.int p2), .unset, .unset, .unset, .unset, .unset, .unset, .unset, .unset, .unset, .unset] [])) _
    refine XS.bipush X0.here hx rfl (hb hby at_0) ?_
    show Steps p.tables e below (s₁.setTop (mkF m 2 #[.val (.int p0), .val (.int p1), .val (.int p2), .unset, .unset, .unset, .unset, .unset, .unset, .unset, .unset, .unset, .unset] [(.int (16 : Int32))])) _
    exact k
  obtain ⟨T2, h2, k2, X2, e2, E2, A2, st2⟩ := newP X0 hx hZ (hw _ (List.mem_of_getElem? (i := 0) rfl)) e0 (g := (mkF m 2 #[.val (.int p0), .val (.int p1), .val (.int p2), .unset, .unset, .unset, .unset, .unset, .unset, .unset, .unset, .unset, .unset] [(.int (16 : Int32))])) rfl (hb hby at_2) rfl (by decide) (cap := 16) (by decide) (by decide) (by decide) (by decide)
  obtain ⟨b2, g2⟩ : ∃ z, z = h0.size := ⟨_, rfl⟩
  rw [← g2] at A2 st2
  have sz2 : h0.size ≤ b2 := Nat.le_trans K0.1 (Nat.le_of_eq g2.symm)
  have ge2 : n0 ≤ b2 := Nat.le_trans Z0 sz2
  have K2 : Keep h0 h2 [] := K0.ext E2
  have V2 : JV Value.int Z h2 b2 .int (16 : Int32) (fun _ => (0 : Int32)) := JV.new A2 (by decide) _ rfl
  have pre2 : Lead p e below G (T2.setTop (mkF m 4 #[.val (.int p0), .val (.int p1), .val (.int p2), .unset, .unset, .unset, .unset, .unset, .unset, .unset, .unset, .unset, .unset] [(.ref b2)])) := fun t k => pre1 t (st2 _ k)
  have pre3 : Lead p e below G (T2.setTop (mkF m 8 #[.val (.int p0), .val (.int p1), .val (.int p2), .unset, .unset, .unset, .unset, .unset, .unset, .unset, .unset, .unset, .unset] [(.int (97 : Int32)), (.int (0 : Int32)), (.ref b2), (.ref b2)])) := fun t k => by
    refine pre2 t ?_
    show Steps p.tables e below (T2.setTop (mkF m 4 #[.val (.int p0), .val (.int p1), .val (.int p2), .unset, .unset, .unset, .unset, .unset, .unset, .unset, .unset, .unset, .unset] [(.ref b2)])) _
    refine XS.dup X2.here hx rfl (hb hby at_4) rfl rfl ?_
    show Steps p.tables e below (T2.setTop (mkF m 5 #[.val (.int p0), .val (.int p1), .val (.int p2), .unset, .unset, .unset, .unset, .unset, .unset, .unset, .unset, .unset, .unset] [(.ref b2), (.ref b2)])) _
    refine XS.iconst X2.here hx rfl (hb hby at_5) ?_
    show Steps p.tables e below (T2.setTop (mkF m 6 #[.val (.int p0), .val (.int p1), .val (.int p2), .unset, .unset, .unset, .unset, .unset, .unset, .unset, .unset, .unset, .unset] [(.int (0 : Int32)), (.ref b2), (.ref b2)])) _
    refine XS.bipush X2.here hx rfl (hb hby at_6) ?_
    show Steps p.tables e below (T2.setTop (mkF m 8 #[.val (.int p0), .val (.int p1), .val (.int p2), .unset, .unset, .unset, .unset, .unset, .unset, .unset, .unset, .unset, .unset] [(.int (97 : Int32)), (.int (0 : Int32)), (.ref b2), (.ref b2)])) _
    exact k
  obtain ⟨cl4, Ar4, hin4, -⟩ := V2.in (j := (0 : Int32)) ⟨by decide, by decide⟩
  obtain ⟨T4, h4, X4, e4, W4, st4⟩ := stI X2 hx hZ e2 Ar4 (j := (0 : Int32)) hin4 (g := (mkF m 8 #[.val (.int p0), .val (.int p1), .val (.int p2), .unset, .unset, .unset, .unset, .unset, .unset, .unset, .unset, .unset, .unset] [(.int (97 : Int32)), (.int (0 : Int32)), (.ref b2), (.ref b2)])) rfl rfl (hb hby at_8)
  have N4 := Fr.snoc X4 N0 ge2
  have K4 : Keep h0 h4 [] := K2.wr W4 (Or.inr sz2)
  obtain ⟨M4, Y4, N4⟩ : ∃ M, Stand p l e room_1 s m #[(.int p0), (.int p1), (.int p2)] below meth c T4 M 1 16 ∧ Fr n0 M := ⟨_, X4, N4⟩
  have V4 : JV Value.int Z h4 b2 .int (16 : Int32) (updF (fun _ => (0 : Int32)) 0 (97 : Int32)) := V2.set W4
  have pre4 : Lead p e below G (T4.setTop (mkF m 9 #[.val (.int p0), .val (.int p1), .val (.int p2), .unset, .unset, .unset, .unset, .unset, .unset, .unset, .unset, .unset, .unset] [(.ref b2)])) := fun t k => pre3 t (st4 _ k)
  have pre5 : Lead p e below G (T4.setTop (mkF m 13 #[.val (.int p0), .val (.int p1), .val (.int p2), .unset, .unset, .unset, .unset, .unset, .unset, .unset, .unset, .unset, .unset] [(.int (65 : Int32)), (.int (1 : Int32)), (.ref b2), (.ref b2)])) := fun t k => by
    refine pre4 t ?_
    show Steps p.tables e below (T4.setTop (mkF m 9 #[.val (.int p0), .val (.int p1), .val (.int p2), .unset, .unset, .unset, .unset, .unset, .unset, .unset, .unset, .unset, .unset] [(.ref b2)])) _
    refine XS.dup Y4.here hx rfl (hb hby at_9) rfl rfl ?_
    show Steps p.tables e below (T4.setTop (mkF m 10 #[.val (.int p0), .val (.int p1), .val (.int p2), .unset, .unset, .unset, .unset, .unset, .unset, .unset, .unset, .unset, .unset] [(.ref b2), (.ref b2)])) _
    refine XS.iconst Y4.here hx rfl (hb hby at_10) ?_
    show Steps p.tables e below (T4.setTop (mkF m 11 #[.val (.int p0), .val (.int p1), .val (.int p2), .unset, .unset, .unset, .unset, .unset, .unset, .unset, .unset, .unset, .unset] [(.int (1 : Int32)), (.ref b2), (.ref b2)])) _
    refine XS.bipush Y4.here hx rfl (hb hby at_11) ?_
    show Steps p.tables e below (T4.setTop (mkF m 13 #[.val (.int p0), .val (.int p1), .val (.int p2), .unset, .unset, .unset, .unset, .unset, .unset, .unset, .unset, .unset, .unset] [(.int (65 : Int32)), (.int (1 : Int32)), (.ref b2), (.ref b2)])) _
    exact k
  obtain ⟨cl6, Ar6, hin6, -⟩ := V4.in (j := (1 : Int32)) ⟨by decide, by decide⟩
  obtain ⟨T6, h6, X6, e6, W6, st6⟩ := stI Y4 hx hZ e4 Ar6 (j := (1 : Int32)) hin6 (g := (mkF m 13 #[.val (.int p0), .val (.int p1), .val (.int p2), .unset, .unset, .unset, .unset, .unset, .unset, .unset, .unset, .unset, .unset] [(.int (65 : Int32)), (.int (1 : Int32)), (.ref b2), (.ref b2)])) rfl rfl (hb hby at_13)
  have N6 := Fr.snoc X6 N4 ge2
  have K6 : Keep h0 h6 [] := K4.wr W6 (Or.inr sz2)
  obtain ⟨M6, Y6, N6⟩ : ∃ M, Stand p l e room_1 s m #[(.int p0), (.int p1), (.int p2)] below meth c T6 M 1 16 ∧ Fr n0 M := ⟨_, X6, N6⟩
  obtain ⟨g6, hg6⟩ : ∃ z, z = (updF (updF (fun _ => (0 : Int32)) 0 (97 : Int32)) 1 (65 : Int32)) := ⟨_, rfl⟩
  have V6 : JV Value.int Z h6 b2 .int (16 : Int32) g6 := by rw [hg6]; exact V4.set W6
  have pre6 : Lead p e below G (T6.setTop (mkF m 14 #[.val (.int p0), .val (.int p1), .val (.int p2), .unset, .unset, .unset, .unset, .unset, .unset, .unset, .unset, .unset, .unset] [(.ref b2)])) := fun t k => pre5 t (st6 _ k)
  have pre7 : Lead p e below G (T6.setTop (mkF m 18 #[.val (.int p0), .val (.int p1), .val (.int p2), .unset, .unset, .unset, .unset, .unset, .unset, .unset, .unset, .unset, .unset] [(.int (95 : Int32)), (.int (2 : Int32)), (.ref b2), (.ref b2)])) := fun t k => by
    refine pre6 t ?_
    show Steps p.tables e below (T6.setTop (mkF m 14 #[.val (.int p0), .val (.int p1), .val (.int p2), .unset, .unset, .unset, .unset, .unset, .unset, .unset, .unset, .unset, .unset] [(.ref b2)])) _
    refine XS.dup Y6.here hx rfl (hb hby at_14) rfl rfl ?_
    show Steps p.tables e below (T6.setTop (mkF m 15 #[.val (.int p0), .val (.int p1), .val (.int p2), .unset, .unset, .unset, .unset, .unset, .unset, .unset, .unset, .unset, .unset] [(.ref b2), (.ref b2)])) _
    refine XS.iconst Y6.here hx rfl (hb hby at_15) ?_
    show Steps p.tables e below (T6.setTop (mkF m 16 #[.val (.int p0), .val (.int p1), .val (.int p2), .unset, .unset, .unset, .unset, .unset, .unset, .unset, .unset, .unset, .unset] [(.int (2 : Int32)), (.ref b2), (.ref b2)])) _
    refine XS.bipush Y6.here hx rfl (hb hby at_16) ?_
    show Steps p.tables e below (T6.setTop (mkF m 18 #[.val (.int p0), .val (.int p1), .val (.int p2), .unset, .unset, .unset, .unset, .unset, .unset, .unset, .unset, .unset, .unset] [(.int (95 : Int32)), (.int (2 : Int32)), (.ref b2), (.ref b2)])) _
    exact k
  obtain ⟨cl8, Ar8, hin8, -⟩ := V6.in (j := (2 : Int32)) ⟨by decide, by decide⟩
  obtain ⟨T8, h8, X8, e8, W8, st8⟩ := stI Y6 hx hZ e6 Ar8 (j := (2 : Int32)) hin8 (g := (mkF m 18 #[.val (.int p0), .val (.int p1), .val (.int p2), .unset, .unset, .unset, .unset, .unset, .unset, .unset, .unset, .unset, .unset] [(.int (95 : Int32)), (.int (2 : Int32)), (.ref b2), (.ref b2)])) rfl rfl (hb hby at_18)
  have N8 := Fr.snoc X8 N6 ge2
  have K8 : Keep h0 h8 [] := K6.wr W8 (Or.inr sz2)
  obtain ⟨M8, Y8, N8⟩ : ∃ M, Stand p l e room_1 s m #[(.int p0), (.int p1), (.int p2)] below meth c T8 M 1 16 ∧ Fr n0 M := ⟨_, X8, N8⟩
  have V8 : JV Value.int Z h8 b2 .int (16 : Int32) (updF g6 2 (95 : Int32)) := V6.set W8
  have pre8 : Lead p e below G (T8.setTop (mkF m 19 #[.val (.int p0), .val (.int p1), .val (.int p2), .unset, .unset, .unset, .unset, .unset, .unset, .unset, .unset, .unset, .unset] [(.ref b2)])) := fun t k => pre7 t (st8 _ k)
  have pre9 : Lead p e below G (T8.setTop (mkF m 23 #[.val (.int p0), .val (.int p1), .val (.int p2), .unset, .unset, .unset, .unset, .unset, .unset, .unset, .unset, .unset, .unset] [(.int (58 : Int32)), (.int (3 : Int32)), (.ref b2), (.ref b2)])) := fun t k => by
    refine pre8 t ?_
    show Steps p.tables e below (T8.setTop (mkF m 19 #[.val (.int p0), .val (.int p1), .val (.int p2), .unset, .unset, .unset, .unset, .unset, .unset, .unset, .unset, .unset, .unset] [(.ref b2)])) _
    refine XS.dup Y8.here hx rfl (hb hby at_19) rfl rfl ?_
    show Steps p.tables e below (T8.setTop (mkF m 20 #[.val (.int p0), .val (.int p1), .val (.int p2), .unset, .unset, .unset, .unset, .unset, .unset, .unset, .unset, .unset, .unset] [(.ref b2), (.ref b2)])) _
    refine XS.iconst Y8.here hx rfl (hb hby at_20) ?_
    show Steps p.tables e below (T8.setTop (mkF m 21 #[.val (.int p0), .val (.int p1), .val (.int p2), .unset, .unset, .unset, .unset, .unset, .unset, .unset, .unset, .unset, .unset] [(.int (3 : Int32)), (.ref b2), (.ref b2)])) _
    refine XS.bipush Y8.here hx rfl (hb hby at_21) ?_
    show Steps p.tables e below (T8.setTop (mkF m 23 #[.val (.int p0), .val (.int p1), .val (.int p2), .unset, .unset, .unset, .unset, .unset, .unset, .unset, .unset, .unset, .unset] [(.int (58 : Int32)), (.int (3 : Int32)), (.ref b2), (.ref b2)])) _
    exact k
  obtain ⟨cl10, Ar10, hin10, -⟩ := V8.in (j := (3 : Int32)) ⟨by decide, by decide⟩
  obtain ⟨T10, h10, X10, e10, W10, st10⟩ := stI Y8 hx hZ e8 Ar10 (j := (3 : Int32)) hin10 (g := (mkF m 23 #[.val (.int p0), .val (.int p1), .val (.int p2), .unset, .unset, .unset, .unset, .unset, .unset, .unset, .unset, .unset, .unset] [(.int (58 : Int32)), (.int (3 : Int32)), (.ref b2), (.ref b2)])) rfl rfl (hb hby at_23)
  have N10 := Fr.snoc X10 N8 ge2
  have K10 : Keep h0 h10 [] := K8.wr W10 (Or.inr sz2)
  obtain ⟨M10, Y10, N10⟩ : ∃ M, Stand p l e room_1 s m #[(.int p0), (.int p1), (.int p2)] below meth c T10 M 1 16 ∧ Fr n0 M := ⟨_, X10, N10⟩
  have V10 : JV Value.int Z h10 b2 .int (16 : Int32) (updF (updF g6 2 (95 : Int32)) 3 (58 : Int32)) := V8.set W10
  have pre10 : Lead p e below G (T10.setTop (mkF m 24 #[.val (.int p0), .val (.int p1), .val (.int p2), .unset, .unset, .unset, .unset, .unset, .unset, .unset, .unset, .unset, .unset] [(.ref b2)])) := fun t k => pre9 t (st10 _ k)
  have pre11 : Lead p e below G (T10.setTop (mkF m 29 #[.val (.int p0), .val (.int p1), .val (.int p2), .unset, .unset, .unset, .unset, .unset, .unset, .unset, .unset, .unset, .unset] [(.int (192 : Int32)), (.int (4 : Int32)), (.ref b2), (.ref b2)])) := fun t k => by
    refine pre10 t ?_
    show Steps p.tables e below (T10.setTop (mkF m 24 #[.val (.int p0), .val (.int p1), .val (.int p2), .unset, .unset, .unset, .unset, .unset, .unset, .unset, .unset, .unset, .unset] [(.ref b2)])) _
    refine XS.dup Y10.here hx rfl (hb hby at_24) rfl rfl ?_
    show Steps p.tables e below (T10.setTop (mkF m 25 #[.val (.int p0), .val (.int p1), .val (.int p2), .unset, .unset, .unset, .unset, .unset, .unset, .unset, .unset, .unset, .unset] [(.ref b2), (.ref b2)])) _
    refine XS.iconst Y10.here hx rfl (hb hby at_25) ?_
    show Steps p.tables e below (T10.setTop (mkF m 26 #[.val (.int p0), .val (.int p1), .val (.int p2), .unset, .unset, .unset, .unset, .unset, .unset, .unset, .unset, .unset, .unset] [(.int (4 : Int32)), (.ref b2), (.ref b2)])) _
    refine XS.sipush Y10.here hx rfl (hb hby at_26) ?_
    show Steps p.tables e below (T10.setTop (mkF m 29 #[.val (.int p0), .val (.int p1), .val (.int p2), .unset, .unset, .unset, .unset, .unset, .unset, .unset, .unset, .unset, .unset] [(.int (192 : Int32)), (.int (4 : Int32)), (.ref b2), (.ref b2)])) _
    exact k
  obtain ⟨cl12, Ar12, hin12, -⟩ := V10.in (j := (4 : Int32)) ⟨by decide, by decide⟩
  obtain ⟨T12, h12, X12, e12, W12, st12⟩ := stI Y10 hx hZ e10 Ar12 (j := (4 : Int32)) hin12 (g := (mkF m 29 #[.val (.int p0), .val (.int p1), .val (.int p2), .unset, .unset, .unset, .unset, .unset, .unset, .unset, .unset, .unset, .unset] [(.int (192 : Int32)), (.int (4 : Int32)), (.ref b2), (.ref b2)])) rfl rfl (hb hby at_29)
  have N12 := Fr.snoc X12 N10 ge2
  have K12 : Keep h0 h12 [] := K10.wr W12 (Or.inr sz2)
  obtain ⟨M12, Y12, N12⟩ : ∃ M, Stand p l e room_1 s m #[(.int p0), (.int p1), (.int p2)] below meth c T12 M 1 16 ∧ Fr n0 M := ⟨_, X12, N12⟩
  obtain ⟨g12, hg12⟩ : ∃ z, z = (updF (updF (updF g6 2 (95 : Int32)) 3 (58 : Int32)) 4 (192 : Int32)) := ⟨_, rfl⟩
  have V12 : JV Value.int Z h12 b2 .int (16 : Int32) g12 := by rw [hg12]; exact V10.set W12
  have pre12 : Lead p e below G (T12.setTop (mkF m 30 #[.val (.int p0), .val (.int p1), .val (.int p2), .unset, .unset, .unset, .unset, .unset, .unset, .unset, .unset, .unset, .unset] [(.ref b2)])) := fun t k => pre11 t (st12 _ k)
  have pre13 : Lead p e below G (T12.setTop (mkF m 35 #[.val (.int p0), .val (.int p1), .val (.int p2), .unset, .unset, .unset, .unset, .unset, .unset, .unset, .unset, .unset, .unset] [(.int (216 : Int32)), (.int (5 : Int32)), (.ref b2), (.ref b2)])) := fun t k => by
    refine pre12 t ?_
    show Steps p.tables e below (T12.setTop (mkF m 30 #[.val (.int p0), .val (.int p1), .val (.int p2), .unset, .unset, .unset, .unset, .unset, .unset, .unset, .unset, .unset, .unset] [(.ref b2)])) _
    refine XS.dup Y12.here hx rfl (hb hby at_30) rfl rfl ?_
    show Steps p.tables e below (T12.setTop (mkF m 31 #[.val (.int p0), .val (.int p1), .val (.int p2), .unset, .unset, .unset, .unset, .unset, .unset, .unset, .unset, .unset, .unset] [(.ref b2), (.ref b2)])) _
    refine XS.iconst Y12.here hx rfl (hb hby at_31) ?_
    show Steps p.tables e below (T12.setTop (mkF m 32 #[.val (.int p0), .val (.int p1), .val (.int p2), .unset, .unset, .unset, .unset, .unset, .unset, .unset, .unset, .unset, .unset] [(.int (5 : Int32)), (.ref b2), (.ref b2)])) _
    refine XS.sipush Y12.here hx rfl (hb hby at_32) ?_
    show Steps p.tables e below (T12.setTop (mkF m 35 #[.val (.int p0), .val (.int p1), .val (.int p2), .unset, .unset, .unset, .unset, .unset, .unset, .unset, .unset, .unset, .unset] [(.int (216 : Int32)), (.int (5 : Int32)), (.ref b2), (.ref b2)])) _
    exact k
  obtain ⟨cl14, Ar14, hin14, -⟩ := V12.in (j := (5 : Int32)) ⟨by decide, by decide⟩
  obtain ⟨T14, h14, X14, e14, W14, st14⟩ := stI Y12 hx hZ e12 Ar14 (j := (5 : Int32)) hin14 (g := (mkF m 35 #[.val (.int p0), .val (.int p1), .val (.int p2), .unset, .unset, .unset, .unset, .unset, .unset, .unset, .unset, .unset, .unset] [(.int (216 : Int32)), (.int (5 : Int32)), (.ref b2), (.ref b2)])) rfl rfl (hb hby at_35)
  have N14 := Fr.snoc X14 N12 ge2
  have K14 : Keep h0 h14 [] := K12.wr W14 (Or.inr sz2)
  obtain ⟨M14, Y14, N14⟩ : ∃ M, Stand p l e room_1 s m #[(.int p0), (.int p1), (.int p2)] below meth c T14 M 1 16 ∧ Fr n0 M := ⟨_, X14, N14⟩
  have V14 : JV Value.int Z h14 b2 .int (16 : Int32) (updF g12 5 (216 : Int32)) := V12.set W14
  have pre14 : Lead p e below G (T14.setTop (mkF m 36 #[.val (.int p0), .val (.int p1), .val (.int p2), .unset, .unset, .unset, .unset, .unset, .unset, .unset, .unset, .unset, .unset] [(.ref b2)])) := fun t k => pre13 t (st14 _ k)
  have pre15 : Lead p e below G (T14.setTop (mkF m 42 #[.val (.int p0), .val (.int p1), .val (.int p2), .unset, .unset, .unset, .unset, .unset, .unset, .unset, .unset, .unset, .unset] [(.int (248 : Int32)), (.int (6 : Int32)), (.ref b2), (.ref b2)])) := fun t k => by
    refine pre14 t ?_
    show Steps p.tables e below (T14.setTop (mkF m 36 #[.val (.int p0), .val (.int p1), .val (.int p2), .unset, .unset, .unset, .unset, .unset, .unset, .unset, .unset, .unset, .unset] [(.ref b2)])) _
    refine XS.dup Y14.here hx rfl (hb hby at_36) rfl rfl ?_
    show Steps p.tables e below (T14.setTop (mkF m 37 #[.val (.int p0), .val (.int p1), .val (.int p2), .unset, .unset, .unset, .unset, .unset, .unset, .unset, .unset, .unset, .unset] [(.ref b2), (.ref b2)])) _
    refine XS.bipush Y14.here hx rfl (hb hby at_37) ?_
    show Steps p.tables e below (T14.setTop (mkF m 39 #[.val (.int p0), .val (.int p1), .val (.int p2), .unset, .unset, .unset, .unset, .unset, .unset, .unset, .unset, .unset, .unset] [(.int (6 : Int32)), (.ref b2), (.ref b2)])) _
    refine XS.sipush Y14.here hx rfl (hb hby at_39) ?_
    show Steps p.tables e below (T14.setTop (mkF m 42 #[.val (.int p0), .val (.int p1), .val (.int p2), .unset, .unset, .unset, .unset, .unset, .unset, .unset, .unset, .unset, .unset] [(.int (248 : Int32)), (.int (6 : Int32)), (.ref b2), (.ref b2)])) _
    exact k
  obtain ⟨cl16, Ar16, hin16, -⟩ := V14.in (j := (6 : Int32)) ⟨by decide, by decide⟩
  obtain ⟨T16, h16, X16, e16, W16, st16⟩ := stI Y14 hx hZ e14 Ar16 (j := (6 : Int32)) hin16 (g := (mkF m 42 #[.val (.int p0), .val (.int p1), .val (.int p2), .unset, .unset, .unset, .unset, .unset, .unset, .unset, .unset, .unset, .unset] [(.int (248 : Int32)), (.int (6 : Int32)), (.ref b2), (.ref b2)])) rfl rfl (hb hby at_42)
  have N16 := Fr.snoc X16 N14 ge2
  have K16 : Keep h0 h16 [] := K14.wr W16 (Or.inr sz2)
  obtain ⟨M16, Y16, N16⟩ : ∃ M, Stand p l e room_1 s m #[(.int p0), (.int p1), (.int p2)] below meth c T16 M 1 16 ∧ Fr n0 M := ⟨_, X16, N16⟩
  have V16 : JV Value.int Z h16 b2 .int (16 : Int32) (updF (updF g12 5 (216 : Int32)) 6 (248 : Int32)) := V14.set W16
  have pre16 : Lead p e below G (T16.setTop (mkF m 43 #[.val (.int p0), .val (.int p1), .val (.int p2), .unset, .unset, .unset, .unset, .unset, .unset, .unset, .unset, .unset, .unset] [(.ref b2)])) := fun t k => pre15 t (st16 _ k)
  have pre17 : Lead p e below G (T16.setTop (mkF m 49 #[.val (.int p0), .val (.int p1), .val (.int p2), .unset, .unset, .unset, .unset, .unset, .unset, .unset, .unset, .unset, .unset] [(.int (880 : Int32)), (.int (7 : Int32)), (.ref b2), (.ref b2)])) := fun t k => by
    refine pre16 t ?_
    show Steps p.tables e below (T16.setTop (mkF m 43 #[.val (.int p0), .val (.int p1), .val (.int p2), .unset, .unset, .unset, .unset, .unset, .unset, .unset, .unset, .unset, .unset] [(.ref b2)])) _
    refine XS.dup Y16.here hx rfl (hb hby at_43) rfl rfl ?_
    show Steps p.tables e below (T16.setTop (mkF m 44 #[.val (.int p0), .val (.int p1), .val (.int p2), .unset, .unset, .unset, .unset, .unset, .unset, .unset, .unset, .unset, .unset] [(.ref b2), (.ref b2)])) _
    refine XS.bipush Y16.here hx rfl (hb hby at_44) ?_
    show Steps p.tables e below (T16.setTop (mkF m 46 #[.val (.int p0), .val (.int p1), .val (.int p2), .unset, .unset, .unset, .unset, .unset, .unset, .unset, .unset, .unset, .unset] [(.int (7 : Int32)), (.ref b2), (.ref b2)])) _
    refine XS.sipush Y16.here hx rfl (hb hby at_46) ?_
    show Steps p.tables e below (T16.setTop (mkF m 49 #[.val (.int p0), .val (.int p1), .val (.int p2), .unset, .unset, .unset, .unset, .unset, .unset, .unset, .unset, .unset, .unset] [(.int (880 : Int32)), (.int (7 : Int32)), (.ref b2), (.ref b2)])) _
    exact k
  obtain ⟨cl18, Ar18, hin18, -⟩ := V16.in (j := (7 : Int32)) ⟨by decide, by decide⟩
  obtain ⟨T18, h18, X18, e18, W18, st18⟩ := stI Y16 hx hZ e16 Ar18 (j := (7 : Int32)) hin18 (g := (mkF m 49 #[.val (.int p0), .val (.int p1), .val (.int p2), .unset, .unset, .unset, .unset, .unset, .unset, .unset, .unset, .unset, .unset] [(.int (880 : Int32)), (.int (7 : Int32)), (.ref b2), (.ref b2)])) rfl rfl (hb hby at_49)
  have N18 := Fr.snoc X18 N16 ge2
  have K18 : Keep h0 h18 [] := K16.wr W18 (Or.inr sz2)
  obtain ⟨M18, Y18, N18⟩ : ∃ M, Stand p l e room_1 s m #[(.int p0), (.int p1), (.int p2)] below meth c T18 M 1 16 ∧ Fr n0 M := ⟨_, X18, N18⟩
  obtain ⟨g18, hg18⟩ : ∃ z, z = (updF (updF (updF g12 5 (216 : Int32)) 6 (248 : Int32)) 7 (880 : Int32)) := ⟨_, rfl⟩
  have V18 : JV Value.int Z h18 b2 .int (16 : Int32) g18 := by rw [hg18]; exact V16.set W18
  have pre18 : Lead p e below G (T18.setTop (mkF m 50 #[.val (.int p0), .val (.int p1), .val (.int p2), .unset, .unset, .unset, .unset, .unset, .unset, .unset, .unset, .unset, .unset] [(.ref b2)])) := fun t k => pre17 t (st18 _ k)
  have pre19 : Lead p e below G (T18.setTop (mkF m 56 #[.val (.int p0), .val (.int p1), .val (.int p2), .unset, .unset, .unset, .unset, .unset, .unset, .unset, .unset, .unset, .unset] [(.int (895 : Int32)), (.int (8 : Int32)), (.ref b2), (.ref b2)])) := fun t k => by
    refine pre18 t ?_
    show Steps p.tables e below (T18.setTop (mkF m 50 #[.val (.int p0), .val (.int p1), .val (.int p2), .unset, .unset, .unset, .unset, .unset, .unset, .unset, .unset, .unset, .unset] [(.ref b2)])) _
    refine XS.dup Y18.here hx rfl (hb hby at_50) rfl rfl ?_
    show Steps p.tables e below (T18.setTop (mkF m 51 #[.val (.int p0), .val (.int p1), .val (.int p2), .unset, .unset, .unset, .unset, .unset, .unset, .unset, .unset, .unset, .unset] [(.ref b2), (.ref b2)])) _
    refine XS.bipush Y18.here hx rfl (hb hby at_51) ?_
    show Steps p.tables e below (T18.setTop (mkF m 53 #[.val (.int p0), .val (.int p1), .val (.int p2), .unset, .unset, .unset, .unset, .unset, .unset, .unset, .unset, .unset, .unset] [(.int (8 : Int32)), (.ref b2), (.ref b2)])) _
    refine XS.sipush Y18.here hx rfl (hb hby at_53) ?_
    show Steps p.tables e below (T18.setTop (mkF m 56 #[.val (.int p0), .val (.int p1), .val (.int p2), .unset, .unset, .unset, .unset, .unset, .unset, .unset, .unset, .unset, .unset] [(.int (895 : Int32)), (.int (8 : Int32)), (.ref b2), (.ref b2)])) _
    exact k
  obtain ⟨cl20, Ar20, hin20, -⟩ := V18.in (j := (8 : Int32)) ⟨by decide, by decide⟩
  obtain ⟨T20, h20, X20, e20, W20, st20⟩ := stI Y18 hx hZ e18 Ar20 (j := (8 : Int32)) hin20 (g := (mkF m 56 #[.val (.int p0), .val (.int p1), .val (.int p2), .unset, .unset, .unset, .unset, .unset, .unset, .unset, .unset, .unset, .unset] [(.int (895 : Int32)), (.int (8 : Int32)), (.ref b2), (.ref b2)])) rfl rfl (hb hby at_56)
  have N20 := Fr.snoc X20 N18 ge2
  have K20 : Keep h0 h20 [] := K18.wr W20 (Or.inr sz2)
  obtain ⟨M20, Y20, N20⟩ : ∃ M, Stand p l e room_1 s m #[(.int p0), (.int p1), (.int p2)] below meth c T20 M 1 16 ∧ Fr n0 M := ⟨_, X20, N20⟩
  have V20 : JV Value.int Z h20 b2 .int (16 : Int32) (updF g18 8 (895 : Int32)) := V18.set W20
  have pre20 : Lead p e below G (T20.setTop (mkF m 57 #[.val (.int p0), .val (.int p1), .val (.int p2), .unset, .unset, .unset, .unset, .unset, .unset, .unset, .unset, .unset, .unset] [(.ref b2)])) := fun t k => pre19 t (st20 _ k)
  have pre21 : Lead p e below G (T20.setTop (mkF m 63 #[.val (.int p0), .val (.int p1), .val (.int p2), .unset, .unset, .unset, .unset, .unset, .unset, .unset, .unset, .unset, .unset] [(.int (8204 : Int32)), (.int (9 : Int32)), (.ref b2), (.ref b2)])) := fun t k => by
    refine pre20 t ?_
    show Steps p.tables e below (T20.setTop (mkF m 57 #[.val (.int p0), .val (.int p1), .val (.int p2), .unset, .unset, .unset, .unset, .unset, .unset, .unset, .unset, .unset, .unset] [(.ref b2)])) _
    refine XS.dup Y20.here hx rfl (hb hby at_57) rfl rfl ?_
    show Steps p.tables e below (T20.setTop (mkF m 58 #[.val (.int p0), .val (.int p1), .val (.int p2), .unset, .unset, .unset, .unset, .unset, .unset, .unset, .unset, .unset, .unset] [(.ref b2), (.ref b2)])) _
    refine XS.bipush Y20.here hx rfl (hb hby at_58) ?_
    show Steps p.tables e below (T20.setTop (mkF m 60 #[.val (.int p0), .val (.int p1), .val (.int p2), .unset, .unset, .unset, .unset, .unset, .unset, .unset, .unset, .unset, .unset] [(.int (9 : Int32)), (.ref b2), (.ref b2)])) _
    refine XS.sipush Y20.here hx rfl (hb hby at_60) ?_
    show Steps p.tables e below (T20.setTop (mkF m 63 #[.val (.int p0), .val (.int p1), .val (.int p2), .unset, .unset, .unset, .unset, .unset, .unset, .unset, .unset, .unset, .unset] [(.int (8204 : Int32)), (.int (9 : Int32)), (.ref b2), (.ref b2)])) _
    exact k
  obtain ⟨cl22, Ar22, hin22, -⟩ := V20.in (j := (9 : Int32)) ⟨by decide, by decide⟩
  obtain ⟨T22, h22, X22, e22, W22, st22⟩ := stI Y20 hx hZ e20 Ar22 (j := (9 : Int32)) hin22 (g := (mkF m 63 #[.val (.int p0), .val (.int p1), .val (.int p2), .unset, .unset, .unset, .unset, .unset, .unset, .unset, .unset, .unset, .unset] [(.int (8204 : Int32)), (.int (9 : Int32)), (.ref b2), (.ref b2)])) rfl rfl (hb hby at_63)
  have N22 := Fr.snoc X22 N20 ge2
  have K22 : Keep h0 h22 [] := K20.wr W22 (Or.inr sz2)
  obtain ⟨M22, Y22, N22⟩ : ∃ M, Stand p l e room_1 s m #[(.int p0), (.int p1), (.int p2)] below meth c T22 M 1 16 ∧ Fr n0 M := ⟨_, X22, N22⟩
  have V22 : JV Value.int Z h22 b2 .int (16 : Int32) (updF (updF g18 8 (895 : Int32)) 9 (8204 : Int32)) := V20.set W22
  have pre22 : Lead p e below G (T22.setTop (mkF m 64 #[.val (.int p0), .val (.int p1), .val (.int p2), .unset, .unset, .unset, .unset, .unset, .unset, .unset, .unset, .unset, .unset] [(.ref b2)])) := fun t k => pre21 t (st22 _ k)
  have pre23 : Lead p e below G (T22.setTop (mkF m 70 #[.val (.int p0), .val (.int p1), .val (.int p2), .unset, .unset, .unset, .unset, .unset, .unset, .unset, .unset, .unset, .unset] [(.int (8304 : Int32)), (.int (10 : Int32)), (.ref b2), (.ref b2)])) := fun t k => by
    refine pre22 t ?_
    show Steps p.tables e below (T22.setTop (mkF m 64 #[.val (.int p0), .val (.int p1), .val (.int p2), .unset, .unset, .unset, .unset, .unset, .unset, .unset, .unset, .unset, .unset] [(.ref b2)])) _
    refine XS.dup Y22.here hx rfl (hb hby at_64) rfl rfl ?_
    show Steps p.tables e below (T22.setTop (mkF m 65 #[.val (.int p0), .val (.int p1), .val (.int p2), .unset, .unset, .unset, .unset, .unset, .unset, .unset, .unset, .unset, .unset] [(.ref b2), (.ref b2)])) _
    refine XS.bipush Y22.here hx rfl (hb hby at_65) ?_
    show Steps p.tables e below (T22.setTop (mkF m 67 #[.val (.int p0), .val (.int p1), .val (.int p2), .unset, .unset, .unset, .unset, .unset, .unset, .unset, .unset, .unset, .unset] [(.int (10 : Int32)), (.ref b2), (.ref b2)])) _
    refine XS.sipush Y22.here hx rfl (hb hby at_67) ?_
    show Steps p.tables e below (T22.setTop (mkF m 70 #[.val (.int p0), .val (.int p1), .val (.int p2), .unset, .unset, .unset, .unset, .unset, .unset, .unset, .unset, .unset, .unset] [(.int (8304 : Int32)), (.int (10 : Int32)), (.ref b2), (.ref b2)])) _
    exact k
  obtain ⟨cl24, Ar24, hin24, -⟩ := V22.in (j := (10 : Int32)) ⟨by decide, by decide⟩
  obtain ⟨T24, h24, X24, e24, W24, st24⟩ := stI Y22 hx hZ e22 Ar24 (j := (10 : Int32)) hin24 (g := (mkF m 70 #[.val (.int p0), .val (.int p1), .val (.int p2), .unset, .unset, .unset, .unset, .unset, .unset, .unset, .unset, .unset, .unset] [(.int (8304 : Int32)), (.int (10 : Int32)), (.ref b2), (.ref b2)])) rfl rfl (hb hby at_70)
  have N24 := Fr.snoc X24 N22 ge2
  have K24 : Keep h0 h24 [] := K22.wr W24 (Or.inr sz2)
  obtain ⟨M24, Y24, N24⟩ : ∃ M, Stand p l e room_1 s m #[(.int p0), (.int p1), (.int p2)] below meth c T24 M 1 16 ∧ Fr n0 M := ⟨_, X24, N24⟩
  obtain ⟨g24, hg24⟩ : ∃ z, z = (updF (updF (updF g18 8 (895 : Int32)) 9 (8204 : Int32)) 10 (8304 : Int32)) := ⟨_, rfl⟩
  have V24 : JV Value.int Z h24 b2 .int (16 : Int32) g24 := by rw [hg24]; exact V22.set W24
  have pre24 : Lead p e below G (T24.setTop (mkF m 71 #[.val (.int p0), .val (.int p1), .val (.int p2), .unset, .unset, .unset, .unset, .unset, .unset, .unset, .unset, .unset, .unset] [(.ref b2)])) := fun t k => pre23 t (st24 _ k)
  have pre25 : Lead p e below G (T24.setTop (mkF m 77 #[.val (.int p0), .val (.int p1), .val (.int p2), .unset, .unset, .unset, .unset, .unset, .unset, .unset, .unset, .unset, .unset] [(.int (11264 : Int32)), (.int (11 : Int32)), (.ref b2), (.ref b2)])) := fun t k => by
    refine pre24 t ?_
    show Steps p.tables e below (T24.setTop (mkF m 71 #[.val (.int p0), .val (.int p1), .val (.int p2), .unset, .unset, .unset, .unset, .unset, .unset, .unset, .unset, .unset, .unset] [(.ref b2)])) _
    refine XS.dup Y24.here hx rfl (hb hby at_71) rfl rfl ?_
    show Steps p.tables e below (T24.setTop (mkF m 72 #[.val (.int p0), .val (.int p1), .val (.int p2), .unset, .unset, .unset, .unset, .unset, .unset, .unset, .unset, .unset, .unset] [(.ref b2), (.ref b2)])) _
    refine XS.bipush Y24.here hx rfl (hb hby at_72) ?_
    show Steps p.tables e below (T24.setTop (mkF m 74 #[.val (.int p0), .val (.int p1), .val (.int p2), .unset, .unset, .unset, .unset, .unset, .unset, .unset, .unset, .unset, .unset] [(.int (11 : Int32)), (.ref b2), (.ref b2)])) _
    refine XS.sipush Y24.here hx rfl (hb hby at_74) ?_
    show Steps p.tables e below (T24.setTop (mkF m 77 #[.val (.int p0), .val (.int p1), .val (.int p2), .unset, .unset, .unset, .unset, .unset, .unset, .unset, .unset, .unset, .unset] [(.int (11264 : Int32)), (.int (11 : Int32)), (.ref b2), (.ref b2)])) _
    exact k
  obtain ⟨cl26, Ar26, hin26, -⟩ := V24.in (j := (11 : Int32)) ⟨by decide, by decide⟩
  obtain ⟨T26, h26, X26, e26, W26, st26⟩ := stI Y24 hx hZ e24 Ar26 (j := (11 : Int32)) hin26 (g := (mkF m 77 #[.val (.int p0), .val (.int p1), .val (.int p2), .unset, .unset, .unset, .unset, .unset, .unset, .unset, .unset, .unset, .unset] [(.int (11264 : Int32)), (.int (11 : Int32)), (.ref b2), (.ref b2)])) rfl rfl (hb hby at_77)
  have N26 := Fr.snoc X26 N24 ge2
  have K26 : Keep h0 h26 [] := K24.wr W26 (Or.inr sz2)
  obtain ⟨M26, Y26, N26⟩ : ∃ M, Stand p l e room_1 s m #[(.int p0), (.int p1), (.int p2)] below meth c T26 M 1 16 ∧ Fr n0 M := ⟨_, X26, N26⟩
  have V26 : JV Value.int Z h26 b2 .int (16 : Int32) (updF g24 11 (11264 : Int32)) := V24.set W26
  have pre26 : Lead p e below G (T26.setTop (mkF m 78 #[.val (.int p0), .val (.int p1), .val (.int p2), .unset, .unset, .unset, .unset, .unset, .unset, .unset, .unset, .unset, .unset] [(.ref b2)])) := fun t k => pre25 t (st26 _ k)
  have pre27 : Lead p e below G (T26.setTop (mkF m 84 #[.val (.int p0), .val (.int p1), .val (.int p2), .unset, .unset, .unset, .unset, .unset, .unset, .unset, .unset, .unset, .unset] [(.int (12289 : Int32)), (.int (12 : Int32)), (.ref b2), (.ref b2)])) := fun t k => by
    refine pre26 t ?_
    show Steps p.tables e below (T26.setTop (mkF m 78 #[.val (.int p0), .val (.int p1), .val (.int p2), .unset, .unset, .unset, .unset, .unset, .unset, .unset, .unset, .unset, .unset] [(.ref b2)])) _
    refine XS.dup Y26.here hx rfl (hb hby at_78) rfl rfl ?_
    show Steps p.tables e below (T26.setTop (mkF m 79 #[.val (.int p0), .val (.int p1), .val (.int p2), .unset, .unset, .unset, .unset, .unset, .unset, .unset, .unset, .unset, .unset] [(.ref b2), (.ref b2)])) _
    refine XS.bipush Y26.here hx rfl (hb hby at_79) ?_
    show Steps p.tables e below (T26.setTop (mkF m 81 #[.val (.int p0), .val (.int p1), .val (.int p2), .unset, .unset, .unset, .unset, .unset, .unset, .unset, .unset, .unset, .unset] [(.int (12 : Int32)), (.ref b2), (.ref b2)])) _
    refine XS.sipush Y26.here hx rfl (hb hby at_81) ?_
    show Steps p.tables e below (T26.setTop (mkF m 84 #[.val (.int p0), .val (.int p1), .val (.int p2), .unset, .unset, .unset, .unset, .unset, .unset, .unset, .unset, .unset, .unset] [(.int (12289 : Int32)), (.int (12 : Int32)), (.ref b2), (.ref b2)])) _
    exact k
  obtain ⟨cl28, Ar28, hin28, -⟩ := V26.in (j := (12 : Int32)) ⟨by decide, by decide⟩
  obtain ⟨T28, h28, X28, e28, W28, st28⟩ := stI Y26 hx hZ e26 Ar28 (j := (12 : Int32)) hin28 (g := (mkF m 84 #[.val (.int p0), .val (.int p1), .val (.int p2), .unset, .unset, .unset, .unset, .unset, .unset, .unset, .unset, .unset, .unset] [(.int (12289 : Int32)), (.int (12 : Int32)), (.ref b2), (.ref b2)])) rfl rfl (hb hby at_84)
  have N28 := Fr.snoc X28 N26 ge2
  have K28 : Keep h0 h28 [] := K26.wr W28 (Or.inr sz2)
  obtain ⟨M28, Y28, N28⟩ : ∃ M, Stand p l e room_1 s m #[(.int p0), (.int p1), (.int p2)] below meth c T28 M 1 16 ∧ Fr n0 M := ⟨_, X28, N28⟩
  have V28 : JV Value.int Z h28 b2 .int (16 : Int32) (updF (updF g24 11 (11264 : Int32)) 12 (12289 : Int32)) := V26.set W28
  have pre28 : Lead p e below G (T28.setTop (mkF m 85 #[.val (.int p0), .val (.int p1), .val (.int p2), .unset, .unset, .unset, .unset, .unset, .unset, .unset, .unset, .unset, .unset] [(.ref b2)])) := fun t k => pre27 t (st28 _ k)
  have pre29 : Lead p e below G (T28.setTop (mkF m 90 #[.val (.int p0), .val (.int p1), .val (.int p2), .unset, .unset, .unset, .unset, .unset, .unset, .unset, .unset, .unset, .unset] [(.int (63744 : Int32)), (.int (13 : Int32)), (.ref b2), (.ref b2)])) := fun t k => by
    refine pre28 t ?_
    show Steps p.tables e below (T28.setTop (mkF m 85 #[.val (.int p0), .val (.int p1), .val (.int p2), .unset, .unset, .unset, .unset, .unset, .unset, .unset, .unset, .unset, .unset] [(.ref b2)])) _
    refine XS.dup Y28.here hx rfl (hb hby at_85) rfl rfl ?_
    show Steps p.tables e below (T28.setTop (mkF m 86 #[.val (.int p0), .val (.int p1), .val (.int p2), .unset, .unset, .unset, .unset, .unset, .unset, .unset, .unset, .unset, .unset] [(.ref b2), (.ref b2)])) _
    refine XS.bipush Y28.here hx rfl (hb hby at_86) ?_
    show Steps p.tables e below (T28.setTop (mkF m 88 #[.val (.int p0), .val (.int p1), .val (.int p2), .unset, .unset, .unset, .unset, .unset, .unset, .unset, .unset, .unset, .unset] [(.int (13 : Int32)), (.ref b2), (.ref b2)])) _
    refine Y28.ldcInt hx hown (mvT hZ (hw _ (List.mem_of_getElem? (i := 1) rfl))) (g := (mkF m 88 #[.val (.int p0), .val (.int p1), .val (.int p2), .unset, .unset, .unset, .unset, .unset, .unset, .unset, .unset, .unset, .unset] [(.int (13 : Int32)), (.ref b2), (.ref b2)])) rfl (hb hby at_88) _ ?_
    show Steps p.tables e below (T28.setTop (mkF m 90 #[.val (.int p0), .val (.int p1), .val (.int p2), .unset, .unset, .unset, .unset, .unset, .unset, .unset, .unset, .unset, .unset] [(.int (63744 : Int32)), (.int (13 : Int32)), (.ref b2), (.ref b2)])) _
    exact k
  obtain ⟨cl30, Ar30, hin30, -⟩ := V28.in (j := (13 : Int32)) ⟨by decide, by decide⟩
  obtain ⟨T30, h30, X30, e30, W30, st30⟩ := stI Y28 hx hZ e28 Ar30 (j := (13 : Int32)) hin30 (g := (mkF m 90 #[.val (.int p0), .val (.int p1), .val (.int p2), .unset, .unset, .unset, .unset, .unset, .unset, .unset, .unset, .unset, .unset] [(.int (63744 : Int32)), (.int (13 : Int32)), (.ref b2), (.ref b2)])) rfl rfl (hb hby at_90)
  have N30 := Fr.snoc X30 N28 ge2
  have K30 : Keep h0 h30 [] := K28.wr W30 (Or.inr sz2)
  obtain ⟨M30, Y30, N30⟩ : ∃ M, Stand p l e room_1 s m #[(.int p0), (.int p1), (.int p2)] below meth c T30 M 1 16 ∧ Fr n0 M := ⟨_, X30, N30⟩
  obtain ⟨g30, hg30⟩ : ∃ z, z = (updF (updF (updF g24 11 (11264 : Int32)) 12 (12289 : Int32)) 13 (63744 : Int32)) := ⟨_, rfl⟩
  have V30 : JV Value.int Z h30 b2 .int (16 : Int32) g30 := by rw [hg30]; exact V28.set W30
  have pre30 : Lead p e below G (T30.setTop (mkF m 91 #[.val (.int p0), .val (.int p1), .val (.int p2), .unset, .unset, .unset, .unset, .unset, .unset, .unset, .unset, .unset, .unset] [(.ref b2)])) := fun t k => pre29 t (st30 _ k)
  have pre31 : Lead p e below G (T30.setTop (mkF m 96 #[.val (.int p0), .val (.int p1), .val (.int p2), .unset, .unset, .unset, .unset, .unset, .unset, .unset, .unset, .unset, .unset] [(.int (65008 : Int32)), (.int (14 : Int32)), (.ref b2), (.ref b2)])) := fun t k => by
    refine pre30 t ?_
    show Steps p.tables e below (T30.setTop (mkF m 91 #[.val (.int p0), .val (.int p1), .val (.int p2), .unset, .unset, .unset, .unset, .unset, .unset, .unset, .unset, .unset, .unset] [(.ref b2)])) _
    refine XS.dup Y30.here hx rfl (hb hby at_91) rfl rfl ?_
    show Steps p.tables e below (T30.setTop (mkF m 92 #[.val (.int p0), .val (.int p1), .val (.int p2), .unset, .unset, .unset, .unset, .unset, .unset, .unset, .unset, .unset, .unset] [(.ref b2), (.ref b2)])) _
    refine XS.bipush Y30.here hx rfl (hb hby at_92) ?_
    show Steps p.tables e below (T30.setTop (mkF m 94 #[.val (.int p0), .val (.int p1), .val (.int p2), .unset, .unset, .unset, .unset, .unset, .unset, .unset, .unset, .unset, .unset] [(.int (14 : Int32)), (.ref b2), (.ref b2)])) _
    refine Y30.ldcInt hx hown (mvT hZ (hw _ (List.mem_of_getElem? (i := 2) rfl))) (g := (mkF m 94 #[.val (.int p0), .val (.int p1), .val (.int p2), .unset, .unset, .unset, .unset, .unset, .unset, .unset, .unset, .unset, .unset] [(.int (14 : Int32)), (.ref b2), (.ref b2)])) rfl (hb hby at_94) _ ?_
    show Steps p.tables e below (T30.setTop (mkF m 96 #[.val (.int p0), .val (.int p1), .val (.int p2), .unset, .unset, .unset, .unset, .unset, .unset, .unset, .unset, .unset, .unset] [(.int (65008 : Int32)), (.int (14 : Int32)), (.ref b2), (.ref b2)])) _
    exact k
  obtain ⟨cl32, Ar32, hin32, -⟩ := V30.in (j := (14 : Int32)) ⟨by decide, by decide⟩
  obtain ⟨T32, h32, X32, e32, W32, st32⟩ := stI Y30 hx hZ e30 Ar32 (j := (14 : Int32)) hin32 (g := (mkF m 96 #[.val (.int p0), .val (.int p1), .val (.int p2), .unset, .unset, .unset, .unset, .unset, .unset, .unset, .unset, .unset, .unset] [(.int (65008 : Int32)), (.int (14 : Int32)), (.ref b2), (.ref b2)])) rfl rfl (hb hby at_96)
  have N32 := Fr.snoc X32 N30 ge2
  have K32 : Keep h0 h32 [] := K30.wr W32 (Or.inr sz2)
  obtain ⟨M32, Y32, N32⟩ : ∃ M, Stand p l e room_1 s m #[(.int p0), (.int p1), (.int p2)] below meth c T32 M 1 16 ∧ Fr n0 M := ⟨_, X32, N32⟩
  have V32 : JV Value.int Z h32 b2 .int (16 : Int32) (updF g30 14 (65008 : Int32)) := V30.set W32
  have pre32 : Lead p e below G (T32.setTop (mkF m 97 #[.val (.int p0), .val (.int p1), .val (.int p2), .unset, .unset, .unset, .unset, .unset, .unset, .unset, .unset, .unset, .unset] [(.ref b2)])) := fun t k => pre31 t (st32 _ k)
  have pre33 : Lead p e below G (T32.setTop (mkF m 102 #[.val (.int p0), .val (.int p1), .val (.int p2), .unset, .unset, .unset, .unset, .unset, .unset, .unset, .unset, .unset, .unset] [(.int (65536 : Int32)), (.int (15 : Int32)), (.ref b2), (.ref b2)])) := fun t k => by
    refine pre32 t ?_
    show Steps p.tables e below (T32.setTop (mkF m 97 #[.val (.int p0), .val (.int p1), .val (.int p2), .unset, .unset, .unset, .unset, .unset, .unset, .unset, .unset, .unset, .unset] [(.ref b2)])) _
    refine XS.dup Y32.here hx rfl (hb hby at_97) rfl rfl ?_
    show Steps p.tables e below (T32.setTop (mkF m 98 #[.val (.int p0), .val (.int p1), .val (.int p2), .unset, .unset, .unset, .unset, .unset, .unset, .unset, .unset, .unset, .unset] [(.ref b2), (.ref b2)])) _
    refine XS.bipush Y32.here hx rfl (hb hby at_98) ?_
    show Steps p.tables e below (T32.setTop (mkF m 100 #[.val (.int p0), .val (.int p1), .val (.int p2), .unset, .unset, .unset, .unset, .unset, .unset, .unset, .unset, .unset, .unset] [(.int (15 : Int32)), (.ref b2), (.ref b2)])) _
    refine Y32.ldcInt hx hown (mvT hZ (hw _ (List.mem_of_getElem? (i := 3) rfl))) (g := (mkF m 100 #[.val (.int p0), .val (.int p1), .val (.int p2), .unset, .unset, .unset, .unset, .unset, .unset, .unset, .unset, .unset, .unset] [(.int (15 : Int32)), (.ref b2), (.ref b2)])) rfl (hb hby at_100) _ ?_
    show Steps p.tables e below (T32.setTop (mkF m 102 #[.val (.int p0), .val (.int p1), .val (.int p2), .unset, .unset, .unset, .unset, .unset, .unset, .unset, .unset, .unset, .unset] [(.int (65536 : Int32)), (.int (15 : Int32)), (.ref b2), (.ref b2)])) _
    exact k
  obtain ⟨cl34, Ar34, hin34, -⟩ := V32.in (j := (15 : Int32)) ⟨by decide, by decide⟩
  obtain ⟨T34, h34, X34, e34, W34, st34⟩ := stI Y32 hx hZ e32 Ar34 (j := (15 : Int32)) hin34 (g := (mkF m 102 #[.val (.int p0), .val (.int p1), .val (.int p2), .unset, .unset, .unset, .unset, .unset, .unset, .unset, .unset, .unset, .unset] [(.int (65536 : Int32)), (.int (15 : Int32)), (.ref b2), (.ref b2)])) rfl rfl (hb hby at_102)
  have N34 := Fr.snoc X34 N32 ge2
  have K34 : Keep h0 h34 [] := K32.wr W34 (Or.inr sz2)
  obtain ⟨M34, Y34, N34⟩ : ∃ M, Stand p l e room_1 s m #[(.int p0), (.int p1), (.int p2)] below meth c T34 M 1 16 ∧ Fr n0 M := ⟨_, X34, N34⟩
  have V34 : JV Value.int Z h34 b2 .int (16 : Int32) (updF (updF g30 14 (65008 : Int32)) 15 (65536 : Int32)) := V32.set W34
  have pre34 : Lead p e below G (T34.setTop (mkF m 103 #[.val (.int p0), .val (.int p1), .val (.int p2), .unset, .unset, .unset, .unset, .unset, .unset, .unset, .unset, .unset, .unset] [(.ref b2)])) := fun t k => pre33 t (st34 _ k)
  have pre35 : Lead p e below G (T34.setTop (mkF m 106 #[.val (.int p0), .val (.int p1), .val (.int p2), .val (.ref b2), .unset, .unset, .unset, .unset, .unset, .unset, .unset, .unset, .unset] [(.int (16 : Int32))])) := fun t k => by
    refine pre34 t ?_
    show Steps p.tables e below (T34.setTop (mkF m 103 #[.val (.int p0), .val (.int p1), .val (.int p2), .unset, .unset, .unset, .unset, .unset, .unset, .unset, .unset, .unset, .unset] [(.ref b2)])) _
    refine XS.astoreN Y34.here hx rfl (hb hby at_103) rfl rfl (l' := #[.val (.int p0), .val (.int p1), .val (.int p2), .val (.ref b2), .unset, .unset, .unset, .unset, .unset, .unset, .unset, .unset, .unset]) rfl ?_
    show Steps p.tables e below (T34.setTop (mkF m 104 #[.val (.int p0), .val (.int p1), .val (.int p2), .val (.ref b2), .unset, .unset, .unset, .unset, .unset, .unset, .unset, .unset, .unset] [])) _
    refine XS.bipush Y34.here hx rfl (hb hby at_104) ?_
    show Steps p.tables e below (T34.setTop (mkF m 106 #[.val (.int p0), .val (.int p1), .val (.int p2), .val (.ref b2), .unset, .unset, .unset, .unset, .unset, .unset, .unset, .unset, .unset] [(.int (16 : Int32))])) _
    exact k
  obtain ⟨T36, h36, k36, X36, e36, E36, A36, st36⟩ := newP Y34 hx hZ (hw _ (List.mem_of_getElem? (i := 0) rfl)) e34 (g := (mkF m 106 #[.val (.int p0), .val (.int p1), .val (.int p2), .val (.ref b2), .unset, .unset, .unset, .unset, .unset, .unset, .unset, .unset, .unset] [(.int (16 : Int32))])) rfl (hb hby at_106) rfl (by decide) (cap := 16) (by decide) (by decide) (by decide) (by decide)
  obtain ⟨b36, g36⟩ : ∃ z, z = h34.size := ⟨_, rfl⟩
  rw [← g36] at A36 st36
  have ne36_b2 : b2 ≠ b36 := Nat.ne_of_lt (Nat.lt_of_lt_of_le V34.lt (Nat.le_of_eq g36.symm))
  have sz36 : h0.size ≤ b36 := Nat.le_trans K34.1 (Nat.le_of_eq g36.symm)
  have ge36 : n0 ≤ b36 := Nat.le_trans Z0 sz36
  have K36 : Keep h0 h36 [] := K34.ext E36
  have V36 : JV Value.int Z h36 b36 .int (16 : Int32) (fun _ => (0 : Int32)) := JV.new A36 (by decide) _ rfl
  have pre36 : Lead p e below G (T36.setTop (mkF m 108 #[.val (.int p0), .val (.int p1), .val (.int p2), .val (.ref b2), .unset, .unset, .unset, .unset, .unset, .unset, .unset, .unset, .unset] [(.ref b36)])) := fun t k => pre35 t (st36 _ k)
  have pre37 : Lead p e below G (T36.setTop (mkF m 112 #[.val (.int p0), .val (.int p1), .val (.int p2), .val (.ref b2), .unset, .unset, .unset, .unset, .unset, .unset, .unset, .unset, .unset] [(.int (122 : Int32)), (.int (0 : Int32)), (.ref b36), (.ref b36)])) := fun t k => by
    refine pre36 t ?_
    show Steps p.tables e below (T36.setTop (mkF m 108 #[.val (.int p0), .val (.int p1), .val (.int p2), .val (.ref b2), .unset, .unset, .unset, .unset, .unset, .unset, .unset, .unset, .unset] [(.ref b36)])) _
    refine XS.dup X36.here hx rfl (hb hby at_108) rfl rfl ?_
    show Steps p.tables e below (T36.setTop (mkF m 109 #[.val (.int p0), .val (.int p1), .val (.int p2), .val (.ref b2), .unset, .unset, .unset, .unset, .unset, .unset, .unset, .unset, .unset] [(.ref b36), (.ref b36)])) _
    refine XS.iconst X36.here hx rfl (hb hby at_109) ?_
    show Steps p.tables e below (T36.setTop (mkF m 110 #[.val (.int p0), .val (.int p1), .val (.int p2), .val (.ref b2), .unset, .unset, .unset, .unset, .unset, .unset, .unset, .unset, .unset] [(.int (0 : Int32)), (.ref b36), (.ref b36)])) _
    refine XS.bipush X36.here hx rfl (hb hby at_110) ?_
    show Steps p.tables e below (T36.setTop (mkF m 112 #[.val (.int p0), .val (.int p1), .val (.int p2), .val (.ref b2), .unset, .unset, .unset, .unset, .unset, .unset, .unset, .unset, .unset] [(.int (122 : Int32)), (.int (0 : Int32)), (.ref b36), (.ref b36)])) _
    exact k
  obtain ⟨cl38, Ar38, hin38, -⟩ := V36.in (j := (0 : Int32)) ⟨by decide, by decide⟩
  obtain ⟨T38, h38, X38, e38, W38, st38⟩ := stI X36 hx hZ e36 Ar38 (j := (0 : Int32)) hin38 (g := (mkF m 112 #[.val (.int p0), .val (.int p1), .val (.int p2), .val (.ref b2), .unset, .unset, .unset, .unset, .unset, .unset, .unset, .unset, .unset] [(.int (122 : Int32)), (.int (0 : Int32)), (.ref b36), (.ref b36)])) rfl rfl (hb hby at_112)
  have N38 := Fr.snoc X38 N34 ge36
  have K38 : Keep h0 h38 [] := K36.wr W38 (Or.inr sz36)
  obtain ⟨M38, Y38, N38⟩ : ∃ M, Stand p l e room_1 s m #[(.int p0), (.int p1), (.int p2)] below meth c T38 M 2 32 ∧ Fr n0 M := ⟨_, X38, N38⟩
  have V38 : JV Value.int Z h38 b36 .int (16 : Int32) (updF (fun _ => (0 : Int32)) 0 (122 : Int32)) := V36.set W38
  have pre38 : Lead p e below G (T38.setTop (mkF m 113 #[.val (.int p0), .val (.int p1), .val (.int p2), .val (.ref b2), .unset, .unset, .unset, .unset, .unset, .unset, .unset, .unset, .unset] [(.ref b36)])) := fun t k => pre37 t (st38 _ k)
  have pre39 : Lead p e below G (T38.setTop (mkF m 117 #[.val (.int p0), .val (.int p1), .val (.int p2), .val (.ref b2), .unset, .unset, .unset, .unset, .unset, .unset, .unset, .unset, .unset] [(.int (90 : Int32)), (.int (1 : Int32)), (.ref b36), (.ref b36)])) := fun t k => by
    refine pre38 t ?_
    show Steps p.tables e below (T38.setTop (mkF m 113 #[.val (.int p0), .val (.int p1), .val (.int p2), .val (.ref b2), .unset, .unset, .unset, .unset, .unset, .unset, .unset, .unset, .unset] [(.ref b36)])) _
    refine XS.dup Y38.here hx rfl (hb hby at_113) rfl rfl ?_
    show Steps p.tables e below (T38.setTop (mkF m 114 #[.val (.int p0), .val (.int p1), .val (.int p2), .val (.ref b2), .unset, .unset, .unset, .unset, .unset, .unset, .unset, .unset, .unset] [(.ref b36), (.ref b36)])) _
    refine XS.iconst Y38.here hx rfl (hb hby at_114) ?_
    show Steps p.tables e below (T38.setTop (mkF m 115 #[.val (.int p0), .val (.int p1), .val (.int p2), .val (.ref b2), .unset, .unset, .unset, .unset, .unset, .unset, .unset, .unset, .unset] [(.int (1 : Int32)), (.ref b36), (.ref b36)])) _
    refine XS.bipush Y38.here hx rfl (hb hby at_115) ?_
    show Steps p.tables e below (T38.setTop (mkF m 117 #[.val (.int p0), .val (.int p1), .val (.int p2), .val (.ref b2), .unset, .unset, .unset, .unset, .unset, .unset, .unset, .unset, .unset] [(.int (90 : Int32)), (.int (1 : Int32)), (.ref b36), (.ref b36)])) _
    exact k
  obtain ⟨cl40, Ar40, hin40, -⟩ := V38.in (j := (1 : Int32)) ⟨by decide, by decide⟩
  obtain ⟨T40, h40, X40, e40, W40, st40⟩ := stI Y38 hx hZ e38 Ar40 (j := (1 : Int32)) hin40 (g := (mkF m 117 #[.val (.int p0), .val (.int p1), .val (.int p2), .val (.ref b2), .unset, .unset, .unset, .unset, .unset, .unset, .unset, .unset, .unset] [(.int (90 : Int32)), (.int (1 : Int32)), (.ref b36), (.ref b36)])) rfl rfl (hb hby at_117)
  have N40 := Fr.snoc X40 N38 ge36
  have K40 : Keep h0 h40 [] := K38.wr W40 (Or.inr sz36)
  obtain ⟨M40, Y40, N40⟩ : ∃ M, Stand p l e room_1 s m #[(.int p0), (.int p1), (.int p2)] below meth c T40 M 2 32 ∧ Fr n0 M := ⟨_, X40, N40⟩
  obtain ⟨g40, hg40⟩ : ∃ z, z = (updF (updF (fun _ => (0 : Int32)) 0 (122 : Int32)) 1 (90 : Int32)) := ⟨_, rfl⟩
  have V40 : JV Value.int Z h40 b36 .int (16 : Int32) g40 := by rw [hg40]; exact V38.set W40
  have pre40 : Lead p e below G (T40.setTop (mkF m 118 #[.val (.int p0), .val (.int p1), .val (.int p2), .val (.ref b2), .unset, .unset, .unset, .unset, .unset, .unset, .unset, .unset, .unset] [(.ref b36)])) := fun t k => pre39 t (st40 _ k)
  have pre41 : Lead p e below G (T40.setTop (mkF m 122 #[.val (.int p0), .val (.int p1), .val (.int p2), .val (.ref b2), .unset, .unset, .unset, .unset, .unset, .unset, .unset, .unset, .unset] [(.int (95 : Int32)), (.int (2 : Int32)), (.ref b36), (.ref b36)])) := fun t k => by
    refine pre40 t ?_
    show Steps p.tables e below (T40.setTop (mkF m 118 #[.val (.int p0), .val (.int p1), .val (.int p2), .val (.ref b2), .unset, .unset, .unset, .unset, .unset, .unset, .unset, .unset, .unset] [(.ref b36)])) _
    refine XS.dup Y40.here hx rfl (hb hby at_118) rfl rfl ?_
    show Steps p.tables e below (T40.setTop (mkF m 119 #[.val (.int p0), .val (.int p1), .val (.int p2), .val (.ref b2), .unset, .unset, .unset, .unset, .unset, .unset, .unset, .unset, .unset] [(.ref b36), (.ref b36)])) _
    refine XS.iconst Y40.here hx rfl (hb hby at_119) ?_
    show Steps p.tables e below (T40.setTop (mkF m 120 #[.val (.int p0), .val (.int p1), .val (.int p2), .val (.ref b2), .unset, .unset, .unset, .unset, .unset, .unset, .unset, .unset, .unset] [(.int (2 : Int32)), (.ref b36), (.ref b36)])) _
    refine XS.bipush Y40.here hx rfl (hb hby at_120) ?_
    show Steps p.tables e below (T40.setTop (mkF m 122 #[.val (.int p0), .val (.int p1), .val (.int p2), .val (.ref b2), .unset, .unset, .unset, .unset, .unset, .unset, .unset, .unset, .unset] [(.int (95 : Int32)), (.int (2 : Int32)), (.ref b36), (.ref b36)])) _
    exact k
  obtain ⟨cl42, Ar42, hin42, -⟩ := V40.in (j := (2 : Int32)) ⟨by decide, by decide⟩
  obtain ⟨T42, h42, X42, e42, W42, st42⟩ := stI Y40 hx hZ e40 Ar42 (j := (2 : Int32)) hin42 (g := (mkF m 122 #[.val (.int p0), .val (.int p1), .val (.int p2), .val (.ref b2), .unset, .unset, .unset, .unset, .unset, .unset, .unset, .unset, .unset] [(.int (95 : Int32)), (.int (2 : Int32)), (.ref b36), (.ref b36)])) rfl rfl (hb hby at_122)
  have N42 := Fr.snoc X42 N40 ge36
  have K42 : Keep h0 h42 [] := K40.wr W42 (Or.inr sz36)
  obtain ⟨M42, Y42, N42⟩ : ∃ M, Stand p l e room_1 s m #[(.int p0), (.int p1), (.int p2)] below meth c T42 M 2 32 ∧ Fr n0 M := ⟨_, X42, N42⟩
  have V42 : JV Value.int Z h42 b36 .int (16 : Int32) (updF g40 2 (95 : Int32)) := V40.set W42
  have pre42 : Lead p e below G (T42.setTop (mkF m 123 #[.val (.int p0), .val (.int p1), .val (.int p2), .val (.ref b2), .unset, .unset, .unset, .unset, .unset, .unset, .unset, .unset, .unset] [(.ref b36)])) := fun t k => pre41 t (st42 _ k)
  have pre43 : Lead p e below G (T42.setTop (mkF m 127 #[.val (.int p0), .val (.int p1), .val (.int p2), .val (.ref b2), .unset, .unset, .unset, .unset, .unset, .unset, .unset, .unset, .unset] [(.int (58 : Int32)), (.int (3 : Int32)), (.ref b36), (.ref b36)])) := fun t k => by
    refine pre42 t ?_
    show Steps p.tables e below (T42.setTop (mkF m 123 #[.val (.int p0), .val (.int p1), .val (.int p2), .val (.ref b2), .unset, .unset, .unset, .unset, .unset, .unset, .unset, .unset, .unset] [(.ref b36)])) _
    refine XS.dup Y42.here hx rfl (hb hby at_123) rfl rfl ?_
    show Steps p.tables e below (T42.setTop (mkF m 124 #[.val (.int p0), .val (.int p1), .val (.int p2), .val (.ref b2), .unset, .unset, .unset, .unset, .unset, .unset, .unset, .unset, .unset] [(.ref b36), (.ref b36)])) _
    refine XS.iconst Y42.here hx rfl (hb hby at_124) ?_
    show Steps p.tables e below (T42.setTop (mkF m 125 #[.val (.int p0), .val (.int p1), .val (.int p2), .val (.ref b2), .unset, .unset, .unset, .unset, .unset, .unset, .unset, .unset, .unset] [(.int (3 : Int32)), (.ref b36), (.ref b36)])) _
    refine XS.bipush Y42.here hx rfl (hb hby at_125) ?_
    show Steps p.tables e below (T42.setTop (mkF m 127 #[.val (.int p0), .val (.int p1), .val (.int p2), .val (.ref b2), .unset, .unset, .unset, .unset, .unset, .unset, .unset, .unset, .unset] [(.int (58 : Int32)), (.int (3 : Int32)), (.ref b36), (.ref b36)])) _
    exact k
  obtain ⟨cl44, Ar44, hin44, -⟩ := V42.in (j := (3 : Int32)) ⟨by decide, by decide⟩
  obtain ⟨T44, h44, X44, e44, W44, st44⟩ := stI Y42 hx hZ e42 Ar44 (j := (3 : Int32)) hin44 (g := (mkF m 127 #[.val (.int p0), .val (.int p1), .val (.int p2), .val (.ref b2), .unset, .unset, .unset, .unset, .unset, .unset, .unset, .unset, .unset] [(.int (58 : Int32)), (.int (3 : Int32)), (.ref b36), (.ref b36)])) rfl rfl (hb hby at_127)
  have N44 := Fr.snoc X44 N42 ge36
  have K44 : Keep h0 h44 [] := K42.wr W44 (Or.inr sz36)
  obtain ⟨M44, Y44, N44⟩ : ∃ M, Stand p l e room_1 s m #[(.int p0), (.int p1), (.int p2)] below meth c T44 M 2 32 ∧ Fr n0 M := ⟨_, X44, N44⟩
  have V44 : JV Value.int Z h44 b36 .int (16 : Int32) (updF (updF g40 2 (95 : Int32)) 3 (58 : Int32)) := V42.set W44
  have pre44 : Lead p e below G (T44.setTop (mkF m 128 #[.val (.int p0), .val (.int p1), .val (.int p2), .val (.ref b2), .unset, .unset, .unset, .unset, .unset, .unset, .unset, .unset, .unset] [(.ref b36)])) := fun t k => pre43 t (st44 _ k)
  have pre45 : Lead p e below G (T44.setTop (mkF m 133 #[.val (.int p0), .val (.int p1), .val (.int p2), .val (.ref b2), .unset, .unset, .unset, .unset, .unset, .unset, .unset, .unset, .unset] [(.int (214 : Int32)), (.int (4 : Int32)), (.ref b36), (.ref b36)])) := fun t k => by
    refine pre44 t ?_
    show Steps p.tables e below (T44.setTop (mkF m 128 #[.val (.int p0), .val (.int p1), .val (.int p2), .val (.ref b2), .unset, .unset, .unset, .unset, .unset, .unset, .unset, .unset, .unset] [(.ref b36)])) _
    refine XS.dup Y44.here hx rfl (hb hby at_128) rfl rfl ?_
    show Steps p.tables e below (T44.setTop (mkF m 129 #[.val (.int p0), .val (.int p1), .val (.int p2), .val (.ref b2), .unset, .unset, .unset, .unset, .unset, .unset, .unset, .unset, .unset] [(.ref b36), (.ref b36)])) _
    refine XS.iconst Y44.here hx rfl (hb hby at_129) ?_
    show Steps p.tables e below (T44.setTop (mkF m 130 #[.val (.int p0), .val (.int p1), .val (.int p2), .val (.ref b2), .unset, .unset, .unset, .unset, .unset, .unset, .unset, .unset, .unset] [(.int (4 : Int32)), (.ref b36), (.ref b36)])) _
    refine XS.sipush Y44.here hx rfl (hb hby at_130) ?_
    show Steps p.tables e below (T44.setTop (mkF m 133 #[.val (.int p0), .val (.int p1), .val (.int p2), .val (.ref b2), .unset, .unset, .unset, .unset, .unset, .unset, .unset, .unset, .unset] [(.int (214 : Int32)), (.int (4 : Int32)), (.ref b36), (.ref b36)])) _
    exact k
  obtain ⟨cl46, Ar46, hin46, -⟩ := V44.in (j := (4 : Int32)) ⟨by decide, by decide⟩
  obtain ⟨T46, h46, X46, e46, W46, st46⟩ := stI Y44 hx hZ e44 Ar46 (j := (4 : Int32)) hin46 (g := (mkF m 133 #[.val (.int p0), .val (.int p1), .val (.int p2), .val (.ref b2), .unset, .unset, .unset, .unset, .unset, .unset, .unset, .unset, .unset] [(.int (214 : Int32)), (.int (4 : Int32)), (.ref b36), (.ref b36)])) rfl rfl (hb hby at_133)
  have N46 := Fr.snoc X46 N44 ge36
  have K46 : Keep h0 h46 [] := K44.wr W46 (Or.inr sz36)
  obtain ⟨M46, Y46, N46⟩ : ∃ M, Stand p l e room_1 s m #[(.int p0), (.int p1), (.int p2)] below meth c T46 M 2 32 ∧ Fr n0 M := ⟨_, X46, N46⟩
  obtain ⟨g46, hg46⟩ : ∃ z, z = (updF (updF (updF g40 2 (95 : Int32)) 3 (58 : Int32)) 4 (214 : Int32)) := ⟨_, rfl⟩
  have V46 : JV Value.int Z h46 b36 .int (16 : Int32) g46 := by rw [hg46]; exact V44.set W46
  have pre46 : Lead p e below G (T46.setTop (mkF m 134 #[.val (.int p0), .val (.int p1), .val (.int p2), .val (.ref b2), .unset, .unset, .unset, .unset, .unset, .unset, .unset, .unset, .unset] [(.ref b36)])) := fun t k => pre45 t (st46 _ k)
  have pre47 : Lead p e below G (T46.setTop (mkF m 139 #[.val (.int p0), .val (.int p1), .val (.int p2), .val (.ref b2), .unset, .unset, .unset, .unset, .unset, .unset, .unset, .unset, .unset] [(.int (246 : Int32)), (.int (5 : Int32)), (.ref b36), (.ref b36)])) := fun t k => by
    refine pre46 t ?_
    show Steps p.tables e below (T46.setTop (mkF m 134 #[.val (.int p0), .val (.int p1), .val (.int p2), .val (.ref b2), .unset, .unset, .unset, .unset, .unset, .unset, .unset, .unset, .unset] [(.ref b36)])) _
    refine XS.dup Y46.here hx rfl (hb hby at_134) rfl rfl ?_
    show Steps p.tables e below (T46.setTop (mkF m 135 #[.val (.int p0), .val (.int p1), .val (.int p2), .val (.ref b2), .unset, .unset, .unset, .unset, .unset, .unset, .unset, .unset, .unset] [(.ref b36), (.ref b36)])) _
    refine XS.iconst Y46.here hx rfl (hb hby at_135) ?_
    show Steps p.tables e below (T46.setTop (mkF m 136 #[.val (.int p0), .val (.int p1), .val (.int p2), .val (.ref b2), .unset, .unset, .unset, .unset, .unset, .unset, .unset, .unset, .unset] [(.int (5 : Int32)), (.ref b36), (.ref b36)])) _
    refine XS.sipush Y46.here hx rfl (hb hby at_136) ?_
    show Steps p.tables e below (T46.setTop (mkF m 139 #[.val (.int p0), .val (.int p1), .val (.int p2), .val (.ref b2), .unset, .unset, .unset, .unset, .unset, .unset, .unset, .unset, .unset] [(.int (246 : Int32)), (.int (5 : Int32)), (.ref b36), (.ref b36)])) _
    exact k
  obtain ⟨cl48, Ar48, hin48, -⟩ := V46.in (j := (5 : Int32)) ⟨by decide, by decide⟩
  obtain ⟨T48, h48, X48, e48, W48, st48⟩ := stI Y46 hx hZ e46 Ar48 (j := (5 : Int32)) hin48 (g := (mkF m 139 #[.val (.int p0), .val (.int p1), .val (.int p2), .val (.ref b2), .unset, .unset, .unset, .unset, .unset, .unset, .unset, .unset, .unset] [(.int (246 : Int32)), (.int (5 : Int32)), (.ref b36), (.ref b36)])) rfl rfl (hb hby at_139)
  have N48 := Fr.snoc X48 N46 ge36
  have K48 : Keep h0 h48 [] := K46.wr W48 (Or.inr sz36)
  obtain ⟨M48, Y48, N48⟩ : ∃ M, Stand p l e room_1 s m #[(.int p0), (.int p1), (.int p2)] below meth c T48 M 2 32 ∧ Fr n0 M := ⟨_, X48, N48⟩
  have V48 : JV Value.int Z h48 b36 .int (16 : Int32) (updF g46 5 (246 : Int32)) := V46.set W48
  have pre48 : Lead p e below G (T48.setTop (mkF m 140 #[.val (.int p0), .val (.int p1), .val (.int p2), .val (.ref b2), .unset, .unset, .unset, .unset, .unset, .unset, .unset, .unset, .unset] [(.ref b36)])) := fun t k => pre47 t (st48 _ k)
  have pre49 : Lead p e below G (T48.setTop (mkF m 146 #[.val (.int p0), .val (.int p1), .val (.int p2), .val (.ref b2), .unset, .unset, .unset, .unset, .unset, .unset, .unset, .unset, .unset] [(.int (767 : Int32)), (.int (6 : Int32)), (.ref b36), (.ref b36)])) := fun t k => by
    refine pre48 t ?_
    show Steps p.tables e below (T48.setTop (mkF m 140 #[.val (.int p0), .val (.int p1), .val (.int p2), .val (.ref b2), .unset, .unset, .unset, .unset, .unset, .unset, .unset, .unset, .unset] [(.ref b36)])) _
    refine XS.dup Y48.here hx rfl (hb hby at_140) rfl rfl ?_
    show Steps p.tables e below (T48.setTop (mkF m 141 #[.val (.int p0), .val (.int p1), .val (.int p2), .val (.ref b2), .unset, .unset, .unset, .unset, .unset, .unset, .unset, .unset, .unset] [(.ref b36), (.ref b36)])) _
    refine XS.bipush Y48.here hx rfl (hb hby at_141) ?_
    show Steps p.tables e below (T48.setTop (mkF m 143 #[.val (.int p0), .val (.int p1), .val (.int p2), .val (.ref b2), .unset, .unset, .unset, .unset, .unset, .unset, .unset, .unset, .unset] [(.int (6 : Int32)), (.ref b36), (.ref b36)])) _
    refine XS.sipush Y48.here hx rfl (hb hby at_143) ?_
    show Steps p.tables e below (T48.setTop (mkF m 146 #[.val (.int p0), .val (.int p1), .val (.int p2), .val (.ref b2), .unset, .unset, .unset, .unset, .unset, .unset, .unset, .unset, .unset] [(.int (767 : Int32)), (.int (6 : Int32)), (.ref b36), (.ref b36)])) _
    exact k
  obtain ⟨cl50, Ar50, hin50, -⟩ := V48.in (j := (6 : Int32)) ⟨by decide, by decide⟩
  obtain ⟨T50, h50, X50, e50, W50, st50⟩ := stI Y48 hx hZ e48 Ar50 (j := (6 : Int32)) hin50 (g := (mkF m 146 #[.val (.int p0), .val (.int p1), .val (.int p2), .val (.ref b2), .unset, .unset, .unset, .unset, .unset, .unset, .unset, .unset, .unset] [(.int (767 : Int32)), (.int (6 : Int32)), (.ref b36), (.ref b36)])) rfl rfl (hb hby at_146)
  have N50 := Fr.snoc X50 N48 ge36
  have K50 : Keep h0 h50 [] := K48.wr W50 (Or.inr sz36)
  obtain ⟨M50, Y50, N50⟩ : ∃ M, Stand p l e room_1 s m #[(.int p0), (.int p1), (.int p2)] below meth c T50 M 2 32 ∧ Fr n0 M := ⟨_, X50, N50⟩
  have V50 : JV Value.int Z h50 b36 .int (16 : Int32) (updF (updF g46 5 (246 : Int32)) 6 (767 : Int32)) := V48.set W50
  have pre50 : Lead p e below G (T50.setTop (mkF m 147 #[.val (.int p0), .val (.int p1), .val (.int p2), .val (.ref b2), .unset, .unset, .unset, .unset, .unset, .unset, .unset, .unset, .unset] [(.ref b36)])) := fun t k => pre49 t (st50 _ k)
  have pre51 : Lead p e below G (T50.setTop (mkF m 153 #[.val (.int p0), .val (.int p1), .val (.int p2), .val (.ref b2), .unset, .unset, .unset, .unset, .unset, .unset, .unset, .unset, .unset] [(.int (893 : Int32)), (.int (7 : Int32)), (.ref b36), (.ref b36)])) := fun t k => by
    refine pre50 t ?_
    show Steps p.tables e below (T50.setTop (mkF m 147 #[.val (.int p0), .val (.int p1), .val (.int p2), .val (.ref b2), .unset, .unset, .unset, .unset, .unset, .unset, .unset, .unset, .unset] [(.ref b36)])) _
    refine XS.dup Y50.here hx rfl (hb hby at_147) rfl rfl ?_
    show Steps p.tables e below (T50.setTop (mkF m 148 #[.val (.int p0), .val (.int p1), .val (.int p2), .val (.ref b2), .unset, .unset, .unset, .unset, .unset, .unset, .unset, .unset, .unset] [(.ref b36), (.ref b36)])) _
    refine XS.bipush Y50.here hx rfl (hb hby at_148) ?_
    show Steps p.tables e below (T50.setTop (mkF m 150 #[.val (.int p0), .val (.int p1), .val (.int p2), .val (.ref b2), .unset, .unset, .unset, .unset, .unset, .unset, .unset, .unset, .unset] [(.int (7 : Int32)), (.ref b36), (.ref b36)])) _
    refine XS.sipush Y50.here hx rfl (hb hby at_150) ?_
    show Steps p.tables e below (T50.setTop (mkF m 153 #[.val (.int p0), .val (.int p1), .val (.int p2), .val (.ref b2), .unset, .unset, .unset, .unset, .unset, .unset, .unset, .unset, .unset] [(.int (893 : Int32)), (.int (7 : Int32)), (.ref b36), (.ref b36)])) _
    exact k
  obtain ⟨cl52, Ar52, hin52, -⟩ := V50.in (j := (7 : Int32)) ⟨by decide, by decide⟩
  obtain ⟨T52, h52, X52, e52, W52, st52⟩ := stI Y50 hx hZ e50 Ar52 (j := (7 : Int32)) hin52 (g := (mkF m 153 #[.val (.int p0), .val (.int p1), .val (.int p2), .val (.ref b2), .unset, .unset, .unset, .unset, .unset, .unset, .unset, .unset, .unset] [(.int (893 : Int32)), (.int (7 : Int32)), (.ref b36), (.ref b36)])) rfl rfl (hb hby at_153)
  have N52 := Fr.snoc X52 N50 ge36
  have K52 : Keep h0 h52 [] := K50.wr W52 (Or.inr sz36)
  obtain ⟨M52, Y52, N52⟩ : ∃ M, Stand p l e room_1 s m #[(.int p0), (.int p1), (.int p2)] below meth c T52 M 2 32 ∧ Fr n0 M := ⟨_, X52, N52⟩
  obtain ⟨g52, hg52⟩ : ∃ z, z = (updF (updF (updF g46 5 (246 : Int32)) 6 (767 : Int32)) 7 (893 : Int32)) := ⟨_, rfl⟩
  have V52 : JV Value.int Z h52 b36 .int (16 : Int32) g52 := by rw [hg52]; exact V50.set W52
  have pre52 : Lead p e below G (T52.setTop (mkF m 154 #[.val (.int p0), .val (.int p1), .val (.int p2), .val (.ref b2), .unset, .unset, .unset, .unset, .unset, .unset, .unset, .unset, .unset] [(.ref b36)])) := fun t k => pre51 t (st52 _ k)
  have pre53 : Lead p e below G (T52.setTop (mkF m 160 #[.val (.int p0), .val (.int p1), .val (.int p2), .val (.ref b2), .unset, .unset, .unset, .unset, .unset, .unset, .unset, .unset, .unset] [(.int (8191 : Int32)), (.int (8 : Int32)), (.ref b36), (.ref b36)])) := fun t k => by
    refine pre52 t ?_
    show Steps p.tables e below (T52.setTop (mkF m 154 #[.val (.int p0), .val (.int p1), .val (.int p2), .val (.ref b2), .unset, .unset, .unset, .unset, .unset, .unset, .unset, .unset, .unset] [(.ref b36)])) _
    refine XS.dup Y52.here hx rfl (hb hby at_154) rfl rfl ?_
    show Steps p.tables e below (T52.setTop (mkF m 155 #[.val (.int p0), .val (.int p1), .val (.int p2), .val (.ref b2), .unset, .unset, .unset, .unset, .unset, .unset, .unset, .unset, .unset] [(.ref b36), (.ref b36)])) _
    refine XS.bipush Y52.here hx rfl (hb hby at_155) ?_
    show Steps p.tables e below (T52.setTop (mkF m 157 #[.val (.int p0), .val (.int p1), .val (.int p2), .val (.ref b2), .unset, .unset, .unset, .unset, .unset, .unset, .unset, .unset, .unset] [(.int (8 : Int32)), (.ref b36), (.ref b36)])) _
    refine XS.sipush Y52.here hx rfl (hb hby at_157) ?_
    show Steps p.tables e below (T52.setTop (mkF m 160 #[.val (.int p0), .val (.int p1), .val (.int p2), .val (.ref b2), .unset, .unset, .unset, .unset, .unset, .unset, .unset, .unset, .unset] [(.int (8191 : Int32)), (.int (8 : Int32)), (.ref b36), (.ref b36)])) _
    exact k
  obtain ⟨cl54, Ar54, hin54, -⟩ := V52.in (j := (8 : Int32)) ⟨by decide, by decide⟩
  obtain ⟨T54, h54, X54, e54, W54, st54⟩ := stI Y52 hx hZ e52 Ar54 (j := (8 : Int32)) hin54 (g := (mkF m 160 #[.val (.int p0), .val (.int p1), .val (.int p2), .val (.ref b2), .unset, .unset, .unset, .unset, .unset, .unset, .unset, .unset, .unset] [(.int (8191 : Int32)), (.int (8 : Int32)), (.ref b36), (.ref b36)])) rfl rfl (hb hby at_160)
  have N54 := Fr.snoc X54 N52 ge36
  have K54 : Keep h0 h54 [] := K52.wr W54 (Or.inr sz36)
  obtain ⟨M54, Y54, N54⟩ : ∃ M, Stand p l e room_1 s m #[(.int p0), (.int p1), (.int p2)] below meth c T54 M 2 32 ∧ Fr n0 M := ⟨_, X54, N54⟩
  have V54 : JV Value.int Z h54 b36 .int (16 : Int32) (updF g52 8 (8191 : Int32)) := V52.set W54
  have pre54 : Lead p e below G (T54.setTop (mkF m 161 #[.val (.int p0), .val (.int p1), .val (.int p2), .val (.ref b2), .unset, .unset, .unset, .unset, .unset, .unset, .unset, .unset, .unset] [(.ref b36)])) := fun t k => pre53 t (st54 _ k)
  have pre55 : Lead p e below G (T54.setTop (mkF m 167 #[.val (.int p0), .val (.int p1), .val (.int p2), .val (.ref b2), .unset, .unset, .unset, .unset, .unset, .unset, .unset, .unset, .unset] [(.int (8205 : Int32)), (.int (9 : Int32)), (.ref b36), (.ref b36)])) := fun t k => by
    refine pre54 t ?_
    show Steps p.tables e below (T54.setTop (mkF m 161 #[.val (.int p0), .val (.int p1), .val (.int p2), .val (.ref b2), .unset, .unset, .unset, .unset, .unset, .unset, .unset, .unset, .unset] [(.ref b36)])) _
    refine XS.dup Y54.here hx rfl (hb hby at_161) rfl rfl ?_
    show Steps p.tables e below (T54.setTop (mkF m 162 #[.val (.int p0), .val (.int p1), .val (.int p2), .val (.ref b2), .unset, .unset, .unset, .unset, .unset, .unset, .unset, .unset, .unset] [(.ref b36), (.ref b36)])) _
    refine XS.bipush Y54.here hx rfl (hb hby at_162) ?_
    show Steps p.tables e below (T54.setTop (mkF m 164 #[.val (.int p0), .val (.int p1), .val (.int p2), .val (.ref b2), .unset, .unset, .unset, .unset, .unset, .unset, .unset, .unset, .unset] [(.int (9 : Int32)), (.ref b36), (.ref b36)])) _
    refine XS.sipush Y54.here hx rfl (hb hby at_164) ?_
    show Steps p.tables e below (T54.setTop (mkF m 167 #[.val (.int p0), .val (.int p1), .val (.int p2), .val (.ref b2), .unset, .unset, .unset, .unset, .unset, .unset, .unset, .unset, .unset] [(.int (8205 : Int32)), (.int (9 : Int32)), (.ref b36), (.ref b36)])) _
    exact k
  obtain ⟨cl56, Ar56, hin56, -⟩ := V54.in (j := (9 : Int32)) ⟨by decide, by decide⟩
  obtain ⟨T56, h56, X56, e56, W56, st56⟩ := stI Y54 hx hZ e54 Ar56 (j := (9 : Int32)) hin56 (g := (mkF m 167 #[.val (.int p0), .val (.int p1), .val (.int p2), .val (.ref b2), .unset, .unset, .unset, .unset, .unset, .unset, .unset, .unset, .unset] [(.int (8205 : Int32)), (.int (9 : Int32)), (.ref b36), (.ref b36)])) rfl rfl (hb hby at_167)
  have N56 := Fr.snoc X56 N54 ge36
  have K56 : Keep h0 h56 [] := K54.wr W56 (Or.inr sz36)
  obtain ⟨M56, Y56, N56⟩ : ∃ M, Stand p l e room_1 s m #[(.int p0), (.int p1), (.int p2)] below meth c T56 M 2 32 ∧ Fr n0 M := ⟨_, X56, N56⟩
  have V56 : JV Value.int Z h56 b36 .int (16 : Int32) (updF (updF g52 8 (8191 : Int32)) 9 (8205 : Int32)) := V54.set W56
  have pre56 : Lead p e below G (T56.setTop (mkF m 168 #[.val (.int p0), .val (.int p1), .val (.int p2), .val (.ref b2), .unset, .unset, .unset, .unset, .unset, .unset, .unset, .unset, .unset] [(.ref b36)])) := fun t k => pre55 t (st56 _ k)
  have pre57 : Lead p e below G (T56.setTop (mkF m 174 #[.val (.int p0), .val (.int p1), .val (.int p2), .val (.ref b2), .unset, .unset, .unset, .unset, .unset, .unset, .unset, .unset, .unset] [(.int (8591 : Int32)), (.int (10 : Int32)), (.ref b36), (.ref b36)])) := fun t k => by
    refine pre56 t ?_
    show Steps p.tables e below (T56.setTop (mkF m 168 #[.val (.int p0), .val (.int p1), .val (.int p2), .val (.ref b2), .unset, .unset, .unset, .unset, .unset, .unset, .unset, .unset, .unset] [(.ref b36)])) _
    refine XS.dup Y56.here hx rfl (hb hby at_168) rfl rfl ?_
    show Steps p.tables e below (T56.setTop (mkF m 169 #[.val (.int p0), .val (.int p1), .val (.int p2), .val (.ref b2), .unset, .unset, .unset, .unset, .unset, .unset, .unset, .unset, .unset] [(.ref b36), (.ref b36)])) _
    refine XS.bipush Y56.here hx rfl (hb hby at_169) ?_
    show Steps p.tables e below (T56.setTop (mkF m 171 #[.val (.int p0), .val (.int p1), .val (.int p2), .val (.ref b2), .unset, .unset, .unset, .unset, .unset, .unset, .unset, .unset, .unset] [(.int (10 : Int32)), (.ref b36), (.ref b36)])) _
    refine XS.sipush Y56.here hx rfl (hb hby at_171) ?_
    show Steps p.tables e below (T56.setTop (mkF m 174 #[.val (.int p0), .val (.int p1), .val (.int p2), .val (.ref b2), .unset, .unset, .unset, .unset, .unset, .unset, .unset, .unset, .unset] [(.int (8591 : Int32)), (.int (10 : Int32)), (.ref b36), (.ref b36)])) _
    exact k
  obtain ⟨cl58, Ar58, hin58, -⟩ := V56.in (j := (10 : Int32)) ⟨by decide, by decide⟩
  obtain ⟨T58, h58, X58, e58, W58, st58⟩ := stI Y56 hx hZ e56 Ar58 (j := (10 : Int32)) hin58 (g := (mkF m 174 #[.val (.int p0), .val (.int p1), .val (.int p2), .val (.ref b2), .unset, .unset, .unset, .unset, .unset, .unset, .unset, .unset, .unset] [(.int (8591 : Int32)), (.int (10 : Int32)), (.ref b36), (.ref b36)])) rfl rfl (hb hby at_174)
  have N58 := Fr.snoc X58 N56 ge36
  have K58 : Keep h0 h58 [] := K56.wr W58 (Or.inr sz36)
  obtain ⟨M58, Y58, N58⟩ : ∃ M, Stand p l e room_1 s m #[(.int p0), (.int p1), (.int p2)] below meth c T58 M 2 32 ∧ Fr n0 M := ⟨_, X58, N58⟩
  obtain ⟨g58, hg58⟩ : ∃ z, z = (updF (updF (updF g52 8 (8191 : Int32)) 9 (8205 : Int32)) 10 (8591 : Int32)) := ⟨_, rfl⟩
  have V58 : JV Value.int Z h58 b36 .int (16 : Int32) g58 := by rw [hg58]; exact V56.set W58
  have pre58 : Lead p e below G (T58.setTop (mkF m 175 #[.val (.int p0), .val (.int p1), .val (.int p2), .val (.ref b2), .unset, .unset, .unset, .unset, .unset, .unset, .unset, .unset, .unset] [(.ref b36)])) := fun t k => pre57 t (st58 _ k)
  have pre59 : Lead p e below G (T58.setTop (mkF m 181 #[.val (.int p0), .val (.int p1), .val (.int p2), .val (.ref b2), .unset, .unset, .unset, .unset, .unset, .unset, .unset, .unset, .unset] [(.int (12271 : Int32)), (.int (11 : Int32)), (.ref b36), (.ref b36)])) := fun t k => by
    refine pre58 t ?_
    show Steps p.tables e below (T58.setTop (mkF m 175 #[.val (.int p0), .val (.int p1), .val (.int p2), .val (.ref b2), .unset, .unset, .unset, .unset, .unset, .unset, .unset, .unset, .unset] [(.ref b36)])) _
    refine XS.dup Y58.here hx rfl (hb hby at_175) rfl rfl ?_
    show Steps p.tables e below (T58.setTop (mkF m 176 #[.val (.int p0), .val (.int p1), .val (.int p2), .val (.ref b2), .unset, .unset, .unset, .unset, .unset, .unset, .unset, .unset, .unset] [(.ref b36), (.ref b36)])) _
    refine XS.bipush Y58.here hx rfl (hb hby at_176) ?_
    show Steps p.tables e below (T58.setTop (mkF m 178 #[.val (.int p0), .val (.int p1), .val (.int p2), .val (.ref b2), .unset, .unset, .unset, .unset, .unset, .unset, .unset, .unset, .unset] [(.int (11 : Int32)), (.ref b36), (.ref b36)])) _
    refine XS.sipush Y58.here hx rfl (hb hby at_178) ?_
    show Steps p.tables e below (T58.setTop (mkF m 181 #[.val (.int p0), .val (.int p1), .val (.int p2), .val (.ref b2), .unset, .unset, .unset, .unset, .unset, .unset, .unset, .unset, .unset] [(.int (12271 : Int32)), (.int (11 : Int32)), (.ref b36), (.ref b36)])) _
    exact k
  obtain ⟨cl60, Ar60, hin60, -⟩ := V58.in (j := (11 : Int32)) ⟨by decide, by decide⟩
  obtain ⟨T60, h60, X60, e60, W60, st60⟩ := stI Y58 hx hZ e58 Ar60 (j := (11 : Int32)) hin60 (g := (mkF m 181 #[.val (.int p0), .val (.int p1), .val (.int p2), .val (.ref b2), .unset, .unset, .unset, .unset, .unset, .unset, .unset, .unset, .unset] [(.int (12271 : Int32)), (.int (11 : Int32)), (.ref b36), (.ref b36)])) rfl rfl (hb hby at_181)
  have N60 := Fr.snoc X60 N58 ge36
  have K60 : Keep h0 h60 [] := K58.wr W60 (Or.inr sz36)
  obtain ⟨M60, Y60, N60⟩ : ∃ M, Stand p l e room_1 s m #[(.int p0), (.int p1), (.int p2)] below meth c T60 M 2 32 ∧ Fr n0 M := ⟨_, X60, N60⟩
  have V60 : JV Value.int Z h60 b36 .int (16 : Int32) (updF g58 11 (12271 : Int32)) := V58.set W60
  have pre60 : Lead p e below G (T60.setTop (mkF m 182 #[.val (.int p0), .val (.int p1), .val (.int p2), .val (.ref b2), .unset, .unset, .unset, .unset, .unset, .unset, .unset, .unset, .unset] [(.ref b36)])) := fun t k => pre59 t (st60 _ k)
  have pre61 : Lead p e below G (T60.setTop (mkF m 187 #[.val (.int p0), .val (.int p1), .val (.int p2), .val (.ref b2), .unset, .unset, .unset, .unset, .unset, .unset, .unset, .unset, .unset] [(.int (55295 : Int32)), (.int (12 : Int32)), (.ref b36), (.ref b36)])) := fun t k => by
    refine pre60 t ?_
    show Steps p.tables e below (T60.setTop (mkF m 182 #[.val (.int p0), .val (.int p1), .val (.int p2), .val (.ref b2), .unset, .unset, .unset, .unset, .unset, .unset, .unset, .unset, .unset] [(.ref b36)])) _
    refine XS.dup Y60.here hx rfl (hb hby at_182) rfl rfl ?_
    show Steps p.tables e below (T60.setTop (mkF m 183 #[.val (.int p0), .val (.int p1), .val (.int p2), .val (.ref b2), .unset, .unset, .unset, .unset, .unset, .unset, .unset, .unset, .unset] [(.ref b36), (.ref b36)])) _
    refine XS.bipush Y60.here hx rfl (hb hby at_183) ?_
    show Steps p.tables e below (T60.setTop (mkF m 185 #[.val (.int p0), .val (.int p1), .val (.int p2), .val (.ref b2), .unset, .unset, .unset, .unset, .unset, .unset, .unset, .unset, .unset] [(.int (12 : Int32)), (.ref b36), (.ref b36)])) _
    refine Y60.ldcInt hx hown (mvT hZ (hw _ (List.mem_of_getElem? (i := 4) rfl))) (g := (mkF m 185 #[.val (.int p0), .val (.int p1), .val (.int p2), .val (.ref b2), .unset, .unset, .unset, .unset, .unset, .unset, .unset, .unset, .unset] [(.int (12 : Int32)), (.ref b36), (.ref b36)])) rfl (hb hby at_185) _ ?_
    show Steps p.tables e below (T60.setTop (mkF m 187 #[.val (.int p0), .val (.int p1), .val (.int p2), .val (.ref b2), .unset, .unset, .unset, .unset, .unset, .unset, .unset, .unset, .unset] [(.int (55295 : Int32)), (.int (12 : Int32)), (.ref b36), (.ref b36)])) _
    exact k
  obtain ⟨cl62, Ar62, hin62, -⟩ := V60.in (j := (12 : Int32)) ⟨by decide, by decide⟩
  obtain ⟨T62, h62, X62, e62, W62, st62⟩ := stI Y60 hx hZ e60 Ar62 (j := (12 : Int32)) hin62 (g := (mkF m 187 #[.val (.int p0), .val (.int p1), .val (.int p2), .val (.ref b2), .unset, .unset, .unset, .unset, .unset, .unset, .unset, .unset, .unset] [(.int (55295 : Int32)), (.int (12 : Int32)), (.ref b36), (.ref b36)])) rfl rfl (hb hby at_187)
  have N62 := Fr.snoc X62 N60 ge36
  have K62 : Keep h0 h62 [] := K60.wr W62 (Or.inr sz36)
  obtain ⟨M62, Y62, N62⟩ : ∃ M, Stand p l e room_1 s m #[(.int p0), (.int p1), (.int p2)] below meth c T62 M 2 32 ∧ Fr n0 M := ⟨_, X62, N62⟩
  have V62 : JV Value.int Z h62 b36 .int (16 : Int32) (updF (updF g58 11 (12271 : Int32)) 12 (55295 : Int32)) := V60.set W62
  have pre62 : Lead p e below G (T62.setTop (mkF m 188 #[.val (.int p0), .val (.int p1), .val (.int p2), .val (.ref b2), .unset, .unset, .unset, .unset, .unset, .unset, .unset, .unset, .unset] [(.ref b36)])) := fun t k => pre61 t (st62 _ k)
  have pre63 : Lead p e below G (T62.setTop (mkF m 193 #[.val (.int p0), .val (.int p1), .val (.int p2), .val (.ref b2), .unset, .unset, .unset, .unset, .unset, .unset, .unset, .unset, .unset] [(.int (64975 : Int32)), (.int (13 : Int32)), (.ref b36), (.ref b36)])) := fun t k => by
    refine pre62 t ?_
    show Steps p.tables e below (T62.setTop (mkF m 188 #[.val (.int p0), .val (.int p1), .val (.int p2), .val (.ref b2), .unset, .unset, .unset, .unset, .unset, .unset, .unset, .unset, .unset] [(.ref b36)])) _
    refine XS.dup Y62.here hx rfl (hb hby at_188) rfl rfl ?_
    show Steps p.tables e below (T62.setTop (mkF m 189 #[.val (.int p0), .val (.int p1), .val (.int p2), .val (.ref b2), .unset, .unset, .unset, .unset, .unset, .unset, .unset, .unset, .unset] [(.ref b36), (.ref b36)])) _
    refine XS.bipush Y62.here hx rfl (hb hby at_189) ?_
    show Steps p.tables e below (T62.setTop (mkF m 191 #[.val (.int p0), .val (.int p1), .val (.int p2), .val (.ref b2), .unset, .unset, .unset, .unset, .unset, .unset, .unset, .unset, .unset] [(.int (13 : Int32)), (.ref b36), (.ref b36)])) _
    refine Y62.ldcInt hx hown (mvT hZ (hw _ (List.mem_of_getElem? (i := 5) rfl))) (g := (mkF m 191 #[.val (.int p0), .val (.int p1), .val (.int p2), .val (.ref b2), .unset, .unset, .unset, .unset, .unset, .unset, .unset, .unset, .unset] [(.int (13 : Int32)), (.ref b36), (.ref b36)])) rfl (hb hby at_191) _ ?_
    show Steps p.tables e below (T62.setTop (mkF m 193 #[.val (.int p0), .val (.int p1), .val (.int p2), .val (.ref b2), .unset, .unset, .unset, .unset, .unset, .unset, .unset, .unset, .unset] [(.int (64975 : Int32)), (.int (13 : Int32)), (.ref b36), (.ref b36)])) _
    exact k
  obtain ⟨cl64, Ar64, hin64, -⟩ := V62.in (j := (13 : Int32)) ⟨by decide, by decide⟩
  obtain ⟨T64, h64, X64, e64, W64, st64⟩ := stI Y62 hx hZ e62 Ar64 (j := (13 : Int32)) hin64 (g := (mkF m 193 #[.val (.int p0), .val (.int p1), .val (.int p2), .val (.ref b2), .unset, .unset, .unset, .unset, .unset, .unset, .unset, .unset, .unset] [(.int (64975 : Int32)), (.int (13 : Int32)), (.ref b36), (.ref b36)])) rfl rfl (hb hby at_193)
  have N64 := Fr.snoc X64 N62 ge36
  have K64 : Keep h0 h64 [] := K62.wr W64 (Or.inr sz36)
  obtain ⟨M64, Y64, N64⟩ : ∃ M, Stand p l e room_1 s m #[(.int p0), (.int p1), (.int p2)] below meth c T64 M 2 32 ∧ Fr n0 M := ⟨_, X64, N64⟩
  obtain ⟨g64, hg64⟩ : ∃ z, z = (updF (updF (updF g58 11 (12271 : Int32)) 12 (55295 : Int32)) 13 (64975 : Int32)) := ⟨_, rfl⟩
  have V64 : JV Value.int Z h64 b36 .int (16 : Int32) g64 := by rw [hg64]; exact V62.set W64
  have pre64 : Lead p e below G (T64.setTop (mkF m 194 #[.val (.int p0), .val (.int p1), .val (.int p2), .val (.ref b2), .unset, .unset, .unset, .unset, .unset, .unset, .unset, .unset, .unset] [(.ref b36)])) := fun t k => pre63 t (st64 _ k)
  have pre65 : Lead p e below G (T64.setTop (mkF m 199 #[.val (.int p0), .val (.int p1), .val (.int p2), .val (.ref b2), .unset, .unset, .unset, .unset, .unset, .unset, .unset, .unset, .unset] [(.int (65533 : Int32)), (.int (14 : Int32)), (.ref b36), (.ref b36)])) := fun t k => by
    refine pre64 t ?_
    show Steps p.tables e below (T64.setTop (mkF m 194 #[.val (.int p0), .val (.int p1), .val (.int p2), .val (.ref b2), .unset, .unset, .unset, .unset, .unset, .unset, .unset, .unset, .unset] [(.ref b36)])) _
    refine XS.dup Y64.here hx rfl (hb hby at_194) rfl rfl ?_
    show Steps p.tables e below (T64.setTop (mkF m 195 #[.val (.int p0), .val (.int p1), .val (.int p2), .val (.ref b2), .unset, .unset, .unset, .unset, .unset, .unset, .unset, .unset, .unset] [(.ref b36), (.ref b36)])) _
    refine XS.bipush Y64.here hx rfl (hb hby at_195) ?_
    show Steps p.tables e below (T64.setTop (mkF m 197 #[.val (.int p0), .val (.int p1), .val (.int p2), .val (.ref b2), .unset, .unset, .unset, .unset, .unset, .unset, .unset, .unset, .unset] [(.int (14 : Int32)), (.ref b36), (.ref b36)])) _
    refine Y64.ldcInt hx hown (mvT hZ (hw _ (List.mem_of_getElem? (i := 6) rfl))) (g := (mkF m 197 #[.val (.int p0), .val (.int p1), .val (.int p2), .val (.ref b2), .unset, .unset, .unset, .unset, .unset, .unset, .unset, .unset, .unset] [(.int (14 : Int32)), (.ref b36), (.ref b36)])) rfl (hb hby at_197) _ ?_
    show Steps p.tables e below (T64.setTop (mkF m 199 #[.val (.int p0), .val (.int p1), .val (.int p2), .val (.ref b2), .unset, .unset, .unset, .unset, .unset, .unset, .unset, .unset, .unset] [(.int (65533 : Int32)), (.int (14 : Int32)), (.ref b36), (.ref b36)])) _
    exact k
  obtain ⟨cl66, Ar66, hin66, -⟩ := V64.in (j := (14 : Int32)) ⟨by decide, by decide⟩
  obtain ⟨T66, h66, X66, e66, W66, st66⟩ := stI Y64 hx hZ e64 Ar66 (j := (14 : Int32)) hin66 (g := (mkF m 199 #[.val (.int p0), .val (.int p1), .val (.int p2), .val (.ref b2), .unset, .unset, .unset, .unset, .unset, .unset, .unset, .unset, .unset] [(.int (65533 : Int32)), (.int (14 : Int32)), (.ref b36), (.ref b36)])) rfl rfl (hb hby at_199)
  have N66 := Fr.snoc X66 N64 ge36
  have K66 : Keep h0 h66 [] := K64.wr W66 (Or.inr sz36)
  obtain ⟨M66, Y66, N66⟩ : ∃ M, Stand p l e room_1 s m #[(.int p0), (.int p1), (.int p2)] below meth c T66 M 2 32 ∧ Fr n0 M := ⟨_, X66, N66⟩
  have V66 : JV Value.int Z h66 b36 .int (16 : Int32) (updF g64 14 (65533 : Int32)) := V64.set W66
  have pre66 : Lead p e below G (T66.setTop (mkF m 200 #[.val (.int p0), .val (.int p1), .val (.int p2), .val (.ref b2), .unset, .unset, .unset, .unset, .unset, .unset, .unset, .unset, .unset] [(.ref b36)])) := fun t k => pre65 t (st66 _ k)
  have pre67 : Lead p e below G (T66.setTop (mkF m 205 #[.val (.int p0), .val (.int p1), .val (.int p2), .val (.ref b2), .unset, .unset, .unset, .unset, .unset, .unset, .unset, .unset, .unset] [(.int (983039 : Int32)), (.int (15 : Int32)), (.ref b36), (.ref b36)])) := fun t k => by
    refine pre66 t ?_
    show Steps p.tables e below (T66.setTop (mkF m 200 #[.val (.int p0), .val (.int p1), .val (.int p2), .val (.ref b2), .unset, .unset, .unset, .unset, .unset, .unset, .unset, .unset, .unset] [(.ref b36)])) _
    refine XS.dup Y66.here hx rfl (hb hby at_200) rfl rfl ?_
    show Steps p.tables e below (T66.setTop (mkF m 201 #[.val (.int p0), .val (.int p1), .val (.int p2), .val (.ref b2), .unset, .unset, .unset, .unset, .unset, .unset, .unset, .unset, .unset] [(.ref b36), (.ref b36)])) _
    refine XS.bipush Y66.here hx rfl (hb hby at_201) ?_
    show Steps p.tables e below (T66.setTop (mkF m 203 #[.val (.int p0), .val (.int p1), .val (.int p2), .val (.ref b2), .unset, .unset, .unset, .unset, .unset, .unset, .unset, .unset, .unset] [(.int (15 : Int32)), (.ref b36), (.ref b36)])) _
    refine Y66.ldcInt hx hown (mvT hZ (hw _ (List.mem_of_getElem? (i := 7) rfl))) (g := (mkF m 203 #[.val (.int p0), .val (.int p1), .val (.int p2), .val (.ref b2), .unset, .unset, .unset, .unset, .unset, .unset, .unset, .unset, .unset] [(.int (15 : Int32)), (.ref b36), (.ref b36)])) rfl (hb hby at_203) _ ?_
    show Steps p.tables e below (T66.setTop (mkF m 205 #[.val (.int p0), .val (.int p1), .val (.int p2), .val (.ref b2), .unset, .unset, .unset, .unset, .unset, .unset, .unset, .unset, .unset] [(.int (983039 : Int32)), (.int (15 : Int32)), (.ref b36), (.ref b36)])) _
    exact k
  obtain ⟨cl68, Ar68, hin68, -⟩ := V66.in (j := (15 : Int32)) ⟨by decide, by decide⟩
  obtain ⟨T68, h68, X68, e68, W68, st68⟩ := stI Y66 hx hZ e66 Ar68 (j := (15 : Int32)) hin68 (g := (mkF m 205 #[.val (.int p0), .val (.int p1), .val (.int p2), .val (.ref b2), .unset, .unset, .unset, .unset, .unset, .unset, .unset, .unset, .unset] [(.int (983039 : Int32)), (.int (15 : Int32)), (.ref b36), (.ref b36)])) rfl rfl (hb hby at_205)
  have N68 := Fr.snoc X68 N66 ge36
  have K68 : Keep h0 h68 [] := K66.wr W68 (Or.inr sz36)
  obtain ⟨M68, Y68, N68⟩ : ∃ M, Stand p l e room_1 s m #[(.int p0), (.int p1), (.int p2)] below meth c T68 M 2 32 ∧ Fr n0 M := ⟨_, X68, N68⟩
  have V68 : JV Value.int Z h68 b36 .int (16 : Int32) (updF (updF g64 14 (65533 : Int32)) 15 (983039 : Int32)) := V66.set W68
  have pre68 : Lead p e below G (T68.setTop (mkF m 206 #[.val (.int p0), .val (.int p1), .val (.int p2), .val (.ref b2), .unset, .unset, .unset, .unset, .unset, .unset, .unset, .unset, .unset] [(.ref b36)])) := fun t k => pre67 t (st68 _ k)
  have pre69 : Lead p e below G (T68.setTop (mkF m 209 #[.val (.int p0), .val (.int p1), .val (.int p2), .val (.ref b2), .val (.ref b36), .unset, .unset, .unset, .unset, .unset, .unset, .unset, .unset] [(.int p0)])) := fun t k => by
    refine pre68 t ?_
    show Steps p.tables e below (T68.setTop (mkF m 206 #[.val (.int p0), .val (.int p1), .val (.int p2), .val (.ref b2), .unset, .unset, .unset, .unset, .unset, .unset, .unset, .unset, .unset] [(.ref b36)])) _
    refine XS.astore Y68.here hx rfl (hb hby at_206) rfl rfl (l' := #[.val (.int p0), .val (.int p1), .val (.int p2), .val (.ref b2), .val (.ref b36), .unset, .unset, .unset, .unset, .unset, .unset, .unset, .unset]) rfl ?_
    show Steps p.tables e below (T68.setTop (mkF m 208 #[.val (.int p0), .val (.int p1), .val (.int p2), .val (.ref b2), .val (.ref b36), .unset, .unset, .unset, .unset, .unset, .unset, .unset, .unset] [])) _
    refine XS.iloadN Y68.here hx rfl (hb hby at_208) rfl ?_
    show Steps p.tables e below (T68.setTop (mkF m 209 #[.val (.int p0), .val (.int p1), .val (.int p2), .val (.ref b2), .val (.ref b36), .unset, .unset, .unset, .unset, .unset, .unset, .unset, .unset] [(.int p0)])) _
    exact k
  obtain ⟨_, _, ⟨T70, L70, k70, n70⟩, -, X70, ⟨Lc70, hQ70, l70, y70, z70⟩, st70⟩ := Jvm.LawKit.callS Y68 hx (y := (⟨"com/example/processionary/processionary/expressions/Name", "isStartChar", "(I)Z"⟩ : MethodName)) hown (mvT hZ (hw _ (List.mem_of_getElem? (i := 8) rfl))) (mvT hZ (hw _ (List.mem_of_getElem? (i := 9) rfl))) (mvT hZ (hw _ (List.mem_of_getElem? (i := 10) rfl))) (mvT hZ (hw _ (List.mem_of_getElem? (i := 11) rfl))) (by decide) (backOf (W := 0) (rm1 l Z a0 hw [] p0  h68 n0 (Nat.le_trans Z0 K68.1) ) hZ (hw _ (List.mem_of_getElem? (i := 11) rfl)) (hw _ (List.mem_of_getElem? (i := 10) rfl)) (by decide) (by decide)) (g := (mkF m 209 #[.val (.int p0), .val (.int p1), .val (.int p2), .val (.ref b2), .val (.ref b36), .unset, .unset, .unset, .unset, .unset, .unset, .unset, .unset] [(.int p0)])) rfl (by rw [hml]; rfl) (argsL := [(.int p0)]) (rest := []) (lenOf pd__28_I_29_Z rfl) rfl (by show 2 * 0 + _ ≤ _; exact Nat.le_of_eq rfl) (hb hby at_209) (fun _ _ => ⟨rfl, e68, (by decide : 2 + 0 ≤ _), (by decide : 32 + 0 ≤ _)⟩)
  dsimp only [Pt.U, Pt.locs, Pt.cells, Pt.slots] at X70 l70 y70 z70 st70 hQ70
  subst l70 y70 z70
  obtain ⟨rfl, N70q, e70⟩ := hQ70
  have N70 := Fr.app N68 N70q
  obtain ⟨M70, Y70, N70⟩ : ∃ M, Stand p l e room_1 s m #[(.int p0), (.int p1), (.int p2)] below meth c T70 M 2 32 ∧ Fr n0 M := ⟨_, X70, N70⟩
  have pre70 : Lead p e below G (T70.setTop (mkF m 212 #[.val (.int p0), .val (.int p1), .val (.int p2), .val (.ref b2), .val (.ref b36), .unset, .unset, .unset, .unset, .unset, .unset, .unset, .unset] [(.int (F1 p0))])) := fun t k => pre69 t (st70 _ k)
  have pre71 : Lead p e below G (T70.setTop (mkF m 213 #[.val (.int p0), .val (.int p1), .val (.int p2), .val (.ref b2), .val (.ref b36), .unset, .unset, .unset, .unset, .unset, .unset, .unset, .unset] [(.int p0), (.int (F1 p0))])) := fun t k => by
    refine pre70 t ?_
    show Steps p.tables e below (T70.setTop (mkF m 212 #[.val (.int p0), .val (.int p1), .val (.int p2), .val (.ref b2), .val (.ref b36), .unset, .unset, .unset, .unset, .unset, .unset, .unset, .unset] [(.int (F1 p0))])) _
    refine XS.iloadN Y70.here hx rfl (hb hby at_212) rfl ?_
    show Steps p.tables e below (T70.setTop (mkF m 213 #[.val (.int p0), .val (.int p1), .val (.int p2), .val (.ref b2), .val (.ref b36), .unset, .unset, .unset, .unset, .unset, .unset, .unset, .unset] [(.int p0), (.int (F1 p0))])) _
    exact k
  obtain ⟨_, _, ⟨T72, L72, k72, n72⟩, -, X72, ⟨Lc72, hQ72, l72, y72, z72⟩, st72⟩ := Jvm.LawKit.callS Y70 hx (y := (⟨"com/example/processionary/processionary/expressions/NameIsStartCharPinLaw", "reference", "(I)Z"⟩ : MethodName)) hown (mvT hZ (hw _ (List.mem_of_getElem? (i := 15) rfl))) (mvT hZ (hw _ (List.mem_of_getElem? (i := 16) rfl))) (mvT hZ (hw _ (List.mem_of_getElem? (i := 17) rfl))) (mvT hZ (hw _ (List.mem_of_getElem? (i := 18) rfl))) (by decide) (backOf (W := 1) (rm2 l Z a0 hw [] p0  h68 n0 (Nat.le_trans Z0 K68.1) ) hZ (hw _ (List.mem_of_getElem? (i := 18) rfl)) (hw _ (List.mem_of_getElem? (i := 17) rfl)) (by decide) (by decide)) (g := (mkF m 213 #[.val (.int p0), .val (.int p1), .val (.int p2), .val (.ref b2), .val (.ref b36), .unset, .unset, .unset, .unset, .unset, .unset, .unset, .unset] [(.int p0), (.int (F1 p0))])) rfl (by rw [hml]; rfl) (argsL := [(.int p0)]) (rest := [(.int (F1 p0))]) (lenOf pd__28_I_29_Z rfl) rfl (by show 2 * 0 + _ ≤ _; exact Nat.le_of_eq rfl) (hb hby at_213) (fun _ _ => ⟨rfl, e70, (by decide : 2 + 0 ≤ _), (by decide : 32 + 0 ≤ _)⟩)
  dsimp only [Pt.U, Pt.locs, Pt.cells, Pt.slots] at X72 l72 y72 z72 st72 hQ72
  subst l72 y72 z72
  obtain ⟨rfl, N72q, e72⟩ := hQ72
  have N72 := Fr.app N70 N72q
  obtain ⟨M72, Y72, N72⟩ : ∃ M, Stand p l e room_1 s m #[(.int p0), (.int p1), (.int p2)] below meth c T72 M 2 32 ∧ Fr n0 M := ⟨_, X72, N72⟩
  have pre72 : Lead p e below G (T72.setTop (mkF m 216 #[.val (.int p0), .val (.int p1), .val (.int p2), .val (.ref b2), .val (.ref b36), .unset, .unset, .unset, .unset, .unset, .unset, .unset, .unset] [(.int (F2 p0)), (.int (F1 p0))])) := fun t k => pre71 t (st72 _ k)
  have pre75 : Lead p e below G (T72.setTop (mkF m 235 #[.val (.int p0), .val (.int p1), .val (.int p2), .val (.ref b2), .val (.ref b36), .val (.int (if (F1 p0) = (F2 p0) then (1 : Int32) else (0 : Int32))), .val (.int (p1 &&& (15 : Int32))), .unset, .unset, .unset, .unset, .unset, .unset] [(.int (p1 &&& (15 : Int32))), (.ref b2)])) := fun t k => by
    refine pre72 t ?_
    show Steps p.tables e below (T72.setTop (mkF m 216 #[.val (.int p0), .val (.int p1), .val (.int p2), .val (.ref b2), .val (.ref b36), .unset, .unset, .unset, .unset, .unset, .unset, .unset, .unset] [(.int (F2 p0)), (.int (F1 p0))])) _
    have j74 : ∀ t, Steps p.tables e below (T72.setTop (mkF m 224 #[.val (.int p0), .val (.int p1), .val (.int p2), .val (.ref b2), .val (.ref b36), .unset, .unset, .unset, .unset, .unset, .unset, .unset, .unset] [(.int (if (F1 p0) = (F2 p0) then (1 : Int32) else (0 : Int32)))])) t → Steps p.tables e below (T72.setTop (mkF m 216 #[.val (.int p0), .val (.int p1), .val (.int p2), .val (.ref b2), .val (.ref b36), .unset, .unset, .unset, .unset, .unset, .unset, .unset, .unset] [(.int (F2 p0)), (.int (F1 p0))])) t := fun t k => by
      by_cases hc216_73 : (F1 p0) = (F2 p0)
      · simp only [if_pos hc216_73] at k
        refine XS.icmpNo Y72.here hx rfl (hb hby at_216) rfl (teq hc216_73).2 ?_
        show Steps p.tables e below (T72.setTop (mkF m 219 #[.val (.int p0), .val (.int p1), .val (.int p2), .val (.ref b2), .val (.ref b36), .unset, .unset, .unset, .unset, .unset, .unset, .unset, .unset] [])) _
        refine XS.iconst Y72.here hx rfl (hb hby at_219) ?_
        show Steps p.tables e below (T72.setTop (mkF m 220 #[.val (.int p0), .val (.int p1), .val (.int p2), .val (.ref b2), .val (.ref b36), .unset, .unset, .unset, .unset, .unset, .unset, .unset, .unset] [(.int (1 : Int32))])) _
        refine XS.goto Y72.here hx rfl (pc0 := 220) (pc' := 224) rfl (hb hby at_220) (by decide) (by decide) ?_
        show Steps p.tables e below (T72.setTop (mkF m 224 #[.val (.int p0), .val (.int p1), .val (.int p2), .val (.ref b2), .val (.ref b36), .unset, .unset, .unset, .unset, .unset, .unset, .unset, .unset] [(.int (1 : Int32))])) _
        exact k
      · simp only [if_neg hc216_73] at k
        refine XS.icmpYes Y72.here hx rfl (pc0 := 216) (pc' := 223) rfl (hb hby at_216) rfl (feq hc216_73).2 (by decide) (by decide) ?_
        show Steps p.tables e below (T72.setTop (mkF m 223 #[.val (.int p0), .val (.int p1), .val (.int p2), .val (.ref b2), .val (.ref b36), .unset, .unset, .unset, .unset, .unset, .unset, .unset, .unset] [])) _
        refine XS.iconst Y72.here hx rfl (hb hby at_223) ?_
        show Steps p.tables e below (T72.setTop (mkF m 224 #[.val (.int p0), .val (.int p1), .val (.int p2), .val (.ref b2), .val (.ref b36), .unset, .unset, .unset, .unset, .unset, .unset, .unset, .unset] [(.int (0 : Int32))])) _
        exact k
    refine j74 _ ?_
    show Steps p.tables e below (T72.setTop (mkF m 224 #[.val (.int p0), .val (.int p1), .val (.int p2), .val (.ref b2), .val (.ref b36), .unset, .unset, .unset, .unset, .unset, .unset, .unset, .unset] [(.int (if (F1 p0) = (F2 p0) then (1 : Int32) else (0 : Int32)))])) _
    refine XS.istore Y72.here hx rfl (hb hby at_224) rfl (l' := #[.val (.int p0), .val (.int p1), .val (.int p2), .val (.ref b2), .val (.ref b36), .val (.int (if (F1 p0) = (F2 p0) then (1 : Int32) else (0 : Int32))), .unset, .unset, .unset, .unset, .unset, .unset, .unset]) rfl ?_
    show Steps p.tables e below (T72.setTop (mkF m 226 #[.val (.int p0), .val (.int p1), .val (.int p2), .val (.ref b2), .val (.ref b36), .val (.int (if (F1 p0) = (F2 p0) then (1 : Int32) else (0 : Int32))), .unset, .unset, .unset, .unset, .unset, .unset, .unset] [])) _
    refine XS.iloadN Y72.here hx rfl (hb hby at_226) rfl ?_
    show Steps p.tables e below (T72.setTop (mkF m 227 #[.val (.int p0), .val (.int p1), .val (.int p2), .val (.ref b2), .val (.ref b36), .val (.int (if (F1 p0) = (F2 p0) then (1 : Int32) else (0 : Int32))), .unset, .unset, .unset, .unset, .unset, .unset, .unset] [(.int p1)])) _
    refine XS.bipush Y72.here hx rfl (hb hby at_227) ?_
    show Steps p.tables e below (T72.setTop (mkF m 229 #[.val (.int p0), .val (.int p1), .val (.int p2), .val (.ref b2), .val (.ref b36), .val (.int (if (F1 p0) = (F2 p0) then (1 : Int32) else (0 : Int32))), .unset, .unset, .unset, .unset, .unset, .unset, .unset] [(.int (15 : Int32)), (.int p1)])) _
    refine XS.iand Y72.here hx rfl (hb hby at_229) rfl ?_
    show Steps p.tables e below (T72.setTop (mkF m 230 #[.val (.int p0), .val (.int p1), .val (.int p2), .val (.ref b2), .val (.ref b36), .val (.int (if (F1 p0) = (F2 p0) then (1 : Int32) else (0 : Int32))), .unset, .unset, .unset, .unset, .unset, .unset, .unset] [(.int (p1 &&& (15 : Int32)))])) _
    refine XS.istore Y72.here hx rfl (hb hby at_230) rfl (l' := #[.val (.int p0), .val (.int p1), .val (.int p2), .val (.ref b2), .val (.ref b36), .val (.int (if (F1 p0) = (F2 p0) then (1 : Int32) else (0 : Int32))), .val (.int (p1 &&& (15 : Int32))), .unset, .unset, .unset, .unset, .unset, .unset]) rfl ?_
    show Steps p.tables e below (T72.setTop (mkF m 232 #[.val (.int p0), .val (.int p1), .val (.int p2), .val (.ref b2), .val (.ref b36), .val (.int (if (F1 p0) = (F2 p0) then (1 : Int32) else (0 : Int32))), .val (.int (p1 &&& (15 : Int32))), .unset, .unset, .unset, .unset, .unset, .unset] [])) _
    refine XS.aloadN Y72.here hx rfl (hb hby at_232) rfl rfl ?_
    show Steps p.tables e below (T72.setTop (mkF m 233 #[.val (.int p0), .val (.int p1), .val (.int p2), .val (.ref b2), .val (.ref b36), .val (.int (if (F1 p0) = (F2 p0) then (1 : Int32) else (0 : Int32))), .val (.int (p1 &&& (15 : Int32))), .unset, .unset, .unset, .unset, .unset, .unset] [(.ref b2)])) _
    refine XS.iload Y72.here hx rfl (hb hby at_233) rfl ?_
    show Steps p.tables e below (T72.setTop (mkF m 235 #[.val (.int p0), .val (.int p1), .val (.int p2), .val (.ref b2), .val (.ref b36), .val (.int (if (F1 p0) = (F2 p0) then (1 : Int32) else (0 : Int32))), .val (.int (p1 &&& (15 : Int32))), .unset, .unset, .unset, .unset, .unset, .unset] [(.int (p1 &&& (15 : Int32))), (.ref b2)])) _
    exact k
  obtain ⟨v76, hv76⟩ : ∃ z : Int32, z = (if (F1 p0) = (F2 p0) then (1 : Int32) else (0 : Int32)) := ⟨_, rfl⟩
  have pre76 : Lead p e below G (T72.setTop (mkF m 235 #[.val (.int p0), .val (.int p1), .val (.int p2), .val (.ref b2), .val (.ref b36), .val (.int v76), .val (.int (p1 &&& (15 : Int32))), .unset, .unset, .unset, .unset, .unset, .unset] [(.int (p1 &&& (15 : Int32))), (.ref b2)])) := by rw [hv76]; exact pre75
  have f78 : JV Value.int Z h68 b2 .int (16 : Int32) (updF (updF g30 14 (65008 : Int32)) 15 (65536 : Int32)) := (((((((((((((((((V34.ext E36).other W38 ne36_b2).other W40 ne36_b2).other W42 ne36_b2).other W44 ne36_b2).other W46 ne36_b2).other W48 ne36_b2).other W50 ne36_b2).other W52 ne36_b2).other W54 ne36_b2).other W56 ne36_b2).other W58 ne36_b2).other W60 ne36_b2).other W62 ne36_b2).other W64 ne36_b2).other W66 ne36_b2).other W68 ne36_b2)
  obtain ⟨cl77, Ar77, hin77, hat77⟩ := f78.in (j := (p1 &&& (15 : Int32))) (own_idx p1)
  have st77 := Y72.iaload hx (j := (p1 &&& (15 : Int32))) (v := (.int ((updF (updF g30 14 (65008 : Int32)) 15 (65536 : Int32)) ((p1 &&& (15 : Int32))).toNatClampNeg))) (by rw [e72]; exact Ar77.1) (State.isArrayOf_alike hZ.alike Ar77.2.1) Ar77.2.2 hin77 hat77 (g := (mkF m 235 #[.val (.int p0), .val (.int p1), .val (.int p2), .val (.ref b2), .val (.ref b36), .val (.int v76), .val (.int (p1 &&& (15 : Int32))), .unset, .unset, .unset, .unset, .unset, .unset] [(.int (p1 &&& (15 : Int32))), (.ref b2)])) rfl rfl (hb hby at_235)
  have pre77 : Lead p e below G (T72.setTop (mkF m 236 #[.val (.int p0), .val (.int p1), .val (.int p2), .val (.ref b2), .val (.ref b36), .val (.int v76), .val (.int (p1 &&& (15 : Int32))), .unset, .unset, .unset, .unset, .unset, .unset] [(.int ((updF (updF g30 14 (65008 : Int32)) 15 (65536 : Int32)) ((p1 &&& (15 : Int32))).toNatClampNeg))])) := fun t k => pre76 t (st77 _ k)
  have pre79 : Lead p e below G (T72.setTop (mkF m 238 #[.val (.int p0), .val (.int p1), .val (.int p2), .val (.ref b2), .val (.ref b36), .val (.int v76), .val (.int (p1 &&& (15 : Int32))), .val (.int ((updF (updF g30 14 (65008 : Int32)) 15 (65536 : Int32)) ((p1 &&& (15 : Int32))).toNatClampNeg)), .unset, .unset, .unset, .unset, .unset] [])) := fun t k => by
    refine pre77 t ?_
    show Steps p.tables e below (T72.setTop (mkF m 236 #[.val (.int p0), .val (.int p1), .val (.int p2), .val (.ref b2), .val (.ref b36), .val (.int v76), .val (.int (p1 &&& (15 : Int32))), .unset, .unset, .unset, .unset, .unset, .unset] [(.int ((updF (updF g30 14 (65008 : Int32)) 15 (65536 : Int32)) ((p1 &&& (15 : Int32))).toNatClampNeg))])) _
    refine XS.istore Y72.here hx rfl (hb hby at_236) rfl (l' := #[.val (.int p0), .val (.int p1), .val (.int p2), .val (.ref b2), .val (.ref b36), .val (.int v76), .val (.int (p1 &&& (15 : Int32))), .val (.int ((updF (updF g30 14 (65008 : Int32)) 15 (65536 : Int32)) ((p1 &&& (15 : Int32))).toNatClampNeg)), .unset, .unset, .unset, .unset, .unset]) rfl ?_
    show Steps p.tables e below (T72.setTop (mkF m 238 #[.val (.int p0), .val (.int p1), .val (.int p2), .val (.ref b2), .val (.ref b36), .val (.int v76), .val (.int (p1 &&& (15 : Int32))), .val (.int ((updF (updF g30 14 (65008 : Int32)) 15 (65536 : Int32)) ((p1 &&& (15 : Int32))).toNatClampNeg)), .unset, .unset, .unset, .unset, .unset] [])) _
    exact k
  obtain ⟨v80, hv80⟩ : ∃ z : Int32, z = ((updF (updF g30 14 (65008 : Int32)) 15 (65536 : Int32)) ((p1 &&& (15 : Int32))).toNatClampNeg) := ⟨_, rfl⟩
  have pre80 : Lead p e below G (T72.setTop (mkF m 238 #[.val (.int p0), .val (.int p1), .val (.int p2), .val (.ref b2), .val (.ref b36), .val (.int v76), .val (.int (p1 &&& (15 : Int32))), .val (.int v80), .unset, .unset, .unset, .unset, .unset] [])) := by rw [hv80]; exact pre79
  have pre81 : Lead p e below G (T72.setTop (mkF m 242 #[.val (.int p0), .val (.int p1), .val (.int p2), .val (.ref b2), .val (.ref b36), .val (.int v76), .val (.int (p1 &&& (15 : Int32))), .val (.int v80), .unset, .unset, .unset, .unset, .unset] [(.int (p1 &&& (15 : Int32))), (.ref b36)])) := fun t k => by
    refine pre80 t ?_
    show Steps p.tables e below (T72.setTop (mkF m 238 #[.val (.int p0), .val (.int p1), .val (.int p2), .val (.ref b2), .val (.ref b36), .val (.int v76), .val (.int (p1 &&& (15 : Int32))), .val (.int v80), .unset, .unset, .unset, .unset, .unset] [])) _
    refine XS.aload Y72.here hx rfl (hb hby at_238) rfl rfl ?_
    show Steps p.tables e below (T72.setTop (mkF m 240 #[.val (.int p0), .val (.int p1), .val (.int p2), .val (.ref b2), .val (.ref b36), .val (.int v76), .val (.int (p1 &&& (15 : Int32))), .val (.int v80), .unset, .unset, .unset, .unset, .unset] [(.ref b36)])) _
    refine XS.iload Y72.here hx rfl (hb hby at_240) rfl ?_
    show Steps p.tables e below (T72.setTop (mkF m 242 #[.val (.int p0), .val (.int p1), .val (.int p2), .val (.ref b2), .val (.ref b36), .val (.int v76), .val (.int (p1 &&& (15 : Int32))), .val (.int v80), .unset, .unset, .unset, .unset, .unset] [(.int (p1 &&& (15 : Int32))), (.ref b36)])) _
    exact k
  obtain ⟨cl82, Ar82, hin82, hat82⟩ := V68.in (j := (p1 &&& (15 : Int32))) (own_idx p1)
  have st82 := Y72.iaload hx (j := (p1 &&& (15 : Int32))) (v := (.int ((updF (updF g64 14 (65533 : Int32)) 15 (983039 : Int32)) ((p1 &&& (15 : Int32))).toNatClampNeg))) (by rw [e72]; exact Ar82.1) (State.isArrayOf_alike hZ.alike Ar82.2.1) Ar82.2.2 hin82 hat82 (g := (mkF m 242 #[.val (.int p0), .val (.int p1), .val (.int p2), .val (.ref b2), .val (.ref b36), .val (.int v76), .val (.int (p1 &&& (15 : Int32))), .val (.int v80), .unset, .unset, .unset, .unset, .unset] [(.int (p1 &&& (15 : Int32))), (.ref b36)])) rfl rfl (hb hby at_242)
  have pre82 : Lead p e below G (T72.setTop (mkF m 243 #[.val (.int p0), .val (.int p1), .val (.int p2), .val (.ref b2), .val (.ref b36), .val (.int v76), .val (.int (p1 &&& (15 : Int32))), .val (.int v80), .unset, .unset, .unset, .unset, .unset] [(.int ((updF (updF g64 14 (65533 : Int32)) 15 (983039 : Int32)) ((p1 &&& (15 : Int32))).toNatClampNeg))])) := fun t k => pre81 t (st82 _ k)
  have pre83 : Lead p e below G (T72.setTop (mkF m 245 #[.val (.int p0), .val (.int p1), .val (.int p2), .val (.ref b2), .val (.ref b36), .val (.int v76), .val (.int (p1 &&& (15 : Int32))), .val (.int v80), .val (.int ((updF (updF g64 14 (65533 : Int32)) 15 (983039 : Int32)) ((p1 &&& (15 : Int32))).toNatClampNeg)), .unset, .unset, .unset, .unset] [])) := fun t k => by
    refine pre82 t ?_
    show Steps p.tables e below (T72.setTop (mkF m 243 #[.val (.int p0), .val (.int p1), .val (.int p2), .val (.ref b2), .val (.ref b36), .val (.int v76), .val (.int (p1 &&& (15 : Int32))), .val (.int v80), .unset, .unset, .unset, .unset, .unset] [(.int ((updF (updF g64 14 (65533 : Int32)) 15 (983039 : Int32)) ((p1 &&& (15 : Int32))).toNatClampNeg))])) _
    refine XS.istore Y72.here hx rfl (hb hby at_243) rfl (l' := #[.val (.int p0), .val (.int p1), .val (.int p2), .val (.ref b2), .val (.ref b36), .val (.int v76), .val (.int (p1 &&& (15 : Int32))), .val (.int v80), .val (.int ((updF (updF g64 14 (65533 : Int32)) 15 (983039 : Int32)) ((p1 &&& (15 : Int32))).toNatClampNeg)), .unset, .unset, .unset, .unset]) rfl ?_
    show Steps p.tables e below (T72.setTop (mkF m 245 #[.val (.int p0), .val (.int p1), .val (.int p2), .val (.ref b2), .val (.ref b36), .val (.int v76), .val (.int (p1 &&& (15 : Int32))), .val (.int v80), .val (.int ((updF (updF g64 14 (65533 : Int32)) 15 (983039 : Int32)) ((p1 &&& (15 : Int32))).toNatClampNeg)), .unset, .unset, .unset, .unset] [])) _
    exact k
  obtain ⟨v84, hv84⟩ : ∃ z : Int32, z = ((updF (updF g64 14 (65533 : Int32)) 15 (983039 : Int32)) ((p1 &&& (15 : Int32))).toNatClampNeg) := ⟨_, rfl⟩
  have pre84 : Lead p e below G (T72.setTop (mkF m 245 #[.val (.int p0), .val (.int p1), .val (.int p2), .val (.ref b2), .val (.ref b36), .val (.int v76), .val (.int (p1 &&& (15 : Int32))), .val (.int v80), .val (.int v84), .unset, .unset, .unset, .unset] [])) := by rw [hv84]; exact pre83
  have pre85 : Lead p e below G (T72.setTop (mkF m 262 #[.val (.int p0), .val (.int p1), .val (.int p2), .val (.ref b2), .val (.ref b36), .val (.int v76), .val (.int (p1 &&& (15 : Int32))), .val (.int v80), .val (.int v84), .val (.int (v80 + ((p2 &&& (2147483647 : Int32)) - ((p2 &&& (2147483647 : Int32)) / ((v84 - v80) + (1 : Int32))) * ((v84 - v80) + (1 : Int32))))), .unset, .unset, .unset] [])) := fun t k => by
    refine pre84 t ?_
    show Steps p.tables e below (T72.setTop (mkF m 245 #[.val (.int p0), .val (.int p1), .val (.int p2), .val (.ref b2), .val (.ref b36), .val (.int v76), .val (.int (p1 &&& (15 : Int32))), .val (.int v80), .val (.int v84), .unset, .unset, .unset, .unset] [])) _
    refine XS.iload Y72.here hx rfl (hb hby at_245) rfl ?_
    show Steps p.tables e below (T72.setTop (mkF m 247 #[.val (.int p0), .val (.int p1), .val (.int p2), .val (.ref b2), .val (.ref b36), .val (.int v76), .val (.int (p1 &&& (15 : Int32))), .val (.int v80), .val (.int v84), .unset, .unset, .unset, .unset] [(.int v80)])) _
    refine XS.iloadN Y72.here hx rfl (hb hby at_247) rfl ?_
    show Steps p.tables e below (T72.setTop (mkF m 248 #[.val (.int p0), .val (.int p1), .val (.int p2), .val (.ref b2), .val (.ref b36), .val (.int v76), .val (.int (p1 &&& (15 : Int32))), .val (.int v80), .val (.int v84), .unset, .unset, .unset, .unset] [(.int p2), (.int v80)])) _
    refine Y72.ldcInt hx hown (mvT hZ (hw _ (List.mem_of_getElem? (i := 22) rfl))) (g := (mkF m 248 #[.val (.int p0), .val (.int p1), .val (.int p2), .val (.ref b2), .val (.ref b36), .val (.int v76), .val (.int (p1 &&& (15 : Int32))), .val (.int v80), .val (.int v84), .unset, .unset, .unset, .unset] [(.int p2), (.int v80)])) rfl (hb hby at_248) _ ?_
    show Steps p.tables e below (T72.setTop (mkF m 250 #[.val (.int p0), .val (.int p1), .val (.int p2), .val (.ref b2), .val (.ref b36), .val (.int v76), .val (.int (p1 &&& (15 : Int32))), .val (.int v80), .val (.int v84), .unset, .unset, .unset, .unset] [(.int (2147483647 : Int32)), (.int p2), (.int v80)])) _
    refine XS.iand Y72.here hx rfl (hb hby at_250) rfl ?_
    show Steps p.tables e below (T72.setTop (mkF m 251 #[.val (.int p0), .val (.int p1), .val (.int p2), .val (.ref b2), .val (.ref b36), .val (.int v76), .val (.int (p1 &&& (15 : Int32))), .val (.int v80), .val (.int v84), .unset, .unset, .unset, .unset] [(.int (p2 &&& (2147483647 : Int32))), (.int v80)])) _
    refine XS.iload Y72.here hx rfl (hb hby at_251) rfl ?_
    show Steps p.tables e below (T72.setTop (mkF m 253 #[.val (.int p0), .val (.int p1), .val (.int p2), .val (.ref b2), .val (.ref b36), .val (.int v76), .val (.int (p1 &&& (15 : Int32))), .val (.int v80), .val (.int v84), .unset, .unset, .unset, .unset] [(.int v84), (.int (p2 &&& (2147483647 : Int32))), (.int v80)])) _
    refine XS.iload Y72.here hx rfl (hb hby at_253) rfl ?_
    show Steps p.tables e below (T72.setTop (mkF m 255 #[.val (.int p0), .val (.int p1), .val (.int p2), .val (.ref b2), .val (.ref b36), .val (.int v76), .val (.int (p1 &&& (15 : Int32))), .val (.int v80), .val (.int v84), .unset, .unset, .unset, .unset] [(.int v80), (.int v84), (.int (p2 &&& (2147483647 : Int32))), (.int v80)])) _
    refine XS.isub Y72.here hx rfl (hb hby at_255) rfl ?_
    show Steps p.tables e below (T72.setTop (mkF m 256 #[.val (.int p0), .val (.int p1), .val (.int p2), .val (.ref b2), .val (.ref b36), .val (.int v76), .val (.int (p1 &&& (15 : Int32))), .val (.int v80), .val (.int v84), .unset, .unset, .unset, .unset] [(.int (v84 - v80)), (.int (p2 &&& (2147483647 : Int32))), (.int v80)])) _
    refine XS.iconst Y72.here hx rfl (hb hby at_256) ?_
    show Steps p.tables e below (T72.setTop (mkF m 257 #[.val (.int p0), .val (.int p1), .val (.int p2), .val (.ref b2), .val (.ref b36), .val (.int v76), .val (.int (p1 &&& (15 : Int32))), .val (.int v80), .val (.int v84), .unset, .unset, .unset, .unset] [(.int (1 : Int32)), (.int (v84 - v80)), (.int (p2 &&& (2147483647 : Int32))), (.int v80)])) _
    refine XS.iadd Y72.here hx rfl (hb hby at_257) rfl ?_
    show Steps p.tables e below (T72.setTop (mkF m 258 #[.val (.int p0), .val (.int p1), .val (.int p2), .val (.ref b2), .val (.ref b36), .val (.int v76), .val (.int (p1 &&& (15 : Int32))), .val (.int v80), .val (.int v84), .unset, .unset, .unset, .unset] [(.int ((v84 - v80) + (1 : Int32))), (.int (p2 &&& (2147483647 : Int32))), (.int v80)])) _
    refine XS.irem Y72.here hx rfl (hb hby at_258) rfl (by subst hv84 hv80 hv76 hg64 hg58 hg52 hg46 hg40 hg30 hg24 hg18 hg12 hg6; exact own_nz p1) ?_
    show Steps p.tables e below (T72.setTop (mkF m 259 #[.val (.int p0), .val (.int p1), .val (.int p2), .val (.ref b2), .val (.ref b36), .val (.int v76), .val (.int (p1 &&& (15 : Int32))), .val (.int v80), .val (.int v84), .unset, .unset, .unset, .unset] [(.int ((p2 &&& (2147483647 : Int32)) - ((p2 &&& (2147483647 : Int32)) / ((v84 - v80) + (1 : Int32))) * ((v84 - v80) + (1 : Int32)))), (.int v80)])) _
    refine XS.iadd Y72.here hx rfl (hb hby at_259) rfl ?_
    show Steps p.tables e below (T72.setTop (mkF m 260 #[.val (.int p0), .val (.int p1), .val (.int p2), .val (.ref b2), .val (.ref b36), .val (.int v76), .val (.int (p1 &&& (15 : Int32))), .val (.int v80), .val (.int v84), .unset, .unset, .unset, .unset] [(.int (v80 + ((p2 &&& (2147483647 : Int32)) - ((p2 &&& (2147483647 : Int32)) / ((v84 - v80) + (1 : Int32))) * ((v84 - v80) + (1 : Int32)))))])) _
    refine XS.istore Y72.here hx rfl (hb hby at_260) rfl (l' := #[.val (.int p0), .val (.int p1), .val (.int p2), .val (.ref b2), .val (.ref b36), .val (.int v76), .val (.int (p1 &&& (15 : Int32))), .val (.int v80), .val (.int v84), .val (.int (v80 + ((p2 &&& (2147483647 : Int32)) - ((p2 &&& (2147483647 : Int32)) / ((v84 - v80) + (1 : Int32))) * ((v84 - v80) + (1 : Int32))))), .unset, .unset, .unset]) rfl ?_
    show Steps p.tables e below (T72.setTop (mkF m 262 #[.val (.int p0), .val (.int p1), .val (.int p2), .val (.ref b2), .val (.ref b36), .val (.int v76), .val (.int (p1 &&& (15 : Int32))), .val (.int v80), .val (.int v84), .val (.int (v80 + ((p2 &&& (2147483647 : Int32)) - ((p2 &&& (2147483647 : Int32)) / ((v84 - v80) + (1 : Int32))) * ((v84 - v80) + (1 : Int32))))), .unset, .unset, .unset] [])) _
    exact k
  obtain ⟨v86, hv86⟩ : ∃ z : Int32, z = (v80 + ((p2 &&& (2147483647 : Int32)) - ((p2 &&& (2147483647 : Int32)) / ((v84 - v80) + (1 : Int32))) * ((v84 - v80) + (1 : Int32)))) := ⟨_, rfl⟩
  have pre86 : Lead p e below G (T72.setTop (mkF m 262 #[.val (.int p0), .val (.int p1), .val (.int p2), .val (.ref b2), .val (.ref b36), .val (.int v76), .val (.int (p1 &&& (15 : Int32))), .val (.int v80), .val (.int v84), .val (.int v86), .unset, .unset, .unset] [])) := by rw [hv86]; exact pre85
  have pre87 : Lead p e below G (T72.setTop (mkF m 264 #[.val (.int p0), .val (.int p1), .val (.int p2), .val (.ref b2), .val (.ref b36), .val (.int v76), .val (.int (p1 &&& (15 : Int32))), .val (.int v80), .val (.int v84), .val (.int v86), .unset, .unset, .unset] [(.int v86)])) := fun t k => by
    refine pre86 t ?_
    show Steps p.tables e below (T72.setTop (mkF m 262 #[.val (.int p0), .val (.int p1), .val (.int p2), .val (.ref b2), .val (.ref b36), .val (.int v76), .val (.int (p1 &&& (15 : Int32))), .val (.int v80), .val (.int v84), .val (.int v86), .unset, .unset, .unset] [])) _
    refine XS.iload Y72.here hx rfl (hb hby at_262) rfl ?_
    show Steps p.tables e below (T72.setTop (mkF m 264 #[.val (.int p0), .val (.int p1), .val (.int p2), .val (.ref b2), .val (.ref b36), .val (.int v76), .val (.int (p1 &&& (15 : Int32))), .val (.int v80), .val (.int v84), .val (.int v86), .unset, .unset, .unset] [(.int v86)])) _
    exact k
  obtain ⟨_, _, ⟨T88, L88, k88, n88⟩, -, X88, ⟨Lc88, hQ88, l88, y88, z88⟩, st88⟩ := Jvm.LawKit.callS Y72 hx (y := (⟨"com/example/processionary/processionary/expressions/Name", "isStartChar", "(I)Z"⟩ : MethodName)) hown (mvT hZ (hw _ (List.mem_of_getElem? (i := 8) rfl))) (mvT hZ (hw _ (List.mem_of_getElem? (i := 9) rfl))) (mvT hZ (hw _ (List.mem_of_getElem? (i := 10) rfl))) (mvT hZ (hw _ (List.mem_of_getElem? (i := 11) rfl))) (by decide) (backOf (W := 0) (rm1 l Z a0 hw [] v86  h68 n0 (Nat.le_trans Z0 K68.1) ) hZ (hw _ (List.mem_of_getElem? (i := 11) rfl)) (hw _ (List.mem_of_getElem? (i := 10) rfl)) (by decide) (by decide)) (g := (mkF m 264 #[.val (.int p0), .val (.int p1), .val (.int p2), .val (.ref b2), .val (.ref b36), .val (.int v76), .val (.int (p1 &&& (15 : Int32))), .val (.int v80), .val (.int v84), .val (.int v86), .unset, .unset, .unset] [(.int v86)])) rfl (by rw [hml]; rfl) (argsL := [(.int v86)]) (rest := []) (lenOf pd__28_I_29_Z rfl) rfl (by show 2 * 0 + _ ≤ _; exact Nat.le_of_eq rfl) (hb hby at_264) (fun _ _ => ⟨rfl, e72, (by decide : 2 + 0 ≤ _), (by decide : 32 + 0 ≤ _)⟩)
  dsimp only [Pt.U, Pt.locs, Pt.cells, Pt.slots] at X88 l88 y88 z88 st88 hQ88
  subst l88 y88 z88
  obtain ⟨rfl, N88q, e88⟩ := hQ88
  have N88 := Fr.app N72 N88q
  obtain ⟨M88, Y88, N88⟩ : ∃ M, Stand p l e room_1 s m #[(.int p0), (.int p1), (.int p2)] below meth c T88 M 2 32 ∧ Fr n0 M := ⟨_, X88, N88⟩
  have pre88 : Lead p e below G (T88.setTop (mkF m 267 #[.val (.int p0), .val (.int p1), .val (.int p2), .val (.ref b2), .val (.ref b36), .val (.int v76), .val (.int (p1 &&& (15 : Int32))), .val (.int v80), .val (.int v84), .val (.int v86), .unset, .unset, .unset] [(.int (F1 v86))])) := fun t k => pre87 t (st88 _ k)
  have pre89 : Lead p e below G (T88.setTop (mkF m 273 #[.val (.int p0), .val (.int p1), .val (.int p2), .val (.ref b2), .val (.ref b36), .val (.int v76), .val (.int (p1 &&& (15 : Int32))), .val (.int v80), .val (.int v84), .val (.int v86), .val (.int (F1 v86)), .unset, .unset] [(.int (v80 - (1 : Int32)))])) := fun t k => by
    refine pre88 t ?_
    show Steps p.tables e below (T88.setTop (mkF m 267 #[.val (.int p0), .val (.int p1), .val (.int p2), .val (.ref b2), .val (.ref b36), .val (.int v76), .val (.int (p1 &&& (15 : Int32))), .val (.int v80), .val (.int v84), .val (.int v86), .unset, .unset, .unset] [(.int (F1 v86))])) _
    refine XS.istore Y88.here hx rfl (hb hby at_267) rfl (l' := #[.val (.int p0), .val (.int p1), .val (.int p2), .val (.ref b2), .val (.ref b36), .val (.int v76), .val (.int (p1 &&& (15 : Int32))), .val (.int v80), .val (.int v84), .val (.int v86), .val (.int (F1 v86)), .unset, .unset]) rfl ?_
    show Steps p.tables e below (T88.setTop (mkF m 269 #[.val (.int p0), .val (.int p1), .val (.int p2), .val (.ref b2), .val (.ref b36), .val (.int v76), .val (.int (p1 &&& (15 : Int32))), .val (.int v80), .val (.int v84), .val (.int v86), .val (.int (F1 v86)), .unset, .unset] [])) _
    refine XS.iload Y88.here hx rfl (hb hby at_269) rfl ?_
    show Steps p.tables e below (T88.setTop (mkF m 271 #[.val (.int p0), .val (.int p1), .val (.int p2), .val (.ref b2), .val (.ref b36), .val (.int v76), .val (.int (p1 &&& (15 : Int32))), .val (.int v80), .val (.int v84), .val (.int v86), .val (.int (F1 v86)), .unset, .unset] [(.int v80)])) _
    refine XS.iconst Y88.here hx rfl (hb hby at_271) ?_
    show Steps p.tables e below (T88.setTop (mkF m 272 #[.val (.int p0), .val (.int p1), .val (.int p2), .val (.ref b2), .val (.ref b36), .val (.int v76), .val (.int (p1 &&& (15 : Int32))), .val (.int v80), .val (.int v84), .val (.int v86), .val (.int (F1 v86)), .unset, .unset] [(.int (1 : Int32)), (.int v80)])) _
    refine XS.isub Y88.here hx rfl (hb hby at_272) rfl ?_
    show Steps p.tables e below (T88.setTop (mkF m 273 #[.val (.int p0), .val (.int p1), .val (.int p2), .val (.ref b2), .val (.ref b36), .val (.int v76), .val (.int (p1 &&& (15 : Int32))), .val (.int v80), .val (.int v84), .val (.int v86), .val (.int (F1 v86)), .unset, .unset] [(.int (v80 - (1 : Int32)))])) _
    exact k
  obtain ⟨_, _, ⟨T90, L90, k90, n90⟩, -, X90, ⟨Lc90, hQ90, l90, y90, z90⟩, st90⟩ := Jvm.LawKit.callS Y88 hx (y := (⟨"com/example/processionary/processionary/expressions/Name", "isStartChar", "(I)Z"⟩ : MethodName)) hown (mvT hZ (hw _ (List.mem_of_getElem? (i := 8) rfl))) (mvT hZ (hw _ (List.mem_of_getElem? (i := 9) rfl))) (mvT hZ (hw _ (List.mem_of_getElem? (i := 10) rfl))) (mvT hZ (hw _ (List.mem_of_getElem? (i := 11) rfl))) (by decide) (backOf (W := 0) (rm1 l Z a0 hw [] (v80 - (1 : Int32))  h68 n0 (Nat.le_trans Z0 K68.1) ) hZ (hw _ (List.mem_of_getElem? (i := 11) rfl)) (hw _ (List.mem_of_getElem? (i := 10) rfl)) (by decide) (by decide)) (g := (mkF m 273 #[.val (.int p0), .val (.int p1), .val (.int p2), .val (.ref b2), .val (.ref b36), .val (.int v76), .val (.int (p1 &&& (15 : Int32))), .val (.int v80), .val (.int v84), .val (.int v86), .val (.int (F1 v86)), .unset, .unset] [(.int (v80 - (1 : Int32)))])) rfl (by rw [hml]; rfl) (argsL := [(.int (v80 - (1 : Int32)))]) (rest := []) (lenOf pd__28_I_29_Z rfl) rfl (by show 2 * 0 + _ ≤ _; exact Nat.le_of_eq rfl) (hb hby at_273) (fun _ _ => ⟨rfl, e88, (by decide : 2 + 0 ≤ _), (by decide : 32 + 0 ≤ _)⟩)
  dsimp only [Pt.U, Pt.locs, Pt.cells, Pt.slots] at X90 l90 y90 z90 st90 hQ90
  subst l90 y90 z90
  obtain ⟨rfl, N90q, e90⟩ := hQ90
  have N90 := Fr.app N88 N90q
  obtain ⟨M90, Y90, N90⟩ : ∃ M, Stand p l e room_1 s m #[(.int p0), (.int p1), (.int p2)] below meth c T90 M 2 32 ∧ Fr n0 M := ⟨_, X90, N90⟩
  have pre90 : Lead p e below G (T90.setTop (mkF m 276 #[.val (.int p0), .val (.int p1), .val (.int p2), .val (.ref b2), .val (.ref b36), .val (.int v76), .val (.int (p1 &&& (15 : Int32))), .val (.int v80), .val (.int v84), .val (.int v86), .val (.int (F1 v86)), .unset, .unset] [(.int (F1 (v80 - (1 : Int32))))])) := fun t k => pre89 t (st90 _ k)
  have pre93 : Lead p e below G (T90.setTop (mkF m 284 #[.val (.int p0), .val (.int p1), .val (.int p2), .val (.ref b2), .val (.ref b36), .val (.int v76), .val (.int (p1 &&& (15 : Int32))), .val (.int v80), .val (.int v84), .val (.int v86), .val (.int (F1 v86)), .unset, .unset] [(.int (if (F1 (v80 - (1 : Int32))) = (0 : Int32) then (1 : Int32) else (0 : Int32)))])) := fun t k => by
    refine pre90 t ?_
    show Steps p.tables e below (T90.setTop (mkF m 276 #[.val (.int p0), .val (.int p1), .val (.int p2), .val (.ref b2), .val (.ref b36), .val (.int v76), .val (.int (p1 &&& (15 : Int32))), .val (.int v80), .val (.int v84), .val (.int v86), .val (.int (F1 v86)), .unset, .unset] [(.int (F1 (v80 - (1 : Int32))))])) _
    have j92 : ∀ t, Steps p.tables e below (T90.setTop (mkF m 284 #[.val (.int p0), .val (.int p1), .val (.int p2), .val (.ref b2), .val (.ref b36), .val (.int v76), .val (.int (p1 &&& (15 : Int32))), .val (.int v80), .val (.int v84), .val (.int v86), .val (.int (F1 v86)), .unset, .unset] [(.int (if (F1 (v80 - (1 : Int32))) = (0 : Int32) then (1 : Int32) else (0 : Int32)))])) t → Steps p.tables e below (T90.setTop (mkF m 276 #[.val (.int p0), .val (.int p1), .val (.int p2), .val (.ref b2), .val (.ref b36), .val (.int v76), .val (.int (p1 &&& (15 : Int32))), .val (.int v80), .val (.int v84), .val (.int v86), .val (.int (F1 v86)), .unset, .unset] [(.int (F1 (v80 - (1 : Int32))))])) t := fun t k => by
      by_cases hc276_91 : (F1 (v80 - (1 : Int32))) = (0 : Int32)
      · simp only [if_pos hc276_91] at k
        refine XS.ifNo Y90.here hx rfl (hb hby at_276) rfl ((if0 _ _).trans (teq hc276_91).2) ?_
        show Steps p.tables e below (T90.setTop (mkF m 279 #[.val (.int p0), .val (.int p1), .val (.int p2), .val (.ref b2), .val (.ref b36), .val (.int v76), .val (.int (p1 &&& (15 : Int32))), .val (.int v80), .val (.int v84), .val (.int v86), .val (.int (F1 v86)), .unset, .unset] [])) _
        refine XS.iconst Y90.here hx rfl (hb hby at_279) ?_
        show Steps p.tables e below (T90.setTop (mkF m 280 #[.val (.int p0), .val (.int p1), .val (.int p2), .val (.ref b2), .val (.ref b36), .val (.int v76), .val (.int (p1 &&& (15 : Int32))), .val (.int v80), .val (.int v84), .val (.int v86), .val (.int (F1 v86)), .unset, .unset] [(.int (1 : Int32))])) _
        refine XS.goto Y90.here hx rfl (pc0 := 280) (pc' := 284) rfl (hb hby at_280) (by decide) (by decide) ?_
        show Steps p.tables e below (T90.setTop (mkF m 284 #[.val (.int p0), .val (.int p1), .val (.int p2), .val (.ref b2), .val (.ref b36), .val (.int v76), .val (.int (p1 &&& (15 : Int32))), .val (.int v80), .val (.int v84), .val (.int v86), .val (.int (F1 v86)), .unset, .unset] [(.int (1 : Int32))])) _
        exact k
      · simp only [if_neg hc276_91] at k
        refine XS.ifYes Y90.here hx rfl (pc0 := 276) (pc' := 283) rfl (hb hby at_276) rfl ((if0 _ _).trans (feq hc276_91).2) (by decide) (by decide) ?_
        show Steps p.tables e below (T90.setTop (mkF m 283 #[.val (.int p0), .val (.int p1), .val (.int p2), .val (.ref b2), .val (.ref b36), .val (.int v76), .val (.int (p1 &&& (15 : Int32))), .val (.int v80), .val (.int v84), .val (.int v86), .val (.int (F1 v86)), .unset, .unset] [])) _
        refine XS.iconst Y90.here hx rfl (hb hby at_283) ?_
        show Steps p.tables e below (T90.setTop (mkF m 284 #[.val (.int p0), .val (.int p1), .val (.int p2), .val (.ref b2), .val (.ref b36), .val (.int v76), .val (.int (p1 &&& (15 : Int32))), .val (.int v80), .val (.int v84), .val (.int v86), .val (.int (F1 v86)), .unset, .unset] [(.int (0 : Int32))])) _
        exact k
    refine j92 _ ?_
    show Steps p.tables e below (T90.setTop (mkF m 284 #[.val (.int p0), .val (.int p1), .val (.int p2), .val (.ref b2), .val (.ref b36), .val (.int v76), .val (.int (p1 &&& (15 : Int32))), .val (.int v80), .val (.int v84), .val (.int v86), .val (.int (F1 v86)), .unset, .unset] [(.int (if (F1 (v80 - (1 : Int32))) = (0 : Int32) then (1 : Int32) else (0 : Int32)))])) _
    exact k
  obtain ⟨v94, hv94⟩ : ∃ z : Int32, z = (if (F1 (v80 - (1 : Int32))) = (0 : Int32) then (1 : Int32) else (0 : Int32)) := ⟨_, rfl⟩
  have pre94 : Lead p e below G (T90.setTop (mkF m 284 #[.val (.int p0), .val (.int p1), .val (.int p2), .val (.ref b2), .val (.ref b36), .val (.int v76), .val (.int (p1 &&& (15 : Int32))), .val (.int v80), .val (.int v84), .val (.int v86), .val (.int (F1 v86)), .unset, .unset] [(.int v94)])) := by rw [hv94]; exact pre93
  have pre95 : Lead p e below G (T90.setTop (mkF m 290 #[.val (.int p0), .val (.int p1), .val (.int p2), .val (.ref b2), .val (.ref b36), .val (.int v76), .val (.int (p1 &&& (15 : Int32))), .val (.int v80), .val (.int v84), .val (.int v86), .val (.int (F1 v86)), .val (.int v94), .unset] [(.int (v84 + (1 : Int32)))])) := fun t k => by
    refine pre94 t ?_
    show Steps p.tables e below (T90.setTop (mkF m 284 #[.val (.int p0), .val (.int p1), .val (.int p2), .val (.ref b2), .val (.ref b36), .val (.int v76), .val (.int (p1 &&& (15 : Int32))), .val (.int v80), .val (.int v84), .val (.int v86), .val (.int (F1 v86)), .unset, .unset] [(.int v94)])) _
    refine XS.istore Y90.here hx rfl (hb hby at_284) rfl (l' := #[.val (.int p0), .val (.int p1), .val (.int p2), .val (.ref b2), .val (.ref b36), .val (.int v76), .val (.int (p1 &&& (15 : Int32))), .val (.int v80), .val (.int v84), .val (.int v86), .val (.int (F1 v86)), .val (.int v94), .unset]) rfl ?_
    show Steps p.tables e below (T90.setTop (mkF m 286 #[.val (.int p0), .val (.int p1), .val (.int p2), .val (.ref b2), .val (.ref b36), .val (.int v76), .val (.int (p1 &&& (15 : Int32))), .val (.int v80), .val (.int v84), .val (.int v86), .val (.int (F1 v86)), .val (.int v94), .unset] [])) _
    refine XS.iload Y90.here hx rfl (hb hby at_286) rfl ?_
    show Steps p.tables e below (T90.setTop (mkF m 288 #[.val (.int p0), .val (.int p1), .val (.int p2), .val (.ref b2), .val (.ref b36), .val (.int v76), .val (.int (p1 &&& (15 : Int32))), .val (.int v80), .val (.int v84), .val (.int v86), .val (.int (F1 v86)), .val (.int v94), .unset] [(.int v84)])) _
    refine XS.iconst Y90.here hx rfl (hb hby at_288) ?_
    show Steps p.tables e below (T90.setTop (mkF m 289 #[.val (.int p0), .val (.int p1), .val (.int p2), .val (.ref b2), .val (.ref b36), .val (.int v76), .val (.int (p1 &&& (15 : Int32))), .val (.int v80), .val (.int v84), .val (.int v86), .val (.int (F1 v86)), .val (.int v94), .unset] [(.int (1 : Int32)), (.int v84)])) _
    refine XS.iadd Y90.here hx rfl (hb hby at_289) rfl ?_
    show Steps p.tables e below (T90.setTop (mkF m 290 #[.val (.int p0), .val (.int p1), .val (.int p2), .val (.ref b2), .val (.ref b36), .val (.int v76), .val (.int (p1 &&& (15 : Int32))), .val (.int v80), .val (.int v84), .val (.int v86), .val (.int (F1 v86)), .val (.int v94), .unset] [(.int (v84 + (1 : Int32)))])) _
    exact k
  obtain ⟨_, _, ⟨T96, L96, k96, n96⟩, -, X96, ⟨Lc96, hQ96, l96, y96, z96⟩, st96⟩ := Jvm.LawKit.callS Y90 hx (y := (⟨"com/example/processionary/processionary/expressions/Name", "isStartChar", "(I)Z"⟩ : MethodName)) hown (mvT hZ (hw _ (List.mem_of_getElem? (i := 8) rfl))) (mvT hZ (hw _ (List.mem_of_getElem? (i := 9) rfl))) (mvT hZ (hw _ (List.mem_of_getElem? (i := 10) rfl))) (mvT hZ (hw _ (List.mem_of_getElem? (i := 11) rfl))) (by decide) (backOf (W := 0) (rm1 l Z a0 hw [] (v84 + (1 : Int32))  h68 n0 (Nat.le_trans Z0 K68.1) ) hZ (hw _ (List.mem_of_getElem? (i := 11) rfl)) (hw _ (List.mem_of_getElem? (i := 10) rfl)) (by decide) (by decide)) (g := (mkF m 290 #[.val (.int p0), .val (.int p1), .val (.int p2), .val (.ref b2), .val (.ref b36), .val (.int v76), .val (.int (p1 &&& (15 : Int32))), .val (.int v80), .val (.int v84), .val (.int v86), .val (.int (F1 v86)), .val (.int v94), .unset] [(.int (v84 + (1 : Int32)))])) rfl (by rw [hml]; rfl) (argsL := [(.int (v84 + (1 : Int32)))]) (rest := []) (lenOf pd__28_I_29_Z rfl) rfl (by show 2 * 0 + _ ≤ _; exact Nat.le_of_eq rfl) (hb hby at_290) (fun _ _ => ⟨rfl, e90, (by decide : 2 + 0 ≤ _), (by decide : 32 + 0 ≤ _)⟩)
  dsimp only [Pt.U, Pt.locs, Pt.cells, Pt.slots] at X96 l96 y96 z96 st96 hQ96
  subst l96 y96 z96
  obtain ⟨rfl, N96q, e96⟩ := hQ96
  have N96 := Fr.app N90 N96q
  obtain ⟨M96, Y96, N96⟩ : ∃ M, Stand p l e room_1 s m #[(.int p0), (.int p1), (.int p2)] below meth c T96 M 2 32 ∧ Fr n0 M := ⟨_, X96, N96⟩
  have pre96 : Lead p e below G (T96.setTop (mkF m 293 #[.val (.int p0), .val (.int p1), .val (.int p2), .val (.ref b2), .val (.ref b36), .val (.int v76), .val (.int (p1 &&& (15 : Int32))), .val (.int v80), .val (.int v84), .val (.int v86), .val (.int (F1 v86)), .val (.int v94), .unset] [(.int (F1 (v84 + (1 : Int32))))])) := fun t k => pre95 t (st96 _ k)
  have pre99 : Lead p e below G (T96.setTop (mkF m 301 #[.val (.int p0), .val (.int p1), .val (.int p2), .val (.ref b2), .val (.ref b36), .val (.int v76), .val (.int (p1 &&& (15 : Int32))), .val (.int v80), .val (.int v84), .val (.int v86), .val (.int (F1 v86)), .val (.int v94), .unset] [(.int (if (F1 (v84 + (1 : Int32))) = (0 : Int32) then (1 : Int32) else (0 : Int32)))])) := fun t k => by
    refine pre96 t ?_
    show Steps p.tables e below (T96.setTop (mkF m 293 #[.val (.int p0), .val (.int p1), .val (.int p2), .val (.ref b2), .val (.ref b36), .val (.int v76), .val (.int (p1 &&& (15 : Int32))), .val (.int v80), .val (.int v84), .val (.int v86), .val (.int (F1 v86)), .val (.int v94), .unset] [(.int (F1 (v84 + (1 : Int32))))])) _
    have j98 : ∀ t, Steps p.tables e below (T96.setTop (mkF m 301 #[.val (.int p0), .val (.int p1), .val (.int p2), .val (.ref b2), .val (.ref b36), .val (.int v76), .val (.int (p1 &&& (15 : Int32))), .val (.int v80), .val (.int v84), .val (.int v86), .val (.int (F1 v86)), .val (.int v94), .unset] [(.int (if (F1 (v84 + (1 : Int32))) = (0 : Int32) then (1 : Int32) else (0 : Int32)))])) t → Steps p.tables e below (T96.setTop (mkF m 293 #[.val (.int p0), .val (.int p1), .val (.int p2), .val (.ref b2), .val (.ref b36), .val (.int v76), .val (.int (p1 &&& (15 : Int32))), .val (.int v80), .val (.int v84), .val (.int v86), .val (.int (F1 v86)), .val (.int v94), .unset] [(.int (F1 (v84 + (1 : Int32))))])) t := fun t k => by
      by_cases hc293_97 : (F1 (v84 + (1 : Int32))) = (0 : Int32)
      · simp only [if_pos hc293_97] at k
        refine XS.ifNo Y96.here hx rfl (hb hby at_293) rfl ((if0 _ _).trans (teq hc293_97).2) ?_
        show Steps p.tables e below (T96.setTop (mkF m 296 #[.val (.int p0), .val (.int p1), .val (.int p2), .val (.ref b2), .val (.ref b36), .val (.int v76), .val (.int (p1 &&& (15 : Int32))), .val (.int v80), .val (.int v84), .val (.int v86), .val (.int (F1 v86)), .val (.int v94), .unset] [])) _
        refine XS.iconst Y96.here hx rfl (hb hby at_296) ?_
        show Steps p.tables e below (T96.setTop (mkF m 297 #[.val (.int p0), .val (.int p1), .val (.int p2), .val (.ref b2), .val (.ref b36), .val (.int v76), .val (.int (p1 &&& (15 : Int32))), .val (.int v80), .val (.int v84), .val (.int v86), .val (.int (F1 v86)), .val (.int v94), .unset] [(.int (1 : Int32))])) _
        refine XS.goto Y96.here hx rfl (pc0 := 297) (pc' := 301) rfl (hb hby at_297) (by decide) (by decide) ?_
        show Steps p.tables e below (T96.setTop (mkF m 301 #[.val (.int p0), .val (.int p1), .val (.int p2), .val (.ref b2), .val (.ref b36), .val (.int v76), .val (.int (p1 &&& (15 : Int32))), .val (.int v80), .val (.int v84), .val (.int v86), .val (.int (F1 v86)), .val (.int v94), .unset] [(.int (1 : Int32))])) _
        exact k
      · simp only [if_neg hc293_97] at k
        refine XS.ifYes Y96.here hx rfl (pc0 := 293) (pc' := 300) rfl (hb hby at_293) rfl ((if0 _ _).trans (feq hc293_97).2) (by decide) (by decide) ?_
        show Steps p.tables e below (T96.setTop (mkF m 300 #[.val (.int p0), .val (.int p1), .val (.int p2), .val (.ref b2), .val (.ref b36), .val (.int v76), .val (.int (p1 &&& (15 : Int32))), .val (.int v80), .val (.int v84), .val (.int v86), .val (.int (F1 v86)), .val (.int v94), .unset] [])) _
        refine XS.iconst Y96.here hx rfl (hb hby at_300) ?_
        show Steps p.tables e below (T96.setTop (mkF m 301 #[.val (.int p0), .val (.int p1), .val (.int p2), .val (.ref b2), .val (.ref b36), .val (.int v76), .val (.int (p1 &&& (15 : Int32))), .val (.int v80), .val (.int v84), .val (.int v86), .val (.int (F1 v86)), .val (.int v94), .unset] [(.int (0 : Int32))])) _
        exact k
    refine j98 _ ?_
    show Steps p.tables e below (T96.setTop (mkF m 301 #[.val (.int p0), .val (.int p1), .val (.int p2), .val (.ref b2), .val (.ref b36), .val (.int v76), .val (.int (p1 &&& (15 : Int32))), .val (.int v80), .val (.int v84), .val (.int v86), .val (.int (F1 v86)), .val (.int v94), .unset] [(.int (if (F1 (v84 + (1 : Int32))) = (0 : Int32) then (1 : Int32) else (0 : Int32)))])) _
    exact k
  obtain ⟨v100, hv100⟩ : ∃ z : Int32, z = (if (F1 (v84 + (1 : Int32))) = (0 : Int32) then (1 : Int32) else (0 : Int32)) := ⟨_, rfl⟩
  have pre100 : Lead p e below G (T96.setTop (mkF m 301 #[.val (.int p0), .val (.int p1), .val (.int p2), .val (.ref b2), .val (.ref b36), .val (.int v76), .val (.int (p1 &&& (15 : Int32))), .val (.int v80), .val (.int v84), .val (.int v86), .val (.int (F1 v86)), .val (.int v94), .unset] [(.int v100)])) := by rw [hv100]; exact pre99
  have pre109 : Lead p e below G (T96.setTop (mkF m 328 #[.val (.int p0), .val (.int p1), .val (.int p2), .val (.ref b2), .val (.ref b36), .val (.int v76), .val (.int (p1 &&& (15 : Int32))), .val (.int v80), .val (.int v84), .val (.int v86), .val (.int (F1 v86)), .val (.int v94), .val (.int v100)] [(.int (if v76 = (0 : Int32) then (0 : Int32) else (if (F1 v86) = (0 : Int32) then (0 : Int32) else (if v94 = (0 : Int32) then (0 : Int32) else (if v100 = (0 : Int32) then (0 : Int32) else (1 : Int32))))))])) := fun t k => by
    refine pre100 t ?_
    show Steps p.tables e below (T96.setTop (mkF m 301 #[.val (.int p0), .val (.int p1), .val (.int p2), .val (.ref b2), .val (.ref b36), .val (.int v76), .val (.int (p1 &&& (15 : Int32))), .val (.int v80), .val (.int v84), .val (.int v86), .val (.int (F1 v86)), .val (.int v94), .unset] [(.int v100)])) _
    refine XS.istore Y96.here hx rfl (hb hby at_301) rfl (l' := #[.val (.int p0), .val (.int p1), .val (.int p2), .val (.ref b2), .val (.ref b36), .val (.int v76), .val (.int (p1 &&& (15 : Int32))), .val (.int v80), .val (.int v84), .val (.int v86), .val (.int (F1 v86)), .val (.int v94), .val (.int v100)]) rfl ?_
    show Steps p.tables e below (T96.setTop (mkF m 303 #[.val (.int p0), .val (.int p1), .val (.int p2), .val (.ref b2), .val (.ref b36), .val (.int v76), .val (.int (p1 &&& (15 : Int32))), .val (.int v80), .val (.int v84), .val (.int v86), .val (.int (F1 v86)), .val (.int v94), .val (.int v100)] [])) _
    refine XS.iload Y96.here hx rfl (hb hby at_303) rfl ?_
    show Steps p.tables e below (T96.setTop (mkF m 305 #[.val (.int p0), .val (.int p1), .val (.int p2), .val (.ref b2), .val (.ref b36), .val (.int v76), .val (.int (p1 &&& (15 : Int32))), .val (.int v80), .val (.int v84), .val (.int v86), .val (.int (F1 v86)), .val (.int v94), .val (.int v100)] [(.int v76)])) _
    have j108 : ∀ t, Steps p.tables e below (T96.setTop (mkF m 328 #[.val (.int p0), .val (.int p1), .val (.int p2), .val (.ref b2), .val (.ref b36), .val (.int v76), .val (.int (p1 &&& (15 : Int32))), .val (.int v80), .val (.int v84), .val (.int v86), .val (.int (F1 v86)), .val (.int v94), .val (.int v100)] [(.int (if v76 = (0 : Int32) then (0 : Int32) else (if (F1 v86) = (0 : Int32) then (0 : Int32) else (if v94 = (0 : Int32) then (0 : Int32) else (if v100 = (0 : Int32) then (0 : Int32) else (1 : Int32))))))])) t → Steps p.tables e below (T96.setTop (mkF m 305 #[.val (.int p0), .val (.int p1), .val (.int p2), .val (.ref b2), .val (.ref b36), .val (.int v76), .val (.int (p1 &&& (15 : Int32))), .val (.int v80), .val (.int v84), .val (.int v86), .val (.int (F1 v86)), .val (.int v94), .val (.int v100)] [(.int v76)])) t := fun t k => by
      by_cases hc305_101 : v76 = (0 : Int32)
      · simp only [if_pos hc305_101] at k
        refine XS.ifYes Y96.here hx rfl (pc0 := 305) (pc' := 327) rfl (hb hby at_305) rfl ((if0 _ _).trans (teq hc305_101).1) (by decide) (by decide) ?_
        show Steps p.tables e below (T96.setTop (mkF m 327 #[.val (.int p0), .val (.int p1), .val (.int p2), .val (.ref b2), .val (.ref b36), .val (.int v76), .val (.int (p1 &&& (15 : Int32))), .val (.int v80), .val (.int v84), .val (.int v86), .val (.int (F1 v86)), .val (.int v94), .val (.int v100)] [])) _
        refine XS.iconst Y96.here hx rfl (hb hby at_327) ?_
        show Steps p.tables e below (T96.setTop (mkF m 328 #[.val (.int p0), .val (.int p1), .val (.int p2), .val (.ref b2), .val (.ref b36), .val (.int v76), .val (.int (p1 &&& (15 : Int32))), .val (.int v80), .val (.int v84), .val (.int v86), .val (.int (F1 v86)), .val (.int v94), .val (.int v100)] [(.int (0 : Int32))])) _
        exact k
      · simp only [if_neg hc305_101] at k
        refine XS.ifNo Y96.here hx rfl (hb hby at_305) rfl ((if0 _ _).trans (feq hc305_101).1) ?_
        show Steps p.tables e below (T96.setTop (mkF m 308 #[.val (.int p0), .val (.int p1), .val (.int p2), .val (.ref b2), .val (.ref b36), .val (.int v76), .val (.int (p1 &&& (15 : Int32))), .val (.int v80), .val (.int v84), .val (.int v86), .val (.int (F1 v86)), .val (.int v94), .val (.int v100)] [])) _
        refine XS.iload Y96.here hx rfl (hb hby at_308) rfl ?_
        show Steps p.tables e below (T96.setTop (mkF m 310 #[.val (.int p0), .val (.int p1), .val (.int p2), .val (.ref b2), .val (.ref b36), .val (.int v76), .val (.int (p1 &&& (15 : Int32))), .val (.int v80), .val (.int v84), .val (.int v86), .val (.int (F1 v86)), .val (.int v94), .val (.int v100)] [(.int (F1 v86))])) _
        have j107 : ∀ t, Steps p.tables e below (T96.setTop (mkF m 328 #[.val (.int p0), .val (.int p1), .val (.int p2), .val (.ref b2), .val (.ref b36), .val (.int v76), .val (.int (p1 &&& (15 : Int32))), .val (.int v80), .val (.int v84), .val (.int v86), .val (.int (F1 v86)), .val (.int v94), .val (.int v100)] [(.int (if (F1 v86) = (0 : Int32) then (0 : Int32) else (if v94 = (0 : Int32) then (0 : Int32) else (if v100 = (0 : Int32) then (0 : Int32) else (1 : Int32)))))])) t → Steps p.tables e below (T96.setTop (mkF m 310 #[.val (.int p0), .val (.int p1), .val (.int p2), .val (.ref b2), .val (.ref b36), .val (.int v76), .val (.int (p1 &&& (15 : Int32))), .val (.int v80), .val (.int v84), .val (.int v86), .val (.int (F1 v86)), .val (.int v94), .val (.int v100)] [(.int (F1 v86))])) t := fun t k => by
          by_cases hc310_102 : (F1 v86) = (0 : Int32)
          · simp only [if_pos hc310_102] at k
            refine XS.ifYes Y96.here hx rfl (pc0 := 310) (pc' := 327) rfl (hb hby at_310) rfl ((if0 _ _).trans (teq hc310_102).1) (by decide) (by decide) ?_
            show Steps p.tables e below (T96.setTop (mkF m 327 #[.val (.int p0), .val (.int p1), .val (.int p2), .val (.ref b2), .val (.ref b36), .val (.int v76), .val (.int (p1 &&& (15 : Int32))), .val (.int v80), .val (.int v84), .val (.int v86), .val (.int (F1 v86)), .val (.int v94), .val (.int v100)] [])) _
            refine XS.iconst Y96.here hx rfl (hb hby at_327) ?_
            show Steps p.tables e below (T96.setTop (mkF m 328 #[.val (.int p0), .val (.int p1), .val (.int p2), .val (.ref b2), .val (.ref b36), .val (.int v76), .val (.int (p1 &&& (15 : Int32))), .val (.int v80), .val (.int v84), .val (.int v86), .val (.int (F1 v86)), .val (.int v94), .val (.int v100)] [(.int (0 : Int32))])) _
            exact k
          · simp only [if_neg hc310_102] at k
            refine XS.ifNo Y96.here hx rfl (hb hby at_310) rfl ((if0 _ _).trans (feq hc310_102).1) ?_
            show Steps p.tables e below (T96.setTop (mkF m 313 #[.val (.int p0), .val (.int p1), .val (.int p2), .val (.ref b2), .val (.ref b36), .val (.int v76), .val (.int (p1 &&& (15 : Int32))), .val (.int v80), .val (.int v84), .val (.int v86), .val (.int (F1 v86)), .val (.int v94), .val (.int v100)] [])) _
            refine XS.iload Y96.here hx rfl (hb hby at_313) rfl ?_
            show Steps p.tables e below (T96.setTop (mkF m 315 #[.val (.int p0), .val (.int p1), .val (.int p2), .val (.ref b2), .val (.ref b36), .val (.int v76), .val (.int (p1 &&& (15 : Int32))), .val (.int v80), .val (.int v84), .val (.int v86), .val (.int (F1 v86)), .val (.int v94), .val (.int v100)] [(.int v94)])) _
            have j106 : ∀ t, Steps p.tables e below (T96.setTop (mkF m 328 #[.val (.int p0), .val (.int p1), .val (.int p2), .val (.ref b2), .val (.ref b36), .val (.int v76), .val (.int (p1 &&& (15 : Int32))), .val (.int v80), .val (.int v84), .val (.int v86), .val (.int (F1 v86)), .val (.int v94), .val (.int v100)] [(.int (if v94 = (0 : Int32) then (0 : Int32) else (if v100 = (0 : Int32) then (0 : Int32) else (1 : Int32))))])) t → Steps p.tables e below (T96.setTop (mkF m 315 #[.val (.int p0), .val (.int p1), .val (.int p2), .val (.ref b2), .val (.ref b36), .val (.int v76), .val (.int (p1 &&& (15 : Int32))), .val (.int v80), .val (.int v84), .val (.int v86), .val (.int (F1 v86)), .val (.int v94), .val (.int v100)] [(.int v94)])) t := fun t k => by
              by_cases hc315_103 : v94 = (0 : Int32)
              · simp only [if_pos hc315_103] at k
                refine XS.ifYes Y96.here hx rfl (pc0 := 315) (pc' := 327) rfl (hb hby at_315) rfl ((if0 _ _).trans (teq hc315_103).1) (by decide) (by decide) ?_
                show Steps p.tables e below (T96.setTop (mkF m 327 #[.val (.int p0), .val (.int p1), .val (.int p2), .val (.ref b2), .val (.ref b36), .val (.int v76), .val (.int (p1 &&& (15 : Int32))), .val (.int v80), .val (.int v84), .val (.int v86), .val (.int (F1 v86)), .val (.int v94), .val (.int v100)] [])) _
                refine XS.iconst Y96.here hx rfl (hb hby at_327) ?_
                show Steps p.tables e below (T96.setTop (mkF m 328 #[.val (.int p0), .val (.int p1), .val (.int p2), .val (.ref b2), .val (.ref b36), .val (.int v76), .val (.int (p1 &&& (15 : Int32))), .val (.int v80), .val (.int v84), .val (.int v86), .val (.int (F1 v86)), .val (.int v94), .val (.int v100)] [(.int (0 : Int32))])) _
                exact k
              · simp only [if_neg hc315_103] at k
                refine XS.ifNo Y96.here hx rfl (hb hby at_315) rfl ((if0 _ _).trans (feq hc315_103).1) ?_
                show Steps p.tables e below (T96.setTop (mkF m 318 #[.val (.int p0), .val (.int p1), .val (.int p2), .val (.ref b2), .val (.ref b36), .val (.int v76), .val (.int (p1 &&& (15 : Int32))), .val (.int v80), .val (.int v84), .val (.int v86), .val (.int (F1 v86)), .val (.int v94), .val (.int v100)] [])) _
                refine XS.iload Y96.here hx rfl (hb hby at_318) rfl ?_
                show Steps p.tables e below (T96.setTop (mkF m 320 #[.val (.int p0), .val (.int p1), .val (.int p2), .val (.ref b2), .val (.ref b36), .val (.int v76), .val (.int (p1 &&& (15 : Int32))), .val (.int v80), .val (.int v84), .val (.int v86), .val (.int (F1 v86)), .val (.int v94), .val (.int v100)] [(.int v100)])) _
                have j105 : ∀ t, Steps p.tables e below (T96.setTop (mkF m 328 #[.val (.int p0), .val (.int p1), .val (.int p2), .val (.ref b2), .val (.ref b36), .val (.int v76), .val (.int (p1 &&& (15 : Int32))), .val (.int v80), .val (.int v84), .val (.int v86), .val (.int (F1 v86)), .val (.int v94), .val (.int v100)] [(.int (if v100 = (0 : Int32) then (0 : Int32) else (1 : Int32)))])) t → Steps p.tables e below (T96.setTop (mkF m 320 #[.val (.int p0), .val (.int p1), .val (.int p2), .val (.ref b2), .val (.ref b36), .val (.int v76), .val (.int (p1 &&& (15 : Int32))), .val (.int v80), .val (.int v84), .val (.int v86), .val (.int (F1 v86)), .val (.int v94), .val (.int v100)] [(.int v100)])) t := fun t k => by
                  by_cases hc320_104 : v100 = (0 : Int32)
                  · simp only [if_pos hc320_104] at k
                    refine XS.ifYes Y96.here hx rfl (pc0 := 320) (pc' := 327) rfl (hb hby at_320) rfl ((if0 _ _).trans (teq hc320_104).1) (by decide) (by decide) ?_
                    show Steps p.tables e below (T96.setTop (mkF m 327 #[.val (.int p0), .val (.int p1), .val (.int p2), .val (.ref b2), .val (.ref b36), .val (.int v76), .val (.int (p1 &&& (15 : Int32))), .val (.int v80), .val (.int v84), .val (.int v86), .val (.int (F1 v86)), .val (.int v94), .val (.int v100)] [])) _
                    refine XS.iconst Y96.here hx rfl (hb hby at_327) ?_
                    show Steps p.tables e below (T96.setTop (mkF m 328 #[.val (.int p0), .val (.int p1), .val (.int p2), .val (.ref b2), .val (.ref b36), .val (.int v76), .val (.int (p1 &&& (15 : Int32))), .val (.int v80), .val (.int v84), .val (.int v86), .val (.int (F1 v86)), .val (.int v94), .val (.int v100)] [(.int (0 : Int32))])) _
                    exact k
                  · simp only [if_neg hc320_104] at k
                    refine XS.ifNo Y96.here hx rfl (hb hby at_320) rfl ((if0 _ _).trans (feq hc320_104).1) ?_
                    show Steps p.tables e below (T96.setTop (mkF m 323 #[.val (.int p0), .val (.int p1), .val (.int p2), .val (.ref b2), .val (.ref b36), .val (.int v76), .val (.int (p1 &&& (15 : Int32))), .val (.int v80), .val (.int v84), .val (.int v86), .val (.int (F1 v86)), .val (.int v94), .val (.int v100)] [])) _
                    refine XS.iconst Y96.here hx rfl (hb hby at_323) ?_
                    show Steps p.tables e below (T96.setTop (mkF m 324 #[.val (.int p0), .val (.int p1), .val (.int p2), .val (.ref b2), .val (.ref b36), .val (.int v76), .val (.int (p1 &&& (15 : Int32))), .val (.int v80), .val (.int v84), .val (.int v86), .val (.int (F1 v86)), .val (.int v94), .val (.int v100)] [(.int (1 : Int32))])) _
                    refine XS.goto Y96.here hx rfl (pc0 := 324) (pc' := 328) rfl (hb hby at_324) (by decide) (by decide) ?_
                    show Steps p.tables e below (T96.setTop (mkF m 328 #[.val (.int p0), .val (.int p1), .val (.int p2), .val (.ref b2), .val (.ref b36), .val (.int v76), .val (.int (p1 &&& (15 : Int32))), .val (.int v80), .val (.int v84), .val (.int v86), .val (.int (F1 v86)), .val (.int v94), .val (.int v100)] [(.int (1 : Int32))])) _
                    exact k
                refine j105 _ ?_
                show Steps p.tables e below (T96.setTop (mkF m 328 #[.val (.int p0), .val (.int p1), .val (.int p2), .val (.ref b2), .val (.ref b36), .val (.int v76), .val (.int (p1 &&& (15 : Int32))), .val (.int v80), .val (.int v84), .val (.int v86), .val (.int (F1 v86)), .val (.int v94), .val (.int v100)] [(.int (if v100 = (0 : Int32) then (0 : Int32) else (1 : Int32)))])) _
                exact k
            refine j106 _ ?_
            show Steps p.tables e below (T96.setTop (mkF m 328 #[.val (.int p0), .val (.int p1), .val (.int p2), .val (.ref b2), .val (.ref b36), .val (.int v76), .val (.int (p1 &&& (15 : Int32))), .val (.int v80), .val (.int v84), .val (.int v86), .val (.int (F1 v86)), .val (.int v94), .val (.int v100)] [(.int (if v94 = (0 : Int32) then (0 : Int32) else (if v100 = (0 : Int32) then (0 : Int32) else (1 : Int32))))])) _
            exact k
        refine j107 _ ?_
        show Steps p.tables e below (T96.setTop (mkF m 328 #[.val (.int p0), .val (.int p1), .val (.int p2), .val (.ref b2), .val (.ref b36), .val (.int v76), .val (.int (p1 &&& (15 : Int32))), .val (.int v80), .val (.int v84), .val (.int v86), .val (.int (F1 v86)), .val (.int v94), .val (.int v100)] [(.int (if (F1 v86) = (0 : Int32) then (0 : Int32) else (if v94 = (0 : Int32) then (0 : Int32) else (if v100 = (0 : Int32) then (0 : Int32) else (1 : Int32)))))])) _
        exact k
    refine j108 _ ?_
    show Steps p.tables e below (T96.setTop (mkF m 328 #[.val (.int p0), .val (.int p1), .val (.int p2), .val (.ref b2), .val (.ref b36), .val (.int v76), .val (.int (p1 &&& (15 : Int32))), .val (.int v80), .val (.int v84), .val (.int v86), .val (.int (F1 v86)), .val (.int v94), .val (.int v100)] [(.int (if v76 = (0 : Int32) then (0 : Int32) else (if (F1 v86) = (0 : Int32) then (0 : Int32) else (if v94 = (0 : Int32) then (0 : Int32) else (if v100 = (0 : Int32) then (0 : Int32) else (1 : Int32))))))])) _
    exact k
  obtain ⟨v110, hv110⟩ : ∃ z : Int32, z = (if v76 = (0 : Int32) then (0 : Int32) else (if (F1 v86) = (0 : Int32) then (0 : Int32) else (if v94 = (0 : Int32) then (0 : Int32) else (if v100 = (0 : Int32) then (0 : Int32) else (1 : Int32))))) := ⟨_, rfl⟩
  have pre110 : Lead p e below G (T96.setTop (mkF m 328 #[.val (.int p0), .val (.int p1), .val (.int p2), .val (.ref b2), .val (.ref b36), .val (.int v76), .val (.int (p1 &&& (15 : Int32))), .val (.int v80), .val (.int v84), .val (.int v86), .val (.int (F1 v86)), .val (.int v94), .val (.int v100)] [(.int v110)])) := by rw [hv110]; exact pre109
  obtain ⟨fs, hr, hrun, hended, hW, hsame⟩ := Y96.leave (v := some (.int (nar .boolean v110))) (fun h => by rw [Bd.returns] at h; cases h)
  subst hG
  refine ⟨_, _, pre110 _ ?_, hrun, hended, _, _, rfl, ?_, ⟨_, rfl⟩, hW, hsame.mono (by decide) (by decide)⟩
  · show Steps p.tables e below (T96.setTop (mkF m 328 #[.val (.int p0), .val (.int p1), .val (.int p2), .val (.ref b2), .val (.ref b36), .val (.int v76), .val (.int (p1 &&& (15 : Int32))), .val (.int v80), .val (.int v84), .val (.int v86), .val (.int (F1 v86)), .val (.int v94), .val (.int v100)] [(.int v110)])) _
    exact retN Y96 hx (t := .boolean) Bd.returns (by simp) (hb hby at_328) hr
  · show Q0 Z p0 p1 p2 h0 n0 _ T96.heap _
    refine ⟨congrArg (fun z => some (Value.int z)) (Eq.trans (?_ : (nar .boolean v110) = F0 p0 p1 p2) (own_law p0 p1 p2)), N96⟩
    subst hv110 hv100 hv94 hv86 hv84 hv80 hv76 hg64 hg58 hg52 hg46 hg40 hg30 hg24 hg18 hg12 hg6
    rfl
set_option maxRecDepth 65536 in
set_option maxHeartbeats 40000000 in
theorem comes_1 {Post : Tables → Env → Array Value → State → Outcome → State → Prop} (hpost : ∀ tb e args s v u, (limb_1_1.after args s (.returned v) u = true ∧ limb_1_2.after args s (.returned v) u = true ∧ True) → FrameEnd s (.returned v) u (Jvm.fieldLocs frame_1_writes args s ++ Jvm.arrayLocs frame_1_arrays args s ++ Jvm.staticLocs frame_1_statics s) 16 128 → Post tb e args s (.returned v) u) :
    ArmFor flags0 classFile x code maxLocals ret World_1 tables_1 room_1 Calls_1 rest_1 Pre_1 Post := by
  intro l hfl _ _ p e ha hc hk s m args below hf hA hF happ hP
  obtain ⟨hcalls, hrest, hpre⟩ := hP
  obtain ⟨-, -, -, hnamed, -, -, -, hat⟩ := (Spec.applies_iff hf).mp happ
  obtain ⟨hg, hn⟩ := and_e (Cond.before_iff.mp (show (Jvm.Cond.and given_1 narrow_1).before args s = true from hpre))
  obtain ⟨g1, g2⟩ := and_e hg
  obtain ⟨g3, g4⟩ := and_e g2
  obtain ⟨g5, g6⟩ := and_e g4
  obtain ⟨w0, w1, w2, rfl⟩ : ∃ w0 w1 w2 : Value, args = #[w0, w1, w2] := by
    have hs : args.size = 3 := by simpa [Cond.value, given_1] using g1
    obtain ⟨L⟩ := args
    match L, hs with
    | [w0, w1, w2], _ => exact ⟨w0, w1, w2, rfl⟩
  have hw := fun d (hd : d ∈ tables_1) => atoms_spec (ws := Jvm.Cond.code x code maxLocals ret :: tables_1) hat d (List.mem_cons_of_mem _ hd)
  obtain ⟨i0, ei0⟩ := is_v g3
  obtain rfl : w0 = (.int i0) := Option.some.inj ei0
  obtain ⟨i1, ei1⟩ := is_v g5
  obtain rfl : w1 = (.int i1) := Option.some.inj ei1
  obtain ⟨i2, ei2⟩ := is_v g6
  obtain rfl : w2 = (.int i2) := Option.some.inj ei2
  obtain ⟨n, o, h1, h2, h3, _, L, rfl, ⟨rfl, N⟩, hq⟩ := rm0 l s _ hw tables_1 i0 i1 i2 s.heap s.heap.size (Nat.le_refl _) p e ha hc hk s m _ below hf ((Spec.applies_iff_loose hf).mp happ).1 ⟨rfl, State.Warmed39.refl s, rfl⟩ trivial
  refine ⟨n, _, h1, h2, h3, hpost _ _ _ _ _ _ ⟨Cond.after_iff.mpr rfl, Cond.after_iff.mpr (eq_i res_at (Term.int_eval (1)) rfl), trivial⟩ ⟨hq.1, hq.2.1, (hq.2.2.sift fun y hy => Or.inr (N y hy)).mono (by decide) (by decide)⟩⟩
theorem main_1_1 : Claimed_1_1 := comes_1 fun _ _ _ _ _ _ h hF => ⟨h.1, hF⟩
theorem main_1_2 : Claimed_1_2 := comes_1 fun _ _ _ _ _ _ h hF => ⟨h.2.1, hF⟩
end Jvm.Pilot.@@N@@
namespace Jvm.Pilot.@@N@@
open Jvm Jvm.ClassFile Sem Op Lib Jvm.Free Jvm.Stand Jvm.Pilot.@@N@@.Jvm.D
/-! MADE BY PROGRAM (witnessworld.py) out of the Statement's table words and the real class files: 9 classes; the members and pool entries that the words name. The judged class is class 1, her method 3. -/
namespace start1
open Jvm.ClassFile
def u (s : String) : CpInfo := .utf8 (stringToUtf16 s)
/-- a pool by its gaps: so many unusable entries, then the entry; so many at the end -/
def gap : Nat → List CpInfo → List CpInfo
  | 0, r => r
  | n + 1, r => .unusable :: gap n r
def poolList (es : List (Nat × CpInfo)) (last : Nat) : List CpInfo := es.foldr (fun e r => gap e.1 (e.2 :: r)) (gap last [])
def pool (es : List (Nat × CpInfo)) (last : Nat) : Array CpInfo := ⟨poolList es last⟩
def fileOf (pool : Array CpInfo) (this : Nat) (attrs : Array Attribute := #[]) (ms : Array MethodInfo := #[]) (fl : Nat := 33) (sup : Nat := 0) (ifs : Array Nat := #[]) (fds : Array FieldInfo := #[]) : ClassFile where
  minorVersion := 0
  majorVersion := 65
  constantPool := pool
  accessFlags := fl
  thisClass := this
  superClass := sup
  interfaces := ifs
  fields := fds
  methods := ms
  attributes := attrs
def plain (name : String) (sup : Option ClassId) : Class where
  name := name
  kind := .ordinary
  loader := none
  accessFlags := 33
  super := sup
  interfaces := #[]
  cf := none
  fields := #[]
  methods := #[]
  instanceTypes := #[]
  staticTypes := #[]
  resolved := #[]
  callSites := []
  init := .initialized
  statics := none
  mirror := none

def pool0 : Array CpInfo := pool [(5, u "<init>"), (0, u "()V"), (1, .class_ 10), (1, u "java/lang/Object")] 113

def k0m0 : Method := { name := "<init>", desc := "()V", sig := { parameters := [], returnType := none }, accessFlags := 1, code := none }
/-- java/lang/Object -/
def k0 : Class := { plain "java/lang/Object" none with
  accessFlags := 33
  interfaces := #[]
  cf := some (fileOf pool0 8 #[] #[{ accessFlags := 1, nameIndex := 5, descriptorIndex := 6, attributes := #[] }] 33 0 #[] #[])
  fields := #[]
  methods := #[k0m0]
  instanceTypes := #[]
  staticTypes := #[]
  resolved := Array.replicate 124 none
  statics := none }

def pool1 : Array CpInfo := pool [(2, .class_ 4), (1, u "java/lang/Object"), (0, u "<init>"), (0, u "()V"), (0, .integer 55296), (0, .integer 63743), (0, .integer 64976), (0, .integer 65007), (0, .integer 65534), (0, .integer 65535), (0, .integer 983039), (0, .methodref 15 16), (0, .class_ 17), (0, .nameAndType 18 19), (0, u "com/example/processionary/processionary/expressions/NameIsStartCharPinLaw"), (0, u "excluded"), (0, u "(I)Z"), (0, .integer 63744), (0, .integer 65008), (0, .integer 65536), (0, .integer 55295), (0, .integer 64975), (0, .integer 65533), (0, .methodref 27 28), (0, .class_ 29), (0, .nameAndType 30 19), (0, u "com/example/processionary/processionary/expressions/Name"), (0, u "isStartChar"), (0, .methodref 15 32), (0, .nameAndType 33 19), (0, u "reference"), (0, .integer 2147483647), (3, u "law"), (0, u "(III)Z")] 4

def k1m0 : Method := { name := "<init>", desc := "()V", sig := { parameters := [], returnType := none }, accessFlags := 1, code := none }
def k1c1 : Code := { maxStack := 2, maxLocals := 1, code := method_2_code, exceptionTable := #[], attributes := #[] }
def k1m1 : Method := { name := "excluded", desc := "(I)Z", sig := { parameters := [.int], returnType := some .boolean }, accessFlags := 10, code := some k1c1 }
def k1c2 : Code := { maxStack := 2, maxLocals := 1, code := method_3_code, exceptionTable := #[], attributes := #[] }
def k1m2 : Method := { name := "reference", desc := "(I)Z", sig := { parameters := [.int], returnType := some .boolean }, accessFlags := 10, code := some k1c2 }
def k1c3 : Code := { maxStack := 4, maxLocals := 13, code := code, exceptionTable := #[], attributes := #[] }
def k1m3 : Method := { name := "law", desc := "(III)Z", sig := { parameters := [.int, .int, .int], returnType := some .boolean }, accessFlags := 9, code := some k1c3 }
/-- com/example/processionary/processionary/expressions/NameIsStartCharPinLaw -/
def k1 : Class := { plain "com/example/processionary/processionary/expressions/NameIsStartCharPinLaw" (some 0) with
  accessFlags := 49
  interfaces := #[]
  cf := some (fileOf pool1 15 #[] #[{ accessFlags := 1, nameIndex := 5, descriptorIndex := 6, attributes := #[] }, { accessFlags := 10, nameIndex := 18, descriptorIndex := 19, attributes := #[] }, { accessFlags := 10, nameIndex := 33, descriptorIndex := 19, attributes := #[] }, { accessFlags := 9, nameIndex := 38, descriptorIndex := 39, attributes := #[] }] 49 2 #[] #[])
  fields := #[]
  methods := #[k1m0, k1m1, k1m2, k1m3]
  instanceTypes := #[]
  staticTypes := #[]
  resolved := Array.replicate 44 none
  statics := none }

def pool2 : Array CpInfo := pool [(2, .class_ 4), (1, u "java/lang/Object"), (3, .class_ 10), (1, u "com/example/processionary/processionary/expressions/Name"), (0, u "namespace"), (0, u "Ljava/lang/String;"), (2, u "localName"), (85, u "isStartChar"), (0, u "(I)Z"), (6, .integer 55295), (0, .integer 63744), (0, .integer 64975), (0, .integer 65008), (0, .integer 65533), (0, .integer 65536), (0, .integer 983039)] 80

def k2c0 : Code := { maxStack := 2, maxLocals := 1, code := prog_69_method_9_code, exceptionTable := #[], attributes := #[] }
def k2m0 : Method := { name := "isStartChar", desc := "(I)Z", sig := { parameters := [.int], returnType := some .boolean }, accessFlags := 9, code := some k2c0 }
/-- com/example/processionary/processionary/expressions/Name -/
def k2 : Class := { plain "com/example/processionary/processionary/expressions/Name" (some 0) with
  accessFlags := 49
  interfaces := #[]
  cf := some (fileOf pool2 8 #[] #[{ accessFlags := 9, nameIndex := 101, descriptorIndex := 102, attributes := #[] }] 49 2 #[] #[{ accessFlags := 18, nameIndex := 11, descriptorIndex := 12, attributes := #[] }, { accessFlags := 18, nameIndex := 15, descriptorIndex := 12, attributes := #[] }])
  fields := #[{ name := "namespace", type := (.object "java/lang/String"), accessFlags := 18, slot := 0, constantValue := 0 }, { name := "localName", type := (.object "java/lang/String"), accessFlags := 18, slot := 1, constantValue := 0 }]
  methods := #[k2m0]
  instanceTypes := #[(.object "java/lang/String"), (.object "java/lang/String")]
  staticTypes := #[]
  resolved := Array.replicate 196 none
  statics := none }

def pool3 : Array CpInfo := pool [(1, u "java/lang/Cloneable"), (0, .class_ 1), (0, u "java/lang/Object"), (0, .class_ 3)] 3

/-- java/lang/Cloneable -/
def k3 : Class := { plain "java/lang/Cloneable" (some 0) with
  accessFlags := 1537
  interfaces := #[]
  cf := some (fileOf pool3 2 #[] #[] 1537 4 #[] #[])
  fields := #[]
  methods := #[]
  instanceTypes := #[]
  staticTypes := #[]
  resolved := Array.replicate 8 none
  statics := none }

def pool4 : Array CpInfo := pool [(1, u "java/io/Serializable"), (0, .class_ 1), (0, u "java/lang/Object"), (0, .class_ 3)] 3

/-- java/io/Serializable -/
def k4 : Class := { plain "java/io/Serializable" (some 0) with
  accessFlags := 1537
  interfaces := #[]
  cf := some (fileOf pool4 2 #[] #[] 1537 4 #[] #[])
  fields := #[]
  methods := #[]
  instanceTypes := #[]
  staticTypes := #[]
  resolved := Array.replicate 8 none
  statics := none }

/-- the primitive byte -/
def k5 : Class := { plain "byte" none with kind := .primitive 'B', accessFlags := 0x411 }
/-- [B -/
def k6 : Class := { plain "[B" (some 0) with kind := .array 5 .byte, interfaces := #[3, 4], accessFlags := 1041 }

/-- the primitive int -/
def k7 : Class := { plain "int" none with kind := .primitive 'I', accessFlags := 0x411 }
/-- [I -/
def k8 : Class := { plain "[I" (some 0) with kind := .array 7 .int, interfaces := #[3, 4], accessFlags := 1041 }

def heap : Heap := #[]
def classes : Array Class := #[k0, k1, k2, k3, k4, k5, k6, k7, k8]
def interned : List (Array UInt16 × Addr) := []
def slotsUsed : Nat := 0
def theMethod : MethodId := ⟨1, 3⟩
def args0 : Array Value := #[.int 5, .int 9, .int 9]
def aboutOver (below : List Frame) : State where
  vm := { classes := classes, interned := interned.toArray }
  heap := heap
  slotsUsed := slotsUsed
  threads := #[{ frames := .invoking theMethod args0 :: below }]
def below0 : List Frame := [.native { method := ⟨0, 0⟩, args := #[] }]
def about1 : State := aboutOver below0
def p0 : Program := .bare "" "" ""
def e0 : Env := launch0.env 0 0 0
theorem w_frames : about1.frames = Frame.invoking theMethod args0 :: below0 := rfl
set_option maxRecDepth 65536 in
theorem w_args : argsFit about1.vm theMethod args0 = true := by decide +kernel
set_option maxRecDepth 65536 in
theorem w_heap : heapFits about1 = true := by decide +kernel
set_option maxRecDepth 65536 in
theorem w_runnable : about1.curStatus? = some .runnable := by decide +kernel
set_option maxRecDepth 65536 in
theorem w_alone : about1.alone = true := by decide +kernel
set_option maxRecDepth 65536 in
theorem w_named : about1.methodNamed? x = some theMethod := by decide +kernel
set_option maxRecDepth 65536 in
theorem w_hears : about1.hears theMethod below0 = true := by decide +kernel
set_option maxRecDepth 65536 in
theorem w_ripe : about1.ripe theMethod args0 below0 = true := by decide +kernel
theorem w_running : about1.status = .running := rfl
set_option maxRecDepth 65536 in
theorem w_room : about1.hasRoom e0.platform room_1 = true :=
  launch0.hasRoom_least _ room_1 (by decide +kernel) (by decide +kernel) (by decide +kernel) (by decide +kernel) (by decide +kernel) (by decide +kernel)
theorem allAtoms_all (ts : List Jvm.Cond) (a : Array Jvm.Value) (st : Jvm.State) : (allAtoms ts).before a st = ts.all (fun c => c.before a st) := by
  induction ts with
  | nil => rfl
  | cons c t ih =>
    show (Jvm.Cond.and c (allAtoms t)).before a st = _
    rw [Jvm.Cond.before_and, ih, List.all_cons]
def words1 : List Jvm.Cond := Jvm.Cond.code x code maxLocals ret :: tables_1
/-- a 'code' word, met by the world's own term for the bytes: nothing is compared byte by byte -/
theorem code_word {y : MethodName} {bytes : ByteArray} {mx : Nat} {rt : Option FieldType} {a : Array Value} {s : State} {m : MethodId} {meth : Method} {c : Code} (h1 : s.methodNamed? y = some m) (h2 : s.vm.method? m = some meth) (h3 : meth.code = some c) (h4 : c.code = bytes)
    (h5 : (c.maxLocals == mx && c.exceptionTable.isEmpty && decide (c.maxStack ≤ mostOperands) && decide (meth.sig.returnType = rt) && !meth.locks && decide (parseMethodDescriptor y.desc = some meth.sig)) = true) : (Jvm.Cond.code y bytes mx rt).before a s = true := by
  simp only [Bool.and_eq_true, beq_iff_eq, Bool.not_eq_true', decide_eq_true_eq] at h5
  obtain ⟨⟨⟨⟨⟨g1, g2⟩, g3⟩, g4⟩, g5⟩, g6⟩ := h5
  simp [Cond.before, Cond.holds, Cond.value, h1, h2, h3, h4, g1, g2, g3, g4, g5, g6]
def isCode : Jvm.Cond → Bool
  | .code _ _ _ _ => true
  | _ => false
theorem all_split {L : List Jvm.Cond} {P : Jvm.Cond → Bool} (h1 : L.all (fun c => isCode c || P c) = true) (h2 : ∀ c ∈ L.filter isCode, P c = true) : L.all P = true := by
  refine List.all_eq_true.mpr fun c hc => ?_
  have h := List.all_eq_true.mp h1 c hc
  rcases Bool.eq_false_or_eq_true (isCode c) with hi | hi
  · exact h2 c (List.mem_filter.mpr ⟨hc, hi⟩)
  · simpa [hi] using h
set_option maxRecDepth 65536 in
theorem w_c0 : (Jvm.Cond.code x code maxLocals ret).before args0 about1 = true := code_word (m := ⟨1, 3⟩) (meth := k1m3) (c := k1c3) (by decide +kernel) rfl rfl rfl (by decide +kernel)
set_option maxRecDepth 65536 in
theorem w_c1 : (Jvm.Cond.code ({ cls := "com/example/processionary/processionary/expressions/Name", name := "isStartChar", desc := "(I)Z" } : Jvm.MethodName) prog_69_method_9_code (1 : Nat) (Option.some Jvm.ClassFile.FieldType.boolean)).before args0 about1 = true := code_word (m := ⟨2, 0⟩) (meth := k2m0) (c := k2c0) (by decide +kernel) rfl rfl rfl (by decide +kernel)
set_option maxRecDepth 65536 in
theorem w_c2 : (Jvm.Cond.code ({ cls := "com/example/processionary/processionary/expressions/NameIsStartCharPinLaw", name := "reference", desc := "(I)Z" } : Jvm.MethodName) method_3_code (1 : Nat) (Option.some Jvm.ClassFile.FieldType.boolean)).before args0 about1 = true := code_word (m := ⟨1, 2⟩) (meth := k1m2) (c := k1c2) (by decide +kernel) rfl rfl rfl (by decide +kernel)
set_option maxRecDepth 65536 in
theorem w_c3 : (Jvm.Cond.code ({ cls := "com/example/processionary/processionary/expressions/NameIsStartCharPinLaw", name := "excluded", desc := "(I)Z" } : Jvm.MethodName) method_2_code (1 : Nat) (Option.some Jvm.ClassFile.FieldType.boolean)).before args0 about1 = true := code_word (m := ⟨1, 1⟩) (meth := k1m1) (c := k1c1) (by decide +kernel) rfl rfl rfl (by decide +kernel)
def codes1 : List Jvm.Cond := [Jvm.Cond.code x code maxLocals ret, Jvm.Cond.code ({ cls := "com/example/processionary/processionary/expressions/Name", name := "isStartChar", desc := "(I)Z" } : Jvm.MethodName) prog_69_method_9_code (1 : Nat) (Option.some Jvm.ClassFile.FieldType.boolean), Jvm.Cond.code ({ cls := "com/example/processionary/processionary/expressions/NameIsStartCharPinLaw", name := "reference", desc := "(I)Z" } : Jvm.MethodName) method_3_code (1 : Nat) (Option.some Jvm.ClassFile.FieldType.boolean), Jvm.Cond.code ({ cls := "com/example/processionary/processionary/expressions/NameIsStartCharPinLaw", name := "excluded", desc := "(I)Z" } : Jvm.MethodName) method_2_code (1 : Nat) (Option.some Jvm.ClassFile.FieldType.boolean)]
set_option maxRecDepth 65536 in
theorem codes_eq : words1.filter isCode = codes1 := rfl
theorem w_codes : ∀ c ∈ words1.filter isCode, c.before args0 about1 = true := by
  rw [codes_eq]
  intro c hc
  simp only [codes1, List.mem_cons, List.not_mem_nil, or_false] at hc
  rcases hc with rfl | rfl | rfl | rfl
  · exact w_c0
  · exact w_c1
  · exact w_c2
  · exact w_c3
set_option maxRecDepth 65536 in
theorem w_t1 : (words1.take 24).all (fun c => isCode c || c.before args0 about1) = true := by decide +kernel
set_option maxRecDepth 65536 in
theorem w_t2 : (words1.drop 24).all (fun c => isCode c || c.before args0 about1) = true := by decide +kernel
theorem w_tables : (allAtoms (Jvm.Cond.code x code maxLocals ret :: tables_1)).before args0 about1 = true := by
  rw [allAtoms_all]
  show words1.all (fun c => c.before args0 about1) = true
  refine all_split ?_ w_codes
  rw [← List.take_append_drop 24 words1, List.all_append, w_t1, w_t2]
  rfl
set_option maxRecDepth 65536 in
theorem w_case : (Jvm.Cond.and given_1 narrow_1).before args0 about1 = true := by decide +kernel
theorem w_applies : (headSpec (Jvm.Cond.code x code maxLocals ret :: tables_1) room_1).applies x e0.platform about1 = true :=
  (Spec.applies_iff w_frames).mpr ⟨w_running, w_runnable, w_alone, w_named, w_hears, w_ripe, w_room, w_tables⟩
theorem atStart : AtStart classFile x code maxLocals ret World_1 tables_1 room_1 Calls_1 rest_1 Pre_1 launch0 p0 e0 about1 theMethod args0 below0 :=
  ⟨lists_1, trivial, launch0.admits_env _ _ _, launch0.least_env, fairChoices_fair.cas, fairChoices_fair.clock, w_frames, w_args, w_heap, w_applies, trivial, trivial, w_case⟩
end start1
theorem witness_1 : WitnessClaimed_1 := ⟨start1.p0, start1.e0, start1.about1, start1.theMethod, start1.args0, start1.below0, start1.atStart⟩
end Jvm.Pilot.@@N@@

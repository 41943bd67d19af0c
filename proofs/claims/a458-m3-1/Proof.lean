import JvmDerived
import JvmDerived.Pilot.@@N@@Statement
import JvmDerived.Pilot.@@N@@Code
set_option linter.unusedVariables false
set_option linter.unusedSimpArgs false
@@BLOCK:NumsL.lean.txt@@
@@BLOCK:Masks.lean.txt@@
namespace Jvm.RoadKit
open Sem ClassFile Op Lib Jvm.Stand Jvm.Free Jvm.LawKit
section New
variable {p : Program} {l : Launch} {e : Env} {R : Room} {s : State} {m : MethodId} {args : Array Value} {below : List Frame} {meth : Method} {c : Code} {T : State} {locs : List Loc} {cells slots : Nat}
theorem retI (X : Stand p l e R s m args below meth c T locs cells slots) (hx : p.tables.exec = Jvm.exec) {pc : Nat} {Ls : Array Slot} {z : Int32} {rest : List Value} (hret : meth.sig.returnType = some .int) (hd : decode c.code pc = .ok (.ireturn, 1)) {fs : List Frame}
    (hl : ∀ (f : JFrame) (acts : List Action), f.method = m → f.locked = none → f.entered = [] → (doReturn e (T.setTop f) acts (some (.int z))).1 = T.setFrames fs) : Steps p.tables e below (T.setTop (mkF m pc Ls (.int z :: rest))) (T.setFrames fs) := by
  have hm' : T.vm.method? m = some meth := X.method'
  have hn : narrow .int (.int z) = .int z := rfl
  show Steps p.tables e below (T.setTop { method := m, pc := pc, locals := Ls, stack := _ :: rest, locked := none }) _
  jvm_step X.here [X.here.top, hx, hd, hm', hret, hn]
  first | (intro acts; rw [hl _ acts rfl rfl rfl]) | rw [hl _ _ rfl rfl rfl]
  exact Steps.refl _
theorem retJ (X : Stand p l e R s m args below meth c T locs cells slots) (hx : p.tables.exec = Jvm.exec) {pc : Nat} {Ls : Array Slot} {z : Int64} {rest : List Value} (hret : meth.sig.returnType = some .long) (hd : decode c.code pc = .ok (.lreturn, 1)) {fs : List Frame}
    (hl : ∀ (f : JFrame) (acts : List Action), f.method = m → f.locked = none → f.entered = [] → (doReturn e (T.setTop f) acts (some (.long z))).1 = T.setFrames fs) : Steps p.tables e below (T.setTop (mkF m pc Ls (.long z :: rest))) (T.setFrames fs) := by
  have hm' : T.vm.method? m = some meth := X.method'
  have hn : narrow .long (.long z) = .long z := rfl
  show Steps p.tables e below (T.setTop { method := m, pc := pc, locals := Ls, stack := _ :: rest, locked := none }) _
  jvm_step X.here [X.here.top, hx, hd, hm', hret, hn]
  first | (intro acts; rw [hl _ acts rfl rfl rfl]) | rw [hl _ _ rfl rfl rfl]
  exact Steps.refl _
end New
theorem own_ite {α : Type} {P : Prop} [Decidable P] {f : α → Prop} {a b : α} (ha : f a) (hb : f b) : f (if P then a else b) := by split <;> assumption
theorem own_lc_eq {x y : Int64} : lcmpW x y = 0 ↔ x = y := by rw [lcW]; exact lc_eq x y
theorem own_lc_lt {x y : Int64} : lcmpW x y < 0 ↔ x < y := by rw [lcW]; exact lc_lt x y
theorem own_lc_gt {x y : Int64} : 0 < lcmpW x y ↔ y < x := by rw [lcW]; exact lc_gt x y
end Jvm.RoadKit
namespace Jvm.RoadKit
open Sem ClassFile Op Lib Jvm.Stand Jvm.Free Jvm.LawKit
section Own
variable {Z : State} {h h' : Heap} {a b : Addr} {ty : FieldType} {n j : Int32} {sl : Nat} {v : Value} {ws : List Addr} {α : Type} {mk : α → Value} {g : Nat → α} {w : α}
/-- an array: its kind, its length and, by a function, what it holds -/
def JV (mk : α → Value) (Z : State) (h : Heap) (a : Addr) (ty : FieldType) (n : Int32) (g : Nat → α) : Prop := ∃ c : Cell, Arr Z h a c ty ∧ c.slots.size = n.toNatClampNeg ∧ ¬ n < 0 ∧ ∀ i, i < c.slots.size → c.slots[i]? = some (mk (g i))
def updF (g : Nat → α) (k : Nat) (w : α) : Nat → α := fun i => if i = k then w else g i
theorem JV.lt (F : JV mk Z h a ty n g) : a < h.size := by obtain ⟨c, A, -⟩ := F; exact A.lt
theorem JV.ext (F : JV mk Z h a ty n g) (E : Ext h h') : JV mk Z h' a ty n g := by obtain ⟨c, A, r⟩ := F; exact ⟨c, A.ext E, r⟩
theorem JV.other (F : JV mk Z h b ty n g) (W : Wr h h' a sl v) (q : b ≠ a) : JV mk Z h' b ty n g := by obtain ⟨c, A, r⟩ := F; exact ⟨c, A.other W q, r⟩
theorem JV.keep (F : JV mk Z h a ty n g) (K : Keep h h' ws) (q : a ∉ ws) : JV mk Z h' a ty n g := by obtain ⟨c, A, r⟩ := F; exact ⟨c, ⟨K.2.1 a c A.1 q, A.2⟩, r⟩
theorem JV.new {k : ClassId} (A : Arr Z h a (newA k ty n) ty) (q : ¬ n < 0) (w : α) (hd : defaultValue ty = mk w) : JV mk Z h a ty n (fun _ => w) := by
  obtain ⟨c, A', -, S, N, H, -⟩ := Arv.new A q
  exact ⟨c, A', S, N, fun i hi => by rw [H i hi, hd]; rfl⟩
theorem JV.in (F : JV mk Z h a ty n g) (q : ¬ j < 0 ∧ j < n) : ∃ c : Cell, Arr Z h a c ty ∧ ¬ (j < 0 ∨ c.slots.size ≤ j.toNatClampNeg) ∧ c.slots[j.toNatClampNeg]? = some (mk (g j.toNatClampNeg)) := by
  obtain ⟨c, A, S, N, H⟩ := F
  have hin := inb_of S q
  exact ⟨c, A, hin, H _ (Nat.lt_of_not_le fun y => hin (Or.inr y))⟩
theorem JV.len (F : JV mk Z h a ty n g) : ∃ c : Cell, Arr Z h a c ty ∧ c.slots.size.toInt32 = n := by
  obtain ⟨c, A, S, N, H⟩ := F
  exact ⟨c, A, len_of S N⟩
theorem JV.nn (F : JV mk Z h a ty n g) : ¬ n < 0 := by obtain ⟨c, A, S, N, H⟩ := F; exact N
theorem JV.set (F : JV mk Z h a ty n g) (W : Wr h h' a j.toNatClampNeg (mk w)) : JV mk Z h' a ty n (updF g j.toNatClampNeg w) := by
  obtain ⟨c, A, S, N, H⟩ := F
  refine ⟨_, A.same W, ?_, N, ?_⟩
  · rw [← S]; simp [Cell.setSlot]
  · intro i hi
    have hi' : i < c.slots.size := by simpa [Cell.setSlot] using hi
    obtain ⟨cell, h1, -, h3, rfl⟩ := W
    cases A.1.symm.trans h1
    by_cases e : i = j.toNatClampNeg
    · subst e; simp [Cell.setSlot, updF, hi']
    · rw [show (c.setSlot j.toNatClampNeg (mk w)).slots[i]? = c.slots[i]? from by simp [Cell.setSlot, Array.getElem?_setIfInBounds, Ne.symm e], H i hi']
      simp [updF, e]
theorem own_selp {s : State} {a0 args : Array Value} {y : MethodName} {k : Nat} (hZ : Z.Warmed39 s.vm) (wi : (Cond.instantiable y.cls k).before a0 Z = true) (wp : (Cond.privateMethod y).before a0 Z = true) (wm : (Cond.instanceMethod y).before a0 Z = true) (hy : y.cls ≠ "java/lang/invoke/MethodHandle" ∧ y.cls ≠ "java/lang/invoke/VarHandle") : (Cond.selects y.cls y y).before args s = true := by
  obtain ⟨c, q, h1, h2, h3, h4, -⟩ := Cond.instantiable_spec (mvT (args := args) hZ wi)
  have hi : q.isInterface = false := by
    cases hq : q.isInterface with
    | false => rfl
    | true => simp [hq] at h4
  exact selects_self_of_private h1 h2 hi (Cond.privateMethod_at (mvP hZ wp (args := #[]))) (mvT hZ wm) hy
end Own
end Jvm.RoadKit
namespace Jvm.Pilot.@@N@@
open Jvm Jvm.ClassFile Sem Op Lib Jvm.Free Jvm.Stand Jvm.LawKit Jvm.RoadKit Bundle Jvm.Pilot.@@N@@.Jvm.D
def Lead (p : Program) (e : Env) (below : List Frame) (A B : State) : Prop := ∀ t, Steps p.tables e below B t → Steps p.tables e below A t
theorem own_max (x : Int32) : (x &&& (2147483647 : Int32)).toInt = x.toInt % 2 ^ 31 := Jvm.Kit.i32_mask x _ (k := 31) (by decide) (by decide)
theorem own_rem (a k : Int32) (ha : 0 ≤ a.toInt) (hk : 0 < k.toInt) : (a - a / k * k).toInt = a.toInt % k.toInt := by
  have b1 := Int32.le_toInt a; have b2 := Int32.toInt_lt a
  have d : (a / k).toInt = a.toInt / k.toInt := by rw [Jvm.Kit.i32_div (by omega), Int.tdiv_eq_ediv_of_nonneg ha]
  have q0 : 0 ≤ a.toInt / k.toInt := Int.ediv_nonneg ha (by omega)
  have q1 : a.toInt / k.toInt * k.toInt ≤ a.toInt := Int.ediv_mul_le _ (by omega)
  have q2 : 0 ≤ a.toInt / k.toInt * k.toInt := Int.mul_nonneg q0 (by omega)
  have m : (a / k * k).toInt = a.toInt / k.toInt * k.toInt := by rw [Jvm.Kit.i32_mul, d] <;> rw [d] <;> omega
  rw [Jvm.Kit.i32_sub (by omega) (by omega), m, Int.emod_def, Int.mul_comm]
theorem own_nar0 : nar .boolean (0 : Int32) = 0 := by decide
theorem own_nar1 : nar .boolean (1 : Int32) = 1 := by decide
theorem own_nat {a : Int32} {k : Nat} (h : a.toInt ≤ k) : a.toNatClampNeg ≤ k := by
  show a.toInt.toNat ≤ k
  omega
def AtI (f i l : Int32) : Int32 := (if (f + i) < l then (f + i) else ((f + i) - l))
theorem own_nb {f i l : Int32} (hf : 0 ≤ f.toInt ∧ f.toInt < l.toInt) (hi : 0 ≤ i.toInt ∧ i.toInt < l.toInt) (hl : l.toInt ≤ 4) : ¬ AtI f i l < 0 ∧ AtI f i l < l := by
  have a : (f + i).toInt = f.toInt + i.toInt := Jvm.Kit.i32_add (by omega) (by omega)
  unfold AtI
  by_cases h : f + i < l
  · rw [if_pos h]
    exact ⟨by rw [Int32.lt_iff_toInt_lt, Int32.toInt_zero, a]; omega, h⟩
  · rw [if_neg h]
    rw [Int32.lt_iff_toInt_lt, a] at h
    have b : (f + i - l).toInt = f.toInt + i.toInt - l.toInt := by rw [Jvm.Kit.i32_sub (by omega) (by omega), a]
    rw [Int32.lt_iff_toInt_lt, Int32.lt_iff_toInt_lt, Int32.toInt_zero, b]; omega
theorem own_pred {n : Int32} (h : (0 : Int32) < n) : (n - 1).toInt = n.toInt - 1 := by
  have c1 : (1 : Int32).toInt = 1 := by decide
  have b := Int32.toInt_lt n
  rw [Int32.lt_iff_toInt_lt, Int32.toInt_zero] at h
  rw [Jvm.Kit.i32_sub (by omega) (by omega), c1]
theorem own_pb {f n l : Int32} (hf : 0 ≤ f.toInt ∧ f.toInt < l.toInt) (hn : 0 ≤ n.toInt ∧ n.toInt ≤ l.toInt) (hl : l.toInt ≤ 4) (h : (0 : Int32) < n) : ¬ AtI f (n - 1) l < 0 ∧ AtI f (n - 1) l < l := by
  refine own_nb hf ?_ hl
  have := own_pred h
  rw [Int32.lt_iff_toInt_lt, Int32.toInt_zero] at h
  omega
theorem own_inc {iv n : Int32} (q : iv < n) (h : 0 ≤ iv.toInt) : (iv + 1).toInt = iv.toInt + 1 := by
  have c1 : (1 : Int32).toInt = 1 := by decide
  have b := Int32.toInt_lt n
  rw [Int32.lt_iff_toInt_lt] at q
  rw [Jvm.Kit.i32_add (by omega) (by omega), c1]
theorem own_ofn {iv : Int32} (h : 0 ≤ iv.toInt) : Int32.ofNat iv.toInt.toNat = iv := by
  have b := Int32.toInt_lt iv
  exact Int32.toInt_inj.mp (by rw [Int32.toInt_ofNat_small (by omega)]; omega)
theorem own_done {iv n f l : Int32} {go gr : Nat → Int64} (q : iv < n) (h : 0 ≤ iv.toInt) (hd : ∀ j, j < iv.toInt.toNat → gr j = go (AtI f (Int32.ofNat j) l).toNatClampNeg) :
    ∀ j, j < (iv + 1).toInt.toNat → (updF gr iv.toNatClampNeg (go (AtI f iv l).toNatClampNeg)) j = go (AtI f (Int32.ofNat j) l).toNatClampNeg := by
  intro j hj
  rw [own_inc q h] at hj
  unfold updF
  by_cases e : j = iv.toNatClampNeg
  · have e' : j = iv.toInt.toNat := e
    rw [if_pos e, e', own_ofn h]
  · have e' : ¬ j = iv.toInt.toNat := e
    rw [if_neg e]; exact hd j (by omega)
theorem own_fin {iv n f l : Int32} {go gr : Nat → Int64} (q : ¬ iv < n) (h : 0 ≤ iv.toInt ∧ iv.toInt ≤ n.toInt) (hd : ∀ j, j < iv.toInt.toNat → gr j = go (AtI f (Int32.ofNat j) l).toNatClampNeg) : ∀ j, j < n.toInt.toNat → gr j = go (AtI f (Int32.ofNat j) l).toNatClampNeg := by
  rw [Int32.lt_iff_toInt_lt] at q
  intro j hj; exact hd j (by omega)
theorem own_lt (iv n p : Int32) (q : iv < n) (h : 0 ≤ iv.toInt) (hp : n.toInt ≤ p.toInt) : ¬ iv < 0 ∧ iv < p := by
  rw [Int32.lt_iff_toInt_lt] at q
  rw [Int32.lt_iff_toInt_lt, Int32.lt_iff_toInt_lt, Int32.toInt_zero]; omega
theorem own_i0 {n : Int32} (h : 0 ≤ n.toInt) : 0 ≤ (0 : Int32).toInt ∧ (0 : Int32).toInt ≤ n.toInt := ⟨by decide, by rw [Int32.toInt_zero]; exact h⟩
theorem own_nx {iv n : Int32} (q : iv < n) (h : 0 ≤ iv.toInt ∧ iv.toInt ≤ n.toInt) : 0 ≤ (iv + 1).toInt ∧ (iv + 1).toInt ≤ n.toInt := by
  rw [own_inc q h.1]; rw [Int32.lt_iff_toInt_lt] at q; omega
theorem own_dec {iv n : Int32} (q : iv < n) (h : 0 ≤ iv.toInt ∧ iv.toInt ≤ n.toInt) : (n.toInt - (iv + 1).toInt).toNat < (n.toInt - iv.toInt).toNat := by
  rw [own_inc q h.1]; rw [Int32.lt_iff_toInt_lt] at q; omega
theorem d1_0 : decode jdk_29_method_69_code 0 = .ok (.iload_n 0, 1) := by decide +kernel
theorem d1_1 : decode jdk_29_method_69_code 1 = .ok (.iload_n 1, 1) := by decide +kernel
theorem d1_2 : decode jdk_29_method_69_code 2 = .ok (.if_icmp .gt 7, 3) := by decide +kernel
theorem d1_5 : decode jdk_29_method_69_code 5 = .ok (.iload_n 0, 1) := by decide +kernel
theorem d1_6 : decode jdk_29_method_69_code 6 = .ok (.goto 4, 3) := by decide +kernel
theorem d1_9 : decode jdk_29_method_69_code 9 = .ok (.iload_n 1, 1) := by decide +kernel
theorem d1_10 : decode jdk_29_method_69_code 10 = .ok (.ireturn, 1) := by decide +kernel
def F1 (p0 : Int32) (p1 : Int32) : Int32 := (if p1 < p0 then p1 else p0)
theorem aux1_3 (p0 : Int32) (p1 : Int32)   : (if p1 < p0 then p1 else p0) = F1 p0 p1 := by
  skip
  rfl
theorem ef_1 (m : MethodId) (p0 : Int32) (p1 : Int32) : entryFrame m #[(.int p0), (.int p1)] 2 = mkF m 0 #[.val (.int p0), .val (.int p1)] [] := by first | (simp [entryFrame, mkF, argsToLocals, Value.category]; done) | rfl
def Q1 (Z : State) (p0 : Int32) (p1 : Int32)  (h0 : Heap) (n0 : Nat) (v : Option Value) (h : Heap) (L : List Loc) : Prop := v = some (.int (F1 p0 p1)) ∧ Fr n0 L ∧ h = h0
set_option maxRecDepth 65536 in
set_option maxHeartbeats 40000000 in
theorem rm1 (l : Launch) (Z : State) (a0 : Array Value) (hw : ∀ d ∈ tables_1, d.before a0 Z = true) (ws : List Jvm.Cond) (p0 : Int32) (p1 : Int32)  (h0 : Heap) (n0 : Nat) (Z0 : n0 ≤ h0.size)  :
    MetFree l (⟨"java/lang/Math", "min", "(II)I"⟩ : MethodName) (head1 (Jvm.Cond.code (⟨"java/lang/Math", "min", "(II)I"⟩ : MethodName) jdk_29_method_69_code 2 (some .int) :: ws) ({ frames := 0, cells := 0, slots := 0, locals := 0 } : Room)) (fun a U => a = #[(.int p0), (.int p1)] ∧ Z.Warmed39 U.vm ∧ U.heap = h0) (fun _ _ _ _ _ => True) (fun _ U o U' => ∃ v L, o = .returned v ∧ Q1 Z p0 p1 h0 n0 v U'.heap L ∧ FrameEnd U o U' L ({ frames := 0, cells := 0, slots := 0, locals := 0 } : Room).cells ({ frames := 0, cells := 0, slots := 0, locals := 0 } : Room).slots) := by
  refine MetFree.of_bodySF (Jvm.Free.JP.mathPlain rfl (by decide +kernel)) hisR ?_
  intro p e s m args below meth c s₁ Bd hml0 hP hK
  obtain ⟨rfl, hZ, hh⟩ := hP
  have hx := Bd.exec
  have hby := Bd.bytes
  have hml : c.maxLocals = 2 := hml0
  have hown : s.vm.findClass "java/lang/Math" = some m.cls := findClass_of_methodNamed Bd.named
  have hnm := (name_of_methodNamed Bd.named Bd.method).1
  have X0 : Stand p l e ({ frames := 0, cells := 0, slots := 0, locals := 0 } : Room) s m #[(.int p0), (.int p1)] below meth c s₁ [] 0 0 := Stand.of_body Bd
  have e0 : s₁.heap = h0 := by rw [← hh, Bd.state]; rfl
  have N0 := Fr.nil n0
  have K0 : Keep h0 h0 [] := Keep.refl _ _
  obtain ⟨G, hG⟩ : ∃ z, z = s₁.setTop (entryFrame m #[(.int p0), (.int p1)] 2) := ⟨_, rfl⟩
  have pre0 : Lead p e below G (s₁.setTop (mkF m 0 #[.val (.int p0), .val (.int p1)] [])) := fun t k => by rw [hG]; exact castTop (ef_1 m p0 p1) k
  obtain ⟨fs, hr, hrun, hended, hW, hsame⟩ := X0.leave (v := some (.int (if p1 < p0 then p1 else p0))) (fun h => by rw [Bd.returns] at h; cases h)
  have preF : Lead p e below (s₁.setTop (entryFrame m #[(.int p0), (.int p1)] 2)) (s₁.setTop (mkF m 0 #[.val (.int p0), .val (.int p1)] [])) := by rw [← hG]; exact pre0
  refine ⟨_, _, preF _ ?_, hrun, hended, _, _, rfl, ?_, ⟨_, rfl⟩, hW, hsame.mono (by decide) (by decide)⟩
  · show Steps p.tables e below (s₁.setTop (mkF m 0 #[.val (.int p0), .val (.int p1)] [])) _
    refine XS.iloadN X0.here hx rfl (hb hby d1_0) rfl ?_
    refine XS.iloadN X0.here hx rfl (hb hby d1_1) rfl ?_
    show Steps p.tables e below (s₁.setTop (mkF m 2 #[.val (.int p0), .val (.int p1)] [(.int p1), (.int p0)])) _
    have j2 : ∀ t, Steps p.tables e below (s₁.setTop (mkF m 10 #[.val (.int p0), .val (.int p1)] [(.int (if p1 < p0 then p1 else p0))])) t → Steps p.tables e below (s₁.setTop (mkF m 2 #[.val (.int p0), .val (.int p1)] [(.int p1), (.int p0)])) t := fun t k => by
      by_cases hc2_1 : p1 < p0
      · simp only [if_pos hc2_1] at k
        refine XS.icmpYes X0.here hx rfl (pc0 := 2) (pc' := 9) rfl (hb hby d1_2) rfl (tlt hc2_1).2.2.1 (by decide) (by decide) ?_
        refine XS.iloadN X0.here hx rfl (hb hby d1_9) rfl ?_
        show Steps p.tables e below (s₁.setTop (mkF m 10 #[.val (.int p0), .val (.int p1)] [(.int p1)])) _
        exact k
      · simp only [if_neg hc2_1] at k
        refine XS.icmpNo X0.here hx rfl (hb hby d1_2) rfl (flt hc2_1).2.2.1 ?_
        refine XS.iloadN X0.here hx rfl (hb hby d1_5) rfl ?_
        refine XS.goto X0.here hx rfl (pc0 := 6) (pc' := 10) rfl (hb hby d1_6) (by decide) (by decide) ?_
        show Steps p.tables e below (s₁.setTop (mkF m 10 #[.val (.int p0), .val (.int p1)] [(.int p0)])) _
        exact k
    refine j2 _ ?_
    show Steps p.tables e below (s₁.setTop (mkF m 10 #[.val (.int p0), .val (.int p1)] [(.int (if p1 < p0 then p1 else p0))])) _
    exact retI X0 hx Bd.returns (hb hby d1_10) hr
  · show Q1 Z p0 p1 h0 n0 _ s₁.heap _
    rw [e0]
    have hv_ : (if p1 < p0 then p1 else p0) = F1 p0 p1 := (aux1_3 p0 p1)
    exact ⟨congrArg (fun z => some (Value.int z)) hv_, N0, rfl⟩
theorem d8_0 : decode jdk_29_method_70_code 0 = .ok (.lload_n 0, 1) := by decide +kernel
theorem d8_1 : decode jdk_29_method_70_code 1 = .ok (.lload_n 2, 1) := by decide +kernel
theorem d8_2 : decode jdk_29_method_70_code 2 = .ok (.lcmp, 1) := by decide +kernel
theorem d8_3 : decode jdk_29_method_70_code 3 = .ok (.ifCond .gt 7, 3) := by decide +kernel
theorem d8_6 : decode jdk_29_method_70_code 6 = .ok (.lload_n 0, 1) := by decide +kernel
theorem d8_7 : decode jdk_29_method_70_code 7 = .ok (.goto 4, 3) := by decide +kernel
theorem d8_10 : decode jdk_29_method_70_code 10 = .ok (.lload_n 2, 1) := by decide +kernel
theorem d8_11 : decode jdk_29_method_70_code 11 = .ok (.lreturn, 1) := by decide +kernel
def F8 (q0 : Int64) (q1 : Int64) : Int64 := (if q1 < q0 then q1 else q0)
theorem aux8_3 (q0 : Int64) (q1 : Int64)   : (if q1 < q0 then q1 else q0) = F8 q0 q1 := by
  skip
  rfl
theorem ef_8 (m : MethodId) (q0 : Int64) (q1 : Int64) : entryFrame m #[(.long q0), (.long q1)] 4 = mkF m 0 #[.val (.long q0), .second, .val (.long q1), .second] [] := by first | (simp [entryFrame, mkF, argsToLocals, Value.category]; done) | rfl
def Q8 (Z : State) (q0 : Int64) (q1 : Int64)  (h0 : Heap) (n0 : Nat) (v : Option Value) (h : Heap) (L : List Loc) : Prop := v = some (.long (F8 q0 q1)) ∧ Fr n0 L ∧ h = h0
set_option maxRecDepth 65536 in
set_option maxHeartbeats 40000000 in
theorem rm8 (l : Launch) (Z : State) (a0 : Array Value) (hw : ∀ d ∈ tables_1, d.before a0 Z = true) (ws : List Jvm.Cond) (q0 : Int64) (q1 : Int64)  (h0 : Heap) (n0 : Nat) (Z0 : n0 ≤ h0.size)  :
    MetFree l (⟨"java/lang/Math", "min", "(JJ)J"⟩ : MethodName) (head1 (Jvm.Cond.code (⟨"java/lang/Math", "min", "(JJ)J"⟩ : MethodName) jdk_29_method_70_code 4 (some .long) :: ws) ({ frames := 0, cells := 0, slots := 0, locals := 0 } : Room)) (fun a U => a = #[(.long q0), (.long q1)] ∧ Z.Warmed39 U.vm ∧ U.heap = h0) (fun _ _ _ _ _ => True) (fun _ U o U' => ∃ v L, o = .returned v ∧ Q8 Z q0 q1 h0 n0 v U'.heap L ∧ FrameEnd U o U' L ({ frames := 0, cells := 0, slots := 0, locals := 0 } : Room).cells ({ frames := 0, cells := 0, slots := 0, locals := 0 } : Room).slots) := by
  refine MetFree.of_bodySF (Jvm.Free.JP.mathPlain rfl (by decide +kernel)) hisR ?_
  intro p e s m args below meth c s₁ Bd hml0 hP hK
  obtain ⟨rfl, hZ, hh⟩ := hP
  have hx := Bd.exec
  have hby := Bd.bytes
  have hml : c.maxLocals = 4 := hml0
  have hown : s.vm.findClass "java/lang/Math" = some m.cls := findClass_of_methodNamed Bd.named
  have hnm := (name_of_methodNamed Bd.named Bd.method).1
  have X0 : Stand p l e ({ frames := 0, cells := 0, slots := 0, locals := 0 } : Room) s m #[(.long q0), (.long q1)] below meth c s₁ [] 0 0 := Stand.of_body Bd
  have e0 : s₁.heap = h0 := by rw [← hh, Bd.state]; rfl
  have N0 := Fr.nil n0
  have K0 : Keep h0 h0 [] := Keep.refl _ _
  obtain ⟨G, hG⟩ : ∃ z, z = s₁.setTop (entryFrame m #[(.long q0), (.long q1)] 4) := ⟨_, rfl⟩
  have pre0 : Lead p e below G (s₁.setTop (mkF m 0 #[.val (.long q0), .second, .val (.long q1), .second] [])) := fun t k => by rw [hG]; exact castTop (ef_8 m q0 q1) k
  obtain ⟨fs, hr, hrun, hended, hW, hsame⟩ := X0.leave (v := some (.long (if q1 < q0 then q1 else q0))) (fun h => by rw [Bd.returns] at h; cases h)
  have preF : Lead p e below (s₁.setTop (entryFrame m #[(.long q0), (.long q1)] 4)) (s₁.setTop (mkF m 0 #[.val (.long q0), .second, .val (.long q1), .second] [])) := by rw [← hG]; exact pre0
  refine ⟨_, _, preF _ ?_, hrun, hended, _, _, rfl, ?_, ⟨_, rfl⟩, hW, hsame.mono (by decide) (by decide)⟩
  · show Steps p.tables e below (s₁.setTop (mkF m 0 #[.val (.long q0), .second, .val (.long q1), .second] [])) _
    refine XS.lloadN X0.here hx rfl (hb hby d8_0) rfl ?_
    refine XS.lloadN X0.here hx rfl (hb hby d8_1) rfl ?_
    refine XS.lcmp X0.here hx rfl (hb hby d8_2) rfl ?_
    show Steps p.tables e below (s₁.setTop (mkF m 3 #[.val (.long q0), .second, .val (.long q1), .second] [(.int (lcmpW q0 q1))])) _
    have j2 : ∀ t, Steps p.tables e below (s₁.setTop (mkF m 11 #[.val (.long q0), .second, .val (.long q1), .second] [(.long (if q1 < q0 then q1 else q0))])) t → Steps p.tables e below (s₁.setTop (mkF m 3 #[.val (.long q0), .second, .val (.long q1), .second] [(.int (lcmpW q0 q1))])) t := fun t k => by
      by_cases hc3_1 : q1 < q0
      · simp only [if_pos hc3_1] at k
        refine XS.ifYes X0.here hx rfl (pc0 := 3) (pc' := 10) rfl (hb hby d8_3) rfl ((if0 _ _).trans (tlt (own_lc_gt.mpr hc3_1)).2.2.1) (by decide) (by decide) ?_
        show Steps p.tables e below (s₁.setTop (mkF m 10 #[.val (.long q0), .second, .val (.long q1), .second] [])) _
        refine XS.lloadN X0.here hx rfl (hb hby d8_10) rfl ?_
        exact k
      · simp only [if_neg hc3_1] at k
        refine XS.ifNo X0.here hx rfl (hb hby d8_3) rfl ((if0 _ _).trans (flt (fun q => hc3_1 (own_lc_gt.mp q))).2.2.1) ?_
        refine XS.lloadN X0.here hx rfl (hb hby d8_6) rfl ?_
        show Steps p.tables e below (s₁.setTop (mkF m 7 #[.val (.long q0), .second, .val (.long q1), .second] [(.long q0)])) _
        refine XS.goto X0.here hx rfl (pc0 := 7) (pc' := 11) rfl (hb hby d8_7) (by decide) (by decide) ?_
        exact k
    refine j2 _ ?_
    show Steps p.tables e below (s₁.setTop (mkF m 11 #[.val (.long q0), .second, .val (.long q1), .second] [(.long (if q1 < q0 then q1 else q0))])) _
    exact retJ X0 hx Bd.returns (hb hby d8_11) hr
  · show Q8 Z q0 q1 h0 n0 _ s₁.heap _
    rw [e0]
    have hv_ : (if q1 < q0 then q1 else q0) = F8 q0 q1 := (aux8_3 q0 q1)
    exact ⟨congrArg (fun z => some (Value.long z)) hv_, N0, rfl⟩
theorem d7_0 : decode prog_21_method_13_code 0 = .ok (.aload_n 0, 1) := by decide +kernel
theorem d7_1 : decode prog_21_method_13_code 1 = .ok (.getfield 20, 3) := by decide +kernel
theorem d7_4 : decode prog_21_method_13_code 4 = .ok (.iload_n 1, 1) := by decide +kernel
theorem d7_5 : decode prog_21_method_13_code 5 = .ok (.iadd, 1) := by decide +kernel
theorem d7_6 : decode prog_21_method_13_code 6 = .ok (.istore_n 2, 1) := by decide +kernel
theorem d7_7 : decode prog_21_method_13_code 7 = .ok (.iload_n 2, 1) := by decide +kernel
theorem d7_8 : decode prog_21_method_13_code 8 = .ok (.aload_n 0, 1) := by decide +kernel
theorem d7_9 : decode prog_21_method_13_code 9 = .ok (.getfield 7, 3) := by decide +kernel
theorem d7_12 : decode prog_21_method_13_code 12 = .ok (.arraylength, 1) := by decide +kernel
theorem d7_13 : decode prog_21_method_13_code 13 = .ok (.if_icmp .ge 7, 3) := by decide +kernel
theorem d7_16 : decode prog_21_method_13_code 16 = .ok (.iload_n 2, 1) := by decide +kernel
theorem d7_17 : decode prog_21_method_13_code 17 = .ok (.goto 10, 3) := by decide +kernel
theorem d7_20 : decode prog_21_method_13_code 20 = .ok (.iload_n 2, 1) := by decide +kernel
theorem d7_21 : decode prog_21_method_13_code 21 = .ok (.aload_n 0, 1) := by decide +kernel
theorem d7_22 : decode prog_21_method_13_code 22 = .ok (.getfield 7, 3) := by decide +kernel
theorem d7_25 : decode prog_21_method_13_code 25 = .ok (.arraylength, 1) := by decide +kernel
theorem d7_26 : decode prog_21_method_13_code 26 = .ok (.isub, 1) := by decide +kernel
theorem d7_27 : decode prog_21_method_13_code 27 = .ok (.ireturn, 1) := by decide +kernel
theorem pn_com_example_lean_throttle_leanthrottle_TimeRing : plainName "com/example/lean_throttle/leanthrottle/TimeRing" = true := by first | (simp [plainName, overriddenIn]; done) | decide +kernel
theorem ef_7 (m : MethodId) (o0 : Addr) (p1 : Int32) : entryFrame m #[(.ref o0), (.int p1)] 3 = mkF m 0 #[.val (.ref o0), .val (.int p1), .unset] [] := by first | (simp [entryFrame, mkF, argsToLocals, Value.category]; done) | rfl
def Q7 (Z : State) (o0 : Addr) (p1 : Int32) (fi : Int32) (ta : Addr) (nl : Int32) (gt : Nat → Int64) (h0 : Heap) (n0 : Nat) (v : Option Value) (h : Heap) (L : List Loc) : Prop := v = some (.int (AtI fi p1 nl)) ∧ Fr n0 L ∧ h = h0
set_option maxRecDepth 65536 in
set_option maxHeartbeats 40000000 in
theorem rm7 (l : Launch) (Z : State) (a0 : Array Value) (hw : ∀ d ∈ tables_1, d.before a0 Z = true) (ws : List Jvm.Cond) (o0 : Addr) (p1 : Int32) (fi : Int32) (ta : Addr) (nl : Int32) (gt : Nat → Int64) (h0 : Heap) (n0 : Nat) (Z0 : n0 ≤ h0.size) (P0_F : Fld Z h0 o0 "com/example/lean_throttle/leanthrottle/TimeRing" "first" "I" (.int fi)) (P1_F : Fld Z h0 o0 "com/example/lean_throttle/leanthrottle/TimeRing" "times" "[J" (.ref ta)) (P2_V : JV Value.long Z h0 ta .long nl gt) :
    MetFree l (⟨"com/example/lean_throttle/leanthrottle/TimeRing", "at", "(I)I"⟩ : MethodName) (head1 (Jvm.Cond.code (⟨"com/example/lean_throttle/leanthrottle/TimeRing", "at", "(I)I"⟩ : MethodName) prog_21_method_13_code 3 (some .int) :: ws) ({ frames := 0, cells := 0, slots := 0, locals := 0 } : Room)) (fun a U => a = #[(.ref o0), (.int p1)] ∧ Z.Warmed39 U.vm ∧ U.heap = h0) (fun _ _ _ _ _ => True) (fun _ U o U' => ∃ v L, o = .returned v ∧ Q7 Z o0 p1 fi ta nl gt h0 n0 v U'.heap L ∧ FrameEnd U o U' L ({ frames := 0, cells := 0, slots := 0, locals := 0 } : Room).cells ({ frames := 0, cells := 0, slots := 0, locals := 0 } : Room).slots) := by
  refine MetFree.of_bodySF (plainFor_of_name pn_com_example_lean_throttle_leanthrottle_TimeRing) hisR ?_
  intro p e s m args below meth c s₁ Bd hml0 hP hK
  obtain ⟨rfl, hZ, hh⟩ := hP
  have hx := Bd.exec
  have hby := Bd.bytes
  have hml : c.maxLocals = 3 := hml0
  have hown : s.vm.findClass "com/example/lean_throttle/leanthrottle/TimeRing" = some m.cls := findClass_of_methodNamed Bd.named
  have hnm := (name_of_methodNamed Bd.named Bd.method).1
  have X0 : Stand p l e ({ frames := 0, cells := 0, slots := 0, locals := 0 } : Room) s m #[(.ref o0), (.int p1)] below meth c s₁ [] 0 0 := Stand.of_body Bd
  have e0 : s₁.heap = h0 := by rw [← hh, Bd.state]; rfl
  have N0 := Fr.nil n0
  have K0 : Keep h0 h0 [] := Keep.refl _ _
  obtain ⟨G, hG⟩ : ∃ z, z = s₁.setTop (entryFrame m #[(.ref o0), (.int p1)] 3) := ⟨_, rfl⟩
  have pre0 : Lead p e below G (s₁.setTop (mkF m 0 #[.val (.ref o0), .val (.int p1), .unset] [])) := fun t k => by rw [hG]; exact castTop (ef_7 m o0 p1) k
  have pre1 : Lead p e below G (s₁.setTop (mkF m 1 #[.val (.ref o0), .val (.int p1), .unset] [(.ref o0)])) := fun t k => by
    refine pre0 t ?_
    show Steps p.tables e below (s₁.setTop (mkF m 0 #[.val (.ref o0), .val (.int p1), .unset] [])) _
    refine XS.aloadN X0.here hx rfl (hb hby d7_0) rfl rfl ?_
    exact k
  obtain ⟨T2, X2, e2, st2⟩ := getF X0 hx hZ hown (host := "") (Or.inl (hw _ (List.mem_of_getElem? (i := 40) rfl))) Via.refl e0 P0_F (g := (mkF m 1 #[.val (.ref o0), .val (.int p1), .unset] [(.ref o0)])) rfl rfl (hb hby d7_1)
  have pre2 : Lead p e below G (T2.setTop (mkF m 4 #[.val (.ref o0), .val (.int p1), .unset] [(.int fi)])) := fun t k => pre1 t (st2 _ k)
  have pre3 : Lead p e below G (T2.setTop (mkF m 9 #[.val (.ref o0), .val (.int p1), .val (.int (fi + p1))] [(.ref o0), (.int (fi + p1))])) := fun t k => by
    refine pre2 t ?_
    show Steps p.tables e below (T2.setTop (mkF m 4 #[.val (.ref o0), .val (.int p1), .unset] [(.int fi)])) _
    refine XS.iloadN X2.here hx rfl (hb hby d7_4) rfl ?_
    show Steps p.tables e below (T2.setTop (mkF m 5 #[.val (.ref o0), .val (.int p1), .unset] [(.int p1), (.int fi)])) _
    refine XS.iadd X2.here hx rfl (hb hby d7_5) rfl ?_
    refine XS.istoreN X2.here hx rfl (hb hby d7_6) rfl (l' := #[.val (.ref o0), .val (.int p1), .val (.int (fi + p1))]) rfl ?_
    refine XS.iloadN X2.here hx rfl (hb hby d7_7) rfl ?_
    show Steps p.tables e below (T2.setTop (mkF m 8 #[.val (.ref o0), .val (.int p1), .val (.int (fi + p1))] [(.int (fi + p1))])) _
    refine XS.aloadN X2.here hx rfl (hb hby d7_8) rfl rfl ?_
    exact k
  obtain ⟨T4, X4, e4, st4⟩ := getF X2 hx hZ hown (host := "") (Or.inl (hw _ (List.mem_of_getElem? (i := 14) rfl))) Via.refl e2 P1_F (g := (mkF m 9 #[.val (.ref o0), .val (.int p1), .val (.int (fi + p1))] [(.ref o0), (.int (fi + p1))])) rfl rfl (hb hby d7_9)
  have pre4 : Lead p e below G (T4.setTop (mkF m 12 #[.val (.ref o0), .val (.int p1), .val (.int (fi + p1))] [(.ref ta), (.int (fi + p1))])) := fun t k => pre3 t (st4 _ k)
  obtain ⟨cl5, Ar5, len5⟩ := P2_V.len
  have st5 := X4.arraylength hx (by rw [e4]; exact Ar5.1) (State.isArrayOf_alike hZ.alike Ar5.2.1) (g := (mkF m 12 #[.val (.ref o0), .val (.int p1), .val (.int (fi + p1))] [(.ref ta), (.int (fi + p1))])) rfl rfl (hb hby d7_12)
  rw [len5] at st5
  have pre5 : Lead p e below G (T4.setTop (mkF m 13 #[.val (.ref o0), .val (.int p1), .val (.int (fi + p1))] [(.int nl), (.int (fi + p1))])) := fun t k => pre4 t (st5 _ k)
  by_cases hs13_7 : (fi + p1) < nl
  · obtain ⟨fs, hr, hrun, hended, hW, hsame⟩ := X4.leave (v := some (.int (fi + p1))) (fun h => by rw [Bd.returns] at h; cases h)
    have preF : Lead p e below (s₁.setTop (entryFrame m #[(.ref o0), (.int p1)] 3)) (T4.setTop (mkF m 13 #[.val (.ref o0), .val (.int p1), .val (.int (fi + p1))] [(.int nl), (.int (fi + p1))])) := by rw [← hG]; exact pre5
    refine ⟨_, _, preF _ ?_, hrun, hended, _, _, rfl, ?_, ⟨_, rfl⟩, hW, hsame.mono (by decide) (by decide)⟩
    · show Steps p.tables e below (T4.setTop (mkF m 13 #[.val (.ref o0), .val (.int p1), .val (.int (fi + p1))] [(.int nl), (.int (fi + p1))])) _
      refine XS.icmpNo X4.here hx rfl (hb hby d7_13) rfl (tlt hs13_7).2.1 ?_
      refine XS.iloadN X4.here hx rfl (hb hby d7_16) rfl ?_
      show Steps p.tables e below (T4.setTop (mkF m 17 #[.val (.ref o0), .val (.int p1), .val (.int (fi + p1))] [(.int (fi + p1))])) _
      refine XS.goto X4.here hx rfl (pc0 := 17) (pc' := 27) rfl (hb hby d7_17) (by decide) (by decide) ?_
      exact retI X4 hx Bd.returns (hb hby d7_27) hr
    · show Q7 Z o0 p1 fi ta nl gt h0 n0 _ T4.heap _
      rw [e4]
      exact ⟨congrArg (fun z => some (Value.int z)) (show (fi + p1) = (AtI fi p1 nl) from (if_pos hs13_7).symm), N0, rfl⟩
  · have pre8 : Lead p e below G (T4.setTop (mkF m 22 #[.val (.ref o0), .val (.int p1), .val (.int (fi + p1))] [(.ref o0), (.int (fi + p1))])) := fun t k => by
      refine pre5 t ?_
      show Steps p.tables e below (T4.setTop (mkF m 13 #[.val (.ref o0), .val (.int p1), .val (.int (fi + p1))] [(.int nl), (.int (fi + p1))])) _
      refine XS.icmpYes X4.here hx rfl (pc0 := 13) (pc' := 20) rfl (hb hby d7_13) rfl (flt hs13_7).2.1 (by decide) (by decide) ?_
      refine XS.iloadN X4.here hx rfl (hb hby d7_20) rfl ?_
      show Steps p.tables e below (T4.setTop (mkF m 21 #[.val (.ref o0), .val (.int p1), .val (.int (fi + p1))] [(.int (fi + p1))])) _
      refine XS.aloadN X4.here hx rfl (hb hby d7_21) rfl rfl ?_
      exact k
    obtain ⟨T9, X9, e9, st9⟩ := getF X4 hx hZ hown (host := "") (Or.inl (hw _ (List.mem_of_getElem? (i := 14) rfl))) Via.refl e4 P1_F (g := (mkF m 22 #[.val (.ref o0), .val (.int p1), .val (.int (fi + p1))] [(.ref o0), (.int (fi + p1))])) rfl rfl (hb hby d7_22)
    have pre9 : Lead p e below G (T9.setTop (mkF m 25 #[.val (.ref o0), .val (.int p1), .val (.int (fi + p1))] [(.ref ta), (.int (fi + p1))])) := fun t k => pre8 t (st9 _ k)
    obtain ⟨cl10, Ar10, len10⟩ := P2_V.len
    have st10 := X9.arraylength hx (by rw [e9]; exact Ar10.1) (State.isArrayOf_alike hZ.alike Ar10.2.1) (g := (mkF m 25 #[.val (.ref o0), .val (.int p1), .val (.int (fi + p1))] [(.ref ta), (.int (fi + p1))])) rfl rfl (hb hby d7_25)
    rw [len10] at st10
    have pre10 : Lead p e below G (T9.setTop (mkF m 26 #[.val (.ref o0), .val (.int p1), .val (.int (fi + p1))] [(.int nl), (.int (fi + p1))])) := fun t k => pre9 t (st10 _ k)
    obtain ⟨fs, hr, hrun, hended, hW, hsame⟩ := X9.leave (v := some (.int ((fi + p1) - nl))) (fun h => by rw [Bd.returns] at h; cases h)
    have preF : Lead p e below (s₁.setTop (entryFrame m #[(.ref o0), (.int p1)] 3)) (T9.setTop (mkF m 26 #[.val (.ref o0), .val (.int p1), .val (.int (fi + p1))] [(.int nl), (.int (fi + p1))])) := by rw [← hG]; exact pre10
    refine ⟨_, _, preF _ ?_, hrun, hended, _, _, rfl, ?_, ⟨_, rfl⟩, hW, hsame.mono (by decide) (by decide)⟩
    · show Steps p.tables e below (T9.setTop (mkF m 26 #[.val (.ref o0), .val (.int p1), .val (.int (fi + p1))] [(.int nl), (.int (fi + p1))])) _
      refine XS.isub X9.here hx rfl (hb hby d7_26) rfl ?_
      exact retI X9 hx Bd.returns (hb hby d7_27) hr
    · show Q7 Z o0 p1 fi ta nl gt h0 n0 _ T9.heap _
      rw [e9]
      exact ⟨congrArg (fun z => some (Value.int z)) (show ((fi + p1) - nl) = (AtI fi p1 nl) from (if_neg hs13_7).symm), N0, rfl⟩
theorem d2_0 : decode prog_21_method_1_code 0 = .ok (.aload_n 0, 1) := by decide +kernel
theorem d2_1 : decode prog_21_method_1_code 1 = .ok (.invokespecial 1, 3) := by decide +kernel
theorem d2_4 : decode prog_21_method_1_code 4 = .ok (.aload_n 0, 1) := by decide +kernel
theorem d2_5 : decode prog_21_method_1_code 5 = .ok (.iconst 1, 1) := by decide +kernel
theorem d2_6 : decode prog_21_method_1_code 6 = .ok (.newarray .long, 2) := by decide +kernel
theorem d2_8 : decode prog_21_method_1_code 8 = .ok (.putfield 7, 3) := by decide +kernel
theorem d2_11 : decode prog_21_method_1_code 11 = .ok (.aload_n 0, 1) := by decide +kernel
theorem d2_12 : decode prog_21_method_1_code 12 = .ok (.iconst 1, 1) := by decide +kernel
theorem d2_13 : decode prog_21_method_1_code 13 = .ok (.newarray .long, 2) := by decide +kernel
theorem d2_15 : decode prog_21_method_1_code 15 = .ok (.putfield 13, 3) := by decide +kernel
theorem d2_18 : decode prog_21_method_1_code 18 = .ok (.return_, 1) := by decide +kernel
theorem ef_2 (m : MethodId) (o0 : Addr) : entryFrame m #[(.ref o0)] 1 = mkF m 0 #[.val (.ref o0)] [] := by first | (simp [entryFrame, mkF, argsToLocals, Value.category]; done) | rfl
def Q2 (Z : State) (o0 : Addr)  (h0 : Heap) (n0 : Nat) (v : Option Value) (h : Heap) (L : List Loc) : Prop := ∃ n1 : Addr, ∃ n2 : Addr, v = none ∧ Fr n0 L ∧ Keep h0 h [o0] ∧ Exa Z h o0 "com/example/lean_throttle/leanthrottle/TimeRing" ∧ Fld Z h o0 "com/example/lean_throttle/leanthrottle/TimeRing" "times" "[J" (.ref n1) ∧ Fld Z h o0 "com/example/lean_throttle/leanthrottle/TimeRing" "totals" "[J" (.ref n2) ∧ Fld Z h o0 "com/example/lean_throttle/leanthrottle/TimeRing" "first" "I" (.int (0 : Int32)) ∧ Fld Z h o0 "com/example/lean_throttle/leanthrottle/TimeRing" "size" "I" (.int (0 : Int32)) ∧ Fld Z h o0 "com/example/lean_throttle/leanthrottle/TimeRing" "totalBefore" "J" (.long (0 : Int64)) ∧ h0.size ≤ n1 ∧ h0.size ≤ n2 ∧ n1 ≠ n2 ∧ JV Value.long Z h n1 .long (1 : Int32) (fun _ => (0 : Int64)) ∧ JV Value.long Z h n2 .long (1 : Int32) (fun _ => (0 : Int64))
set_option maxRecDepth 65536 in
set_option maxHeartbeats 40000000 in
theorem rm2 (l : Launch) (Z : State) (a0 : Array Value) (hw : ∀ d ∈ tables_1, d.before a0 Z = true) (ws : List Jvm.Cond) (o0 : Addr)  (h0 : Heap) (n0 : Nat) (Z0 : n0 ≤ h0.size) (P0_E : Exa Z h0 o0 "com/example/lean_throttle/leanthrottle/TimeRing") (P1_G : n0 ≤ o0) (P2_F : Fld Z h0 o0 "com/example/lean_throttle/leanthrottle/TimeRing" "times" "[J" .null) (P3_F : Fld Z h0 o0 "com/example/lean_throttle/leanthrottle/TimeRing" "totals" "[J" .null) (P4_F : Fld Z h0 o0 "com/example/lean_throttle/leanthrottle/TimeRing" "first" "I" (.int (0 : Int32))) (P5_F : Fld Z h0 o0 "com/example/lean_throttle/leanthrottle/TimeRing" "size" "I" (.int (0 : Int32))) (P6_F : Fld Z h0 o0 "com/example/lean_throttle/leanthrottle/TimeRing" "totalBefore" "J" (.long (0 : Int64))) :
    MetFree l (⟨"com/example/lean_throttle/leanthrottle/TimeRing", "<init>", "()V"⟩ : MethodName) (head1 (Jvm.Cond.code (⟨"com/example/lean_throttle/leanthrottle/TimeRing", "<init>", "()V"⟩ : MethodName) prog_21_method_1_code 1 none :: ws) ({ frames := 1, cells := 2, slots := 2, locals := 12 } : Room)) (fun a U => a = #[(.ref o0)] ∧ Z.Warmed39 U.vm ∧ U.heap = h0) (fun _ _ _ _ _ => True) (fun _ U o U' => ∃ v L, o = .returned v ∧ Q2 Z o0 h0 n0 v U'.heap L ∧ FrameEnd U o U' L ({ frames := 1, cells := 2, slots := 2, locals := 12 } : Room).cells ({ frames := 1, cells := 2, slots := 2, locals := 12 } : Room).slots) := by
  refine MetFree.of_bodySF (plainFor_of_name pn_com_example_lean_throttle_leanthrottle_TimeRing) hisR ?_
  intro p e s m args below meth c s₁ Bd hml0 hP hK
  obtain ⟨rfl, hZ, hh⟩ := hP
  have hx := Bd.exec
  have hby := Bd.bytes
  have hml : c.maxLocals = 1 := hml0
  have hown : s.vm.findClass "com/example/lean_throttle/leanthrottle/TimeRing" = some m.cls := findClass_of_methodNamed Bd.named
  have hnm := (name_of_methodNamed Bd.named Bd.method).1
  have X0 : Stand p l e ({ frames := 1, cells := 2, slots := 2, locals := 12 } : Room) s m #[(.ref o0)] below meth c s₁ [] 0 0 := Stand.of_body Bd
  have e0 : s₁.heap = h0 := by rw [← hh, Bd.state]; rfl
  have N0 := Fr.nil n0
  have K0 : Keep h0 h0 [o0] := Keep.refl _ _
  obtain ⟨G, hG⟩ : ∃ z, z = s₁.setTop (entryFrame m #[(.ref o0)] 1) := ⟨_, rfl⟩
  have pre0 : Lead p e below G (s₁.setTop (mkF m 0 #[.val (.ref o0)] [])) := fun t k => by rw [hG]; exact castTop (ef_2 m o0) k
  have pre1 : Lead p e below G (s₁.setTop (mkF m 1 #[.val (.ref o0)] [(.ref o0)])) := fun t k => by
    refine pre0 t ?_
    show Steps p.tables e below (s₁.setTop (mkF m 0 #[.val (.ref o0)] [])) _
    refine XS.aloadN X0.here hx rfl (hb hby d2_0) rfl rfl ?_
    show Steps p.tables e below (s₁.setTop (mkF m 1 #[.val (.ref o0)] [(.ref o0)])) _
    exact k
  obtain ⟨T2, X2, e2, st2⟩ := initO X0 hx hZ hown (hw _ (List.mem_of_getElem? (i := 10) rfl)) (hw _ (List.mem_of_getElem? (i := 11) rfl)) (hw _ (List.mem_of_getElem? (i := 12) rfl)) e0 (g := (mkF m 1 #[.val (.ref o0)] [(.ref o0)])) rfl (by rw [hml]; rfl) rfl (hb hby d2_1) (by decide) (W := 0) (by show 2 * 0 + _ ≤ _; exact Nat.le_of_eq rfl) (by decide)
  have pre2 : Lead p e below G (T2.setTop (mkF m 4 #[.val (.ref o0)] [])) := fun t k => pre1 t (st2 _ k)
  have pre3 : Lead p e below G (T2.setTop (mkF m 6 #[.val (.ref o0)] [(.int (1 : Int32)), (.ref o0)])) := fun t k => by
    refine pre2 t ?_
    show Steps p.tables e below (T2.setTop (mkF m 4 #[.val (.ref o0)] [])) _
    refine XS.aloadN X2.here hx rfl (hb hby d2_4) rfl rfl ?_
    refine XS.iconst X2.here hx rfl (hb hby d2_5) ?_
    exact k
  obtain ⟨T4, h4, k4, X4, e4, E4, A4, st4⟩ := newP X2 hx hZ (hw _ (List.mem_of_getElem? (i := 13) rfl)) e2 (g := (mkF m 6 #[.val (.ref o0)] [(.int (1 : Int32)), (.ref o0)])) rfl (hb hby d2_6) rfl (by decide) (cap := 1) (by decide) (by decide) (by decide) (by decide)
  obtain ⟨b4, g4⟩ : ∃ z, z = h0.size := ⟨_, rfl⟩
  rw [← g4] at A4 st4
  have ne4_o0 : o0 ≠ b4 := Nat.ne_of_lt (Nat.lt_of_lt_of_le P0_E.lt (Nat.le_of_eq g4.symm))
  have sz4 : h0.size ≤ b4 := Nat.le_trans K0.1 (Nat.le_of_eq g4.symm)
  have ge4 : n0 ≤ b4 := Nat.le_trans Z0 sz4
  have K4 : Keep h0 h4 [o0] := K0.ext E4
  have V4 : JV Value.long Z h4 b4 .long (1 : Int32) (fun _ => (0 : Int64)) := JV.new A4 (by decide) _ rfl
  have pre4 : Lead p e below G (T4.setTop (mkF m 8 #[.val (.ref o0)] [(.ref b4), (.ref o0)])) := fun t k => pre3 t (st4 _ k)
  have f6 : Fld Z h4 o0 "com/example/lean_throttle/leanthrottle/TimeRing" "times" "[J" .null := (P2_F.ext E4)
  have f7 : Exa Z h4 o0 "com/example/lean_throttle/leanthrottle/TimeRing" := (P0_E.ext E4)
  obtain ⟨T5, h5, X5, e5, W5, st5⟩ := putF X4 hx hZ hown (host := "") (Or.inl (hw _ (List.mem_of_getElem? (i := 14) rfl))) Via.refl e4 f6 f7 (Or.inl (hw _ (List.mem_of_getElem? (i := 15) rfl))) (hw _ (List.mem_of_getElem? (i := 5) rfl)) (ty := (.array .long)) (by decide) rfl rfl (g := (mkF m 8 #[.val (.ref o0)] [(.ref b4), (.ref o0)])) rfl rfl (hb hby d2_8)
  have N5 := Fr.snoc X5 N0 P1_G
  have K5 : Keep h0 h5 [o0] := K4.wr W5 (Or.inl (List.mem_of_getElem? (i := 0) rfl))
  obtain ⟨M5, Y5, N5⟩ : ∃ M, Stand p l e ({ frames := 1, cells := 2, slots := 2, locals := 12 } : Room) s m #[(.ref o0)] below meth c T5 M 1 1 ∧ Fr n0 M := ⟨_, X5, N5⟩
  have Fw5 : Fld Z h5 o0 "com/example/lean_throttle/leanthrottle/TimeRing" "times" "[J" (.ref b4) := f6.same W5
  have pre5 : Lead p e below G (T5.setTop (mkF m 11 #[.val (.ref o0)] [])) := fun t k => pre4 t (st5 _ k)
  have pre8 : Lead p e below G (T5.setTop (mkF m 13 #[.val (.ref o0)] [(.int (1 : Int32)), (.ref o0)])) := fun t k => by
    refine pre5 t ?_
    show Steps p.tables e below (T5.setTop (mkF m 11 #[.val (.ref o0)] [])) _
    refine XS.aloadN Y5.here hx rfl (hb hby d2_11) rfl rfl ?_
    show Steps p.tables e below (T5.setTop (mkF m 12 #[.val (.ref o0)] [(.ref o0)])) _
    refine XS.iconst Y5.here hx rfl (hb hby d2_12) ?_
    exact k
  obtain ⟨T9, h9, k9, X9, e9, E9, A9, st9⟩ := newP Y5 hx hZ (hw _ (List.mem_of_getElem? (i := 13) rfl)) e5 (g := (mkF m 13 #[.val (.ref o0)] [(.int (1 : Int32)), (.ref o0)])) rfl (hb hby d2_13) rfl (by decide) (cap := 1) (by decide) (by decide) (by decide) (by decide)
  obtain ⟨b9, g9⟩ : ∃ z, z = h5.size := ⟨_, rfl⟩
  rw [← g9] at A9 st9
  have f10 : Exa Z h5 o0 "com/example/lean_throttle/leanthrottle/TimeRing" := (f7.wr W5)
  have ne9_o0 : o0 ≠ b9 := Nat.ne_of_lt (Nat.lt_of_lt_of_le f10.lt (Nat.le_of_eq g9.symm))
  have f11 : JV Value.long Z h5 b4 .long (1 : Int32) (fun _ => (0 : Int64)) := (V4.other W5 (Ne.symm ne4_o0))
  have ne9_b4 : b4 ≠ b9 := Nat.ne_of_lt (Nat.lt_of_lt_of_le f11.lt (Nat.le_of_eq g9.symm))
  have sz9 : h0.size ≤ b9 := Nat.le_trans K5.1 (Nat.le_of_eq g9.symm)
  have ge9 : n0 ≤ b9 := Nat.le_trans Z0 sz9
  have K9 : Keep h0 h9 [o0] := K5.ext E9
  have V9 : JV Value.long Z h9 b9 .long (1 : Int32) (fun _ => (0 : Int64)) := JV.new A9 (by decide) _ rfl
  have pre9 : Lead p e below G (T9.setTop (mkF m 15 #[.val (.ref o0)] [(.ref b9), (.ref o0)])) := fun t k => pre8 t (st9 _ k)
  have f13 : Fld Z h9 o0 "com/example/lean_throttle/leanthrottle/TimeRing" "totals" "[J" .null := (((P3_F.ext E4).other W5 (Or.inr (slot_ne (Or.inl (hw _ (List.mem_of_getElem? (i := 17) rfl))) (Or.inl (hw _ (List.mem_of_getElem? (i := 15) rfl))) (by decide) (t := (.array .long)) (t' := (.array .long)) (by decide) (by decide)))).ext E9)
  have f14 : Exa Z h9 o0 "com/example/lean_throttle/leanthrottle/TimeRing" := (f10.ext E9)
  obtain ⟨T12, h12, X12, e12, W12, st12⟩ := putF X9 hx hZ hown (host := "") (Or.inl (hw _ (List.mem_of_getElem? (i := 16) rfl))) Via.refl e9 f13 f14 (Or.inl (hw _ (List.mem_of_getElem? (i := 17) rfl))) (hw _ (List.mem_of_getElem? (i := 5) rfl)) (ty := (.array .long)) (by decide) rfl rfl (g := (mkF m 15 #[.val (.ref o0)] [(.ref b9), (.ref o0)])) rfl rfl (hb hby d2_15)
  have N12 := Fr.snoc X12 N5 P1_G
  have K12 : Keep h0 h12 [o0] := K9.wr W12 (Or.inl (List.mem_of_getElem? (i := 0) rfl))
  obtain ⟨M12, Y12, N12⟩ : ∃ M, Stand p l e ({ frames := 1, cells := 2, slots := 2, locals := 12 } : Room) s m #[(.ref o0)] below meth c T12 M 2 2 ∧ Fr n0 M := ⟨_, X12, N12⟩
  have Fw12 : Fld Z h12 o0 "com/example/lean_throttle/leanthrottle/TimeRing" "totals" "[J" (.ref b9) := f13.same W12
  have pre12 : Lead p e below G (T12.setTop (mkF m 18 #[.val (.ref o0)] [])) := fun t k => pre9 t (st12 _ k)
  obtain ⟨fs, hr, hrun, hended, hW, hsame⟩ := Y12.leave (v := none) (fun _ => rfl)
  have preF : Lead p e below (s₁.setTop (entryFrame m #[(.ref o0)] 1)) (T12.setTop (mkF m 18 #[.val (.ref o0)] [])) := by rw [← hG]; exact pre12
  refine ⟨_, _, preF _ ?_, hrun, hended, _, _, rfl, ?_, ⟨_, rfl⟩, hW, hsame.mono (by decide) (by decide)⟩
  · show Steps p.tables e below (T12.setTop (mkF m 18 #[.val (.ref o0)] [])) _
    exact Y12.returnOut hx Bd.returns (hb hby d2_18) hr
  · show Q2 Z o0 h0 n0 _ T12.heap _
    rw [e12]
    have f15 : Exa Z h12 o0 "com/example/lean_throttle/leanthrottle/TimeRing" := (f14.wr W12)
    have f16 : Fld Z h12 o0 "com/example/lean_throttle/leanthrottle/TimeRing" "times" "[J" (.ref b4) := ((Fw5.ext E9).other W12 (Or.inr (slot_ne (Or.inl (hw _ (List.mem_of_getElem? (i := 15) rfl))) (Or.inl (hw _ (List.mem_of_getElem? (i := 17) rfl))) (by decide) (t := (.array .long)) (t' := (.array .long)) (by decide) (by decide))))
    have f17 : Fld Z h12 o0 "com/example/lean_throttle/leanthrottle/TimeRing" "first" "I" (.int (0 : Int32)) := ((((P4_F.ext E4).other W5 (Or.inr (slot_ne (Or.inl (hw _ (List.mem_of_getElem? (i := 41) rfl))) (Or.inl (hw _ (List.mem_of_getElem? (i := 15) rfl))) (by decide) (t := .int) (t' := (.array .long)) (by decide) (by decide)))).ext E9).other W12 (Or.inr (slot_ne (Or.inl (hw _ (List.mem_of_getElem? (i := 41) rfl))) (Or.inl (hw _ (List.mem_of_getElem? (i := 17) rfl))) (by decide) (t := .int) (t' := (.array .long)) (by decide) (by decide))))
    have f18 : Fld Z h12 o0 "com/example/lean_throttle/leanthrottle/TimeRing" "size" "I" (.int (0 : Int32)) := ((((P5_F.ext E4).other W5 (Or.inr (slot_ne (Or.inl (hw _ (List.mem_of_getElem? (i := 33) rfl))) (Or.inl (hw _ (List.mem_of_getElem? (i := 15) rfl))) (by decide) (t := .int) (t' := (.array .long)) (by decide) (by decide)))).ext E9).other W12 (Or.inr (slot_ne (Or.inl (hw _ (List.mem_of_getElem? (i := 33) rfl))) (Or.inl (hw _ (List.mem_of_getElem? (i := 17) rfl))) (by decide) (t := .int) (t' := (.array .long)) (by decide) (by decide))))
    have f19 : Fld Z h12 o0 "com/example/lean_throttle/leanthrottle/TimeRing" "totalBefore" "J" (.long (0 : Int64)) := ((((P6_F.ext E4).other W5 (Or.inr (slot_ne (Or.inl (hw _ (List.mem_of_getElem? (i := 35) rfl))) (Or.inl (hw _ (List.mem_of_getElem? (i := 15) rfl))) (by decide) (t := .long) (t' := (.array .long)) (by decide) (by decide)))).ext E9).other W12 (Or.inr (slot_ne (Or.inl (hw _ (List.mem_of_getElem? (i := 35) rfl))) (Or.inl (hw _ (List.mem_of_getElem? (i := 17) rfl))) (by decide) (t := .long) (t' := (.array .long)) (by decide) (by decide))))
    have f20 : JV Value.long Z h12 b4 .long (1 : Int32) (fun _ => (0 : Int64)) := ((f11.ext E9).other W12 (Ne.symm ne4_o0))
    have f21 : JV Value.long Z h12 b9 .long (1 : Int32) (fun _ => (0 : Int64)) := (V9.other W12 (Ne.symm ne9_o0))
    exact ⟨b4, b9, rfl, N12, K12, f15, f16, Fw12, f17, f18, f19, sz4, sz9, ne9_b4, f20, f21⟩
theorem pd__28_I_29_I : parseMethodDescriptor "(I)I" = some ⟨[.int], some .int⟩ := by decide +kernel
theorem d6_0 : decode prog_21_method_11_code 0 = .ok (.aload_n 0, 1) := by decide +kernel
theorem d6_1 : decode prog_21_method_11_code 1 = .ok (.getfield 16, 3) := by decide +kernel
theorem d6_4 : decode prog_21_method_11_code 4 = .ok (.ifCond .le 21, 3) := by decide +kernel
theorem d6_7 : decode prog_21_method_11_code 7 = .ok (.aload_n 0, 1) := by decide +kernel
theorem d6_8 : decode prog_21_method_11_code 8 = .ok (.getfield 13, 3) := by decide +kernel
theorem d6_11 : decode prog_21_method_11_code 11 = .ok (.aload_n 0, 1) := by decide +kernel
theorem d6_12 : decode prog_21_method_11_code 12 = .ok (.aload_n 0, 1) := by decide +kernel
theorem d6_13 : decode prog_21_method_11_code 13 = .ok (.getfield 16, 3) := by decide +kernel
theorem d6_16 : decode prog_21_method_11_code 16 = .ok (.iconst 1, 1) := by decide +kernel
theorem d6_17 : decode prog_21_method_11_code 17 = .ok (.isub, 1) := by decide +kernel
theorem d6_18 : decode prog_21_method_11_code 18 = .ok (.invokevirtual 23, 3) := by decide +kernel
theorem d6_21 : decode prog_21_method_11_code 21 = .ok (.laload, 1) := by decide +kernel
theorem d6_22 : decode prog_21_method_11_code 22 = .ok (.goto 7, 3) := by decide +kernel
theorem d6_25 : decode prog_21_method_11_code 25 = .ok (.aload_n 0, 1) := by decide +kernel
theorem d6_26 : decode prog_21_method_11_code 26 = .ok (.getfield 31, 3) := by decide +kernel
theorem d6_29 : decode prog_21_method_11_code 29 = .ok (.lreturn, 1) := by decide +kernel
def F6 (fi : Int32) (sz : Int32) (nl : Int32) (bf : Int64) (gT : Nat → Int64) : Int64 := if (0 : Int32) < sz then ((gT ((AtI fi (sz - (1 : Int32)) nl)).toNatClampNeg)) else (bf)
theorem aux6_12 (o0 : Addr) (ta : Addr) (tA : Addr) (fi : Int32) (sz : Int32) (nl : Int32) (bf : Int64) (gt : Nat → Int64) (gT : Nat → Int64)  (hs4_4 : (0 : Int32) < sz) : (gT ((AtI fi (sz - (1 : Int32)) nl)).toNatClampNeg) = F6 fi sz nl bf gT := by
  skip
  refine Eq.symm ?_; unfold F6; refine Eq.trans (if_pos hs4_4) ?_; rfl
theorem aux6_15 (o0 : Addr) (ta : Addr) (tA : Addr) (fi : Int32) (sz : Int32) (nl : Int32) (bf : Int64) (gt : Nat → Int64) (gT : Nat → Int64)  (hs4_4 : ¬ ((0 : Int32) < sz)) : bf = F6 fi sz nl bf gT := by
  skip
  refine Eq.symm ?_; unfold F6; refine Eq.trans (if_neg hs4_4) ?_; rfl
theorem ef_6 (m : MethodId) (o0 : Addr) : entryFrame m #[(.ref o0)] 1 = mkF m 0 #[.val (.ref o0)] [] := by first | (simp [entryFrame, mkF, argsToLocals, Value.category]; done) | rfl
def Q6 (Z : State) (o0 : Addr) (ta : Addr) (tA : Addr) (fi : Int32) (sz : Int32) (nl : Int32) (bf : Int64) (gt : Nat → Int64) (gT : Nat → Int64) (h0 : Heap) (n0 : Nat) (v : Option Value) (h : Heap) (L : List Loc) : Prop := v = some (.long (F6 fi sz nl bf gT)) ∧ Fr n0 L ∧ h = h0
set_option maxRecDepth 65536 in
set_option maxHeartbeats 40000000 in
theorem rm6 (l : Launch) (Z : State) (a0 : Array Value) (hw : ∀ d ∈ tables_1, d.before a0 Z = true) (ws : List Jvm.Cond) (o0 : Addr) (ta : Addr) (tA : Addr) (fi : Int32) (sz : Int32) (nl : Int32) (bf : Int64) (gt : Nat → Int64) (gT : Nat → Int64) (h0 : Heap) (n0 : Nat) (Z0 : n0 ≤ h0.size) (P0_E : Exa Z h0 o0 "com/example/lean_throttle/leanthrottle/TimeRing") (P1_F : Fld Z h0 o0 "com/example/lean_throttle/leanthrottle/TimeRing" "times" "[J" (.ref ta)) (P2_F : Fld Z h0 o0 "com/example/lean_throttle/leanthrottle/TimeRing" "totals" "[J" (.ref tA)) (P3_F : Fld Z h0 o0 "com/example/lean_throttle/leanthrottle/TimeRing" "first" "I" (.int fi)) (P4_F : Fld Z h0 o0 "com/example/lean_throttle/leanthrottle/TimeRing" "size" "I" (.int sz)) (P5_F : Fld Z h0 o0 "com/example/lean_throttle/leanthrottle/TimeRing" "totalBefore" "J" (.long bf)) (P6_V : JV Value.long Z h0 ta .long nl gt) (P7_V : JV Value.long Z h0 tA .long nl gT) (P8_NE : o0 ≠ ta) (P9_NE : o0 ≠ tA) (P10_NE : ta ≠ tA) (hfi : (0 ≤ fi.toInt ∧ fi.toInt < nl.toInt)) (hsz : (0 ≤ sz.toInt ∧ sz.toInt ≤ nl.toInt)) (hl4 : (nl.toInt ≤ 4)) :
    MetFree l (⟨"com/example/lean_throttle/leanthrottle/TimeRing", "newestTotal", "()J"⟩ : MethodName) (head1 (Jvm.Cond.code (⟨"com/example/lean_throttle/leanthrottle/TimeRing", "newestTotal", "()J"⟩ : MethodName) prog_21_method_11_code 1 (some .long) :: ws) ({ frames := 1, cells := 0, slots := 0, locals := 15 } : Room)) (fun a U => a = #[(.ref o0)] ∧ Z.Warmed39 U.vm ∧ U.heap = h0) (fun _ _ _ _ _ => True) (fun _ U o U' => ∃ v L, o = .returned v ∧ Q6 Z o0 ta tA fi sz nl bf gt gT h0 n0 v U'.heap L ∧ FrameEnd U o U' L ({ frames := 1, cells := 0, slots := 0, locals := 15 } : Room).cells ({ frames := 1, cells := 0, slots := 0, locals := 15 } : Room).slots) := by
  refine MetFree.of_bodySF (plainFor_of_name pn_com_example_lean_throttle_leanthrottle_TimeRing) hisR ?_
  intro p e s m args below meth c s₁ Bd hml0 hP hK
  obtain ⟨rfl, hZ, hh⟩ := hP
  have hx := Bd.exec
  have hby := Bd.bytes
  have hml : c.maxLocals = 1 := hml0
  have hown : s.vm.findClass "com/example/lean_throttle/leanthrottle/TimeRing" = some m.cls := findClass_of_methodNamed Bd.named
  have hnm := (name_of_methodNamed Bd.named Bd.method).1
  have X0 : Stand p l e ({ frames := 1, cells := 0, slots := 0, locals := 15 } : Room) s m #[(.ref o0)] below meth c s₁ [] 0 0 := Stand.of_body Bd
  have e0 : s₁.heap = h0 := by rw [← hh, Bd.state]; rfl
  have N0 := Fr.nil n0
  have K0 : Keep h0 h0 [] := Keep.refl _ _
  obtain ⟨G, hG⟩ : ∃ z, z = s₁.setTop (entryFrame m #[(.ref o0)] 1) := ⟨_, rfl⟩
  have pre0 : Lead p e below G (s₁.setTop (mkF m 0 #[.val (.ref o0)] [])) := fun t k => by rw [hG]; exact castTop (ef_6 m o0) k
  have pre1 : Lead p e below G (s₁.setTop (mkF m 1 #[.val (.ref o0)] [(.ref o0)])) := fun t k => by
    refine pre0 t ?_
    show Steps p.tables e below (s₁.setTop (mkF m 0 #[.val (.ref o0)] [])) _
    refine XS.aloadN X0.here hx rfl (hb hby d6_0) rfl rfl ?_
    exact k
  obtain ⟨T2, X2, e2, st2⟩ := getF X0 hx hZ hown (host := "") (Or.inl (hw _ (List.mem_of_getElem? (i := 32) rfl))) Via.refl e0 P4_F (g := (mkF m 1 #[.val (.ref o0)] [(.ref o0)])) rfl rfl (hb hby d6_1)
  have pre2 : Lead p e below G (T2.setTop (mkF m 4 #[.val (.ref o0)] [(.int sz)])) := fun t k => pre1 t (st2 _ k)
  by_cases hs4_4 : (0 : Int32) < sz
  · have pre5 : Lead p e below G (T2.setTop (mkF m 8 #[.val (.ref o0)] [(.ref o0)])) := fun t k => by
      refine pre2 t ?_
      show Steps p.tables e below (T2.setTop (mkF m 4 #[.val (.ref o0)] [(.int sz)])) _
      refine XS.ifNo X2.here hx rfl (hb hby d6_4) rfl ((if0 _ _).trans (tlt hs4_4).2.2.2) ?_
      show Steps p.tables e below (T2.setTop (mkF m 7 #[.val (.ref o0)] [])) _
      refine XS.aloadN X2.here hx rfl (hb hby d6_7) rfl rfl ?_
      exact k
    obtain ⟨T6, X6, e6, st6⟩ := getF X2 hx hZ hown (host := "") (Or.inl (hw _ (List.mem_of_getElem? (i := 16) rfl))) Via.refl e2 P2_F (g := (mkF m 8 #[.val (.ref o0)] [(.ref o0)])) rfl rfl (hb hby d6_8)
    have pre6 : Lead p e below G (T6.setTop (mkF m 11 #[.val (.ref o0)] [(.ref tA)])) := fun t k => pre5 t (st6 _ k)
    have pre7 : Lead p e below G (T6.setTop (mkF m 13 #[.val (.ref o0)] [(.ref o0), (.ref o0), (.ref tA)])) := fun t k => by
      refine pre6 t ?_
      show Steps p.tables e below (T6.setTop (mkF m 11 #[.val (.ref o0)] [(.ref tA)])) _
      refine XS.aloadN X6.here hx rfl (hb hby d6_11) rfl rfl ?_
      refine XS.aloadN X6.here hx rfl (hb hby d6_12) rfl rfl ?_
      show Steps p.tables e below (T6.setTop (mkF m 13 #[.val (.ref o0)] [(.ref o0), (.ref o0), (.ref tA)])) _
      exact k
    obtain ⟨T8, X8, e8, st8⟩ := getF X6 hx hZ hown (host := "") (Or.inl (hw _ (List.mem_of_getElem? (i := 32) rfl))) Via.refl e6 P4_F (g := (mkF m 13 #[.val (.ref o0)] [(.ref o0), (.ref o0), (.ref tA)])) rfl rfl (hb hby d6_13)
    have pre8 : Lead p e below G (T8.setTop (mkF m 16 #[.val (.ref o0)] [(.int sz), (.ref o0), (.ref tA)])) := fun t k => pre7 t (st8 _ k)
    have pre9 : Lead p e below G (T8.setTop (mkF m 18 #[.val (.ref o0)] [(.int (sz - (1 : Int32))), (.ref o0), (.ref tA)])) := fun t k => by
      refine pre8 t ?_
      show Steps p.tables e below (T8.setTop (mkF m 16 #[.val (.ref o0)] [(.int sz), (.ref o0), (.ref tA)])) _
      refine XS.iconst X8.here hx rfl (hb hby d6_16) ?_
      refine XS.isub X8.here hx rfl (hb hby d6_17) rfl ?_
      exact k
    obtain ⟨cq10, zq10, zq10'⟩ := P0_E.cell
    obtain ⟨_, _, ⟨T10, L10, k10, n10⟩, -, X10, ⟨Lc10, hQ10, l10, y10, z10⟩, st10⟩ := X8.privateBack hx (y := (⟨"com/example/lean_throttle/leanthrottle/TimeRing", "at", "(I)I"⟩ : MethodName)) hown (mvT hZ (hw _ (List.mem_of_getElem? (i := 36) rfl))) (mvT hZ (hw _ (List.mem_of_getElem? (i := 37) rfl))) (own_selp hZ (hw _ (List.mem_of_getElem? (i := 5) rfl)) (hw _ (List.mem_of_getElem? (i := 38) rfl)) (hw _ (List.mem_of_getElem? (i := 37) rfl)) (by decide)) (Cond.privateMethod_at (mvP hZ (hw _ (List.mem_of_getElem? (i := 38) rfl)) (args := #[]))) (mvT hZ (hw _ (List.mem_of_getElem? (i := 39) rfl))) (by decide) (backOf (W := 1) (rm7 l Z a0 hw [] o0 (sz - (1 : Int32)) fi ta nl gt h0 n0 (Nat.le_trans Z0 K0.1) P3_F P1_F P6_V) hZ (hw _ (List.mem_of_getElem? (i := 39) rfl)) (hw _ (List.mem_of_getElem? (i := 6) rfl)) (by decide) (by decide)) (g := (mkF m 18 #[.val (.ref o0)] [(.int (sz - (1 : Int32))), (.ref o0), (.ref tA)])) rfl (by rw [hml]; rfl) (Steps.refl _) (a := o0) (by rw [e8]; exact zq10) zq10' (argsL := [(.int (sz - (1 : Int32)))]) (rest := [(.ref tA)]) (lenOf pd__28_I_29_I rfl) rfl (by show 2 * 0 + _ ≤ _; exact Nat.le_of_eq rfl) (hb hby d6_18) (fun _ _ => ⟨rfl, e8, (by decide : 0 + 0 ≤ _), (by decide : 0 + 0 ≤ _)⟩)
    dsimp only [Pt.U, Pt.locs, Pt.cells, Pt.slots] at X10 l10 y10 z10 st10 hQ10
    subst l10 y10 z10
    obtain ⟨rfl, N10q, e10⟩ := hQ10
    have N10 := Fr.app N0 N10q
    obtain ⟨M10, Y10, N10⟩ : ∃ M, Stand p l e ({ frames := 1, cells := 0, slots := 0, locals := 15 } : Room) s m #[(.ref o0)] below meth c T10 M 0 0 ∧ Fr n0 M := ⟨_, X10, N10⟩
    have pre10 : Lead p e below G (T10.setTop (mkF m 21 #[.val (.ref o0)] [(.int (AtI fi (sz - (1 : Int32)) nl)), (.ref tA)])) := fun t k => pre9 t (st10.trans k)
    obtain ⟨cl11, Ar11, hin11, hat11⟩ := P7_V.in (j := (AtI fi (sz - (1 : Int32)) nl)) (by skip; exact (own_pb hfi hsz hl4 hs4_4))
    have st11 := Y10.laload hx (j := (AtI fi (sz - (1 : Int32)) nl)) (v := (.long (gT ((AtI fi (sz - (1 : Int32)) nl)).toNatClampNeg))) (by rw [e10]; exact Ar11.1) (State.isArrayOf_alike hZ.alike Ar11.2.1) Ar11.2.2 hin11 hat11 (g := (mkF m 21 #[.val (.ref o0)] [(.int (AtI fi (sz - (1 : Int32)) nl)), (.ref tA)])) rfl rfl (hb hby d6_21)
    have pre11 : Lead p e below G (T10.setTop (mkF m 22 #[.val (.ref o0)] [(.long (gT ((AtI fi (sz - (1 : Int32)) nl)).toNatClampNeg))])) := fun t k => pre10 t (st11 _ k)
    obtain ⟨fs, hr, hrun, hended, hW, hsame⟩ := Y10.leave (v := some (.long (gT ((AtI fi (sz - (1 : Int32)) nl)).toNatClampNeg))) (fun h => by rw [Bd.returns] at h; cases h)
    have preF : Lead p e below (s₁.setTop (entryFrame m #[(.ref o0)] 1)) (T10.setTop (mkF m 22 #[.val (.ref o0)] [(.long (gT ((AtI fi (sz - (1 : Int32)) nl)).toNatClampNeg))])) := by rw [← hG]; exact pre11
    refine ⟨_, _, preF _ ?_, hrun, hended, _, _, rfl, ?_, ⟨_, rfl⟩, hW, hsame.mono (by decide) (by decide)⟩
    · show Steps p.tables e below (T10.setTop (mkF m 22 #[.val (.ref o0)] [(.long (gT ((AtI fi (sz - (1 : Int32)) nl)).toNatClampNeg))])) _
      refine XS.goto Y10.here hx rfl (pc0 := 22) (pc' := 29) rfl (hb hby d6_22) (by decide) (by decide) ?_
      show Steps p.tables e below (T10.setTop (mkF m 29 #[.val (.ref o0)] [(.long (gT ((AtI fi (sz - (1 : Int32)) nl)).toNatClampNeg))])) _
      exact retJ Y10 hx Bd.returns (hb hby d6_29) hr
    · show Q6 Z o0 ta tA fi sz nl bf gt gT h0 n0 _ T10.heap _
      rw [e10]
      have hv_ : (gT ((AtI fi (sz - (1 : Int32)) nl)).toNatClampNeg) = F6 fi sz nl bf gT := (aux6_12 o0 ta tA fi sz nl bf gt gT hs4_4)
      exact ⟨congrArg (fun z => some (Value.long z)) hv_, N10, rfl⟩
  · have pre13 : Lead p e below G (T2.setTop (mkF m 26 #[.val (.ref o0)] [(.ref o0)])) := fun t k => by
      refine pre2 t ?_
      show Steps p.tables e below (T2.setTop (mkF m 4 #[.val (.ref o0)] [(.int sz)])) _
      refine XS.ifYes X2.here hx rfl (pc0 := 4) (pc' := 25) rfl (hb hby d6_4) rfl ((if0 _ _).trans (flt hs4_4).2.2.2) (by decide) (by decide) ?_
      refine XS.aloadN X2.here hx rfl (hb hby d6_25) rfl rfl ?_
      exact k
    obtain ⟨T14, X14, e14, st14⟩ := getF X2 hx hZ hown (host := "") (Or.inl (hw _ (List.mem_of_getElem? (i := 34) rfl))) Via.refl e2 P5_F (g := (mkF m 26 #[.val (.ref o0)] [(.ref o0)])) rfl rfl (hb hby d6_26)
    have pre14 : Lead p e below G (T14.setTop (mkF m 29 #[.val (.ref o0)] [(.long bf)])) := fun t k => pre13 t (st14 _ k)
    obtain ⟨fs, hr, hrun, hended, hW, hsame⟩ := X14.leave (v := some (.long bf)) (fun h => by rw [Bd.returns] at h; cases h)
    have preF : Lead p e below (s₁.setTop (entryFrame m #[(.ref o0)] 1)) (T14.setTop (mkF m 29 #[.val (.ref o0)] [(.long bf)])) := by rw [← hG]; exact pre14
    refine ⟨_, _, preF _ ?_, hrun, hended, _, _, rfl, ?_, ⟨_, rfl⟩, hW, hsame.mono (by decide) (by decide)⟩
    · show Steps p.tables e below (T14.setTop (mkF m 29 #[.val (.ref o0)] [(.long bf)])) _
      exact retJ X14 hx Bd.returns (hb hby d6_29) hr
    · show Q6 Z o0 ta tA fi sz nl bf gt gT h0 n0 _ T14.heap _
      rw [e14]
      have hv_ : bf = F6 fi sz nl bf gT := (aux6_15 o0 ta tA fi sz nl bf gt gT hs4_4)
      exact ⟨congrArg (fun z => some (Value.long z)) hv_, N0, rfl⟩
theorem d9_7 : decode prog_21_method_12_code 7 = .ok (.iload 4, 2) := by decide +kernel
theorem d9_9 : decode prog_21_method_12_code 9 = .ok (.aload_n 0, 1) := by decide +kernel
theorem d9_10 : decode prog_21_method_12_code 10 = .ok (.getfield 16, 3) := by decide +kernel
theorem d9_13 : decode prog_21_method_12_code 13 = .ok (.if_icmp .ge 21, 3) := by decide +kernel
theorem d9_16 : decode prog_21_method_12_code 16 = .ok (.aload_n 3, 1) := by decide +kernel
theorem d9_17 : decode prog_21_method_12_code 17 = .ok (.iload 4, 2) := by decide +kernel
theorem d9_19 : decode prog_21_method_12_code 19 = .ok (.aload_n 1, 1) := by decide +kernel
theorem d9_20 : decode prog_21_method_12_code 20 = .ok (.aload_n 0, 1) := by decide +kernel
theorem d9_21 : decode prog_21_method_12_code 21 = .ok (.iload 4, 2) := by decide +kernel
theorem d9_23 : decode prog_21_method_12_code 23 = .ok (.invokevirtual 23, 3) := by decide +kernel
theorem d9_26 : decode prog_21_method_12_code 26 = .ok (.laload, 1) := by decide +kernel
theorem d9_27 : decode prog_21_method_12_code 27 = .ok (.lastore, 1) := by decide +kernel
theorem d9_28 : decode prog_21_method_12_code 28 = .ok (.iinc 4 1, 3) := by decide +kernel
theorem d9_31 : decode prog_21_method_12_code 31 = .ok (.goto (-24), 3) := by decide +kernel
set_option maxRecDepth 65536 in
set_option maxHeartbeats 40000000 in
theorem lp9_7 (l : Launch) (Z : State) (a0 : Array Value) (hw : ∀ d ∈ tables_1, d.before a0 Z = true) {p : Program} {e : Env} {s : State} {m : MethodId} {below : List Frame} {meth : Method} {c : Code} (o0 : Addr) (o1 : Addr) (p2 : Int32) (ta : Addr) (fi : Int32) (sz : Int32) (nl : Int32) (gt : Nat → Int64) (go : Nat → Int64) (bx : Addr) (n0 : Nat) (hx : p.tables.exec = Jvm.exec) (hZ : Z.Warmed39 s.vm) (hby : c.code = prog_21_method_12_code) (hml : c.maxLocals = 5) (hown : s.vm.findClass "com/example/lean_throttle/leanthrottle/TimeRing" = some m.cls) (Q0_G : n0 ≤ bx) (Q1_NE : o0 ≠ bx) (Q2_NE : ta ≠ bx) (Q3_NE : o1 ≠ bx) (hfi : 0 ≤ fi.toInt ∧ fi.toInt < nl.toInt) (hsz : 0 ≤ sz.toInt ∧ sz.toInt ≤ nl.toInt) (hl4 : nl.toInt ≤ 4) (hle : sz.toInt ≤ p2.toInt) :
    ∀ (d : Nat) (iv : Int32) (gr : Nat → Int64) (T0 : State) (M0 : List Loc) (h0 : Heap), n0 ≤ h0.size → (sz.toInt - iv.toInt).toNat = d → (0 ≤ iv.toInt ∧ iv.toInt ≤ sz.toInt) → (∀ j, j < iv.toInt.toNat → gr j = go (AtI fi (Int32.ofNat j) nl).toNatClampNeg) → Stand p l e ({ frames := 1, cells := 1, slots := 4, locals := 17 } : Room) s m #[(.ref o0), (.ref o1), (.int p2)] below meth c T0 M0 1 4 → T0.heap = h0 → Fr n0 M0 → Exa Z h0 o0 "com/example/lean_throttle/leanthrottle/TimeRing" → Fld Z h0 o0 "com/example/lean_throttle/leanthrottle/TimeRing" "size" "I" (.int sz) → Fld Z h0 o0 "com/example/lean_throttle/leanthrottle/TimeRing" "first" "I" (.int fi) → Fld Z h0 o0 "com/example/lean_throttle/leanthrottle/TimeRing" "times" "[J" (.ref ta) → JV Value.long Z h0 ta .long nl gt → JV Value.long Z h0 o1 .long nl go → JV Value.long Z h0 bx .long p2 gr → (∃ (iv_ : Int32) (gr_ : Nat → Int64) (T' : State) (M' : List Loc) (h' : Heap), (∀ j, j < sz.toInt.toNat → gr_ j = go (AtI fi (Int32.ofNat j) nl).toNatClampNeg) ∧ Stand p l e ({ frames := 1, cells := 1, slots := 4, locals := 17 } : Room) s m #[(.ref o0), (.ref o1), (.int p2)] below meth c T' M' 1 4 ∧ T'.heap = h' ∧ Fr n0 M' ∧ Keep h0 h' [bx] ∧ Exa Z h' o0 "com/example/lean_throttle/leanthrottle/TimeRing" ∧ Fld Z h' o0 "com/example/lean_throttle/leanthrottle/TimeRing" "size" "I" (.int sz) ∧ Fld Z h' o0 "com/example/lean_throttle/leanthrottle/TimeRing" "first" "I" (.int fi) ∧ Fld Z h' o0 "com/example/lean_throttle/leanthrottle/TimeRing" "times" "[J" (.ref ta) ∧ JV Value.long Z h' ta .long nl gt ∧ JV Value.long Z h' o1 .long nl go ∧ JV Value.long Z h' bx .long p2 gr_ ∧ Lead p e below (T0.setTop (mkF m 7 #[.val (.ref o0), .val (.ref o1), .val (.int p2), .val (.ref bx), .val (.int iv)] [])) (T'.setTop (mkF m 34 #[.val (.ref o0), .val (.ref o1), .val (.int p2), .val (.ref bx), .val (.int iv_)] []))) := by
  intro d
  induction d using Nat.strongRecOn with
  | ind d ih =>
    intro iv gr T0 M0 h0 Z0 hd hi hdn X0 e0 N0 P0_E P1_F P2_F P3_F P4_V P5_V P6_V
    have K0 : Keep h0 h0 [bx] := Keep.refl _ _
    obtain ⟨G, hG⟩ : ∃ z, z = T0.setTop (mkF m 7 #[.val (.ref o0), .val (.ref o1), .val (.int p2), .val (.ref bx), .val (.int iv)] []) := ⟨_, rfl⟩
    rw [← hG]
    have pre0 : Lead p e below G (T0.setTop (mkF m 7 #[.val (.ref o0), .val (.ref o1), .val (.int p2), .val (.ref bx), .val (.int iv)] [])) := fun t k => by rw [hG]; exact k
    have pre1 : Lead p e below G (T0.setTop (mkF m 10 #[.val (.ref o0), .val (.ref o1), .val (.int p2), .val (.ref bx), .val (.int iv)] [(.ref o0), (.int iv)])) := fun t k => by
      refine pre0 t ?_
      show Steps p.tables e below (T0.setTop (mkF m 7 #[.val (.ref o0), .val (.ref o1), .val (.int p2), .val (.ref bx), .val (.int iv)] [])) _
      refine XS.iload X0.here hx rfl (hb hby d9_7) rfl ?_
      show Steps p.tables e below (T0.setTop (mkF m 9 #[.val (.ref o0), .val (.ref o1), .val (.int p2), .val (.ref bx), .val (.int iv)] [(.int iv)])) _
      refine XS.aloadN X0.here hx rfl (hb hby d9_9) rfl rfl ?_
      exact k
    obtain ⟨T2, X2, e2, st2⟩ := getF X0 hx hZ hown (host := "") (Or.inl (hw _ (List.mem_of_getElem? (i := 32) rfl))) Via.refl e0 P1_F (g := (mkF m 10 #[.val (.ref o0), .val (.ref o1), .val (.int p2), .val (.ref bx), .val (.int iv)] [(.ref o0), (.int iv)])) rfl rfl (hb hby d9_10)
    have pre2 : Lead p e below G (T2.setTop (mkF m 13 #[.val (.ref o0), .val (.ref o1), .val (.int p2), .val (.ref bx), .val (.int iv)] [(.int sz), (.int iv)])) := fun t k => pre1 t (st2 _ k)
    by_cases hs13_3 : iv < sz
    · have pre4 : Lead p e below G (T2.setTop (mkF m 23 #[.val (.ref o0), .val (.ref o1), .val (.int p2), .val (.ref bx), .val (.int iv)] [(.int iv), (.ref o0), (.ref o1), (.int iv), (.ref bx)])) := fun t k => by
        refine pre2 t ?_
        show Steps p.tables e below (T2.setTop (mkF m 13 #[.val (.ref o0), .val (.ref o1), .val (.int p2), .val (.ref bx), .val (.int iv)] [(.int sz), (.int iv)])) _
        refine XS.icmpNo X2.here hx rfl (hb hby d9_13) rfl (tlt hs13_3).2.1 ?_
        refine XS.aloadN X2.here hx rfl (hb hby d9_16) rfl rfl ?_
        show Steps p.tables e below (T2.setTop (mkF m 17 #[.val (.ref o0), .val (.ref o1), .val (.int p2), .val (.ref bx), .val (.int iv)] [(.ref bx)])) _
        refine XS.iload X2.here hx rfl (hb hby d9_17) rfl ?_
        refine XS.aloadN X2.here hx rfl (hb hby d9_19) rfl rfl ?_
        refine XS.aloadN X2.here hx rfl (hb hby d9_20) rfl rfl ?_
        show Steps p.tables e below (T2.setTop (mkF m 21 #[.val (.ref o0), .val (.ref o1), .val (.int p2), .val (.ref bx), .val (.int iv)] [(.ref o0), (.ref o1), (.int iv), (.ref bx)])) _
        refine XS.iload X2.here hx rfl (hb hby d9_21) rfl ?_
        exact k
      obtain ⟨cq5, zq5, zq5'⟩ := P0_E.cell
      obtain ⟨_, _, ⟨T5, L5, k5, n5⟩, -, X5, ⟨Lc5, hQ5, l5, y5, z5⟩, st5⟩ := X2.privateBack hx (y := (⟨"com/example/lean_throttle/leanthrottle/TimeRing", "at", "(I)I"⟩ : MethodName)) hown (mvT hZ (hw _ (List.mem_of_getElem? (i := 36) rfl))) (mvT hZ (hw _ (List.mem_of_getElem? (i := 37) rfl))) (own_selp hZ (hw _ (List.mem_of_getElem? (i := 5) rfl)) (hw _ (List.mem_of_getElem? (i := 38) rfl)) (hw _ (List.mem_of_getElem? (i := 37) rfl)) (by decide)) (Cond.privateMethod_at (mvP hZ (hw _ (List.mem_of_getElem? (i := 38) rfl)) (args := #[]))) (mvT hZ (hw _ (List.mem_of_getElem? (i := 39) rfl))) (by decide) (backOf (W := 3) (rm7 l Z a0 hw [] o0 iv fi ta nl gt h0 n0 (Nat.le_trans Z0 K0.1) P2_F P3_F P4_V) hZ (hw _ (List.mem_of_getElem? (i := 39) rfl)) (hw _ (List.mem_of_getElem? (i := 6) rfl)) (by decide) (by decide)) (g := (mkF m 23 #[.val (.ref o0), .val (.ref o1), .val (.int p2), .val (.ref bx), .val (.int iv)] [(.int iv), (.ref o0), (.ref o1), (.int iv), (.ref bx)])) rfl (by rw [hml]; rfl) (Steps.refl _) (a := o0) (by rw [e2]; exact zq5) zq5' (argsL := [(.int iv)]) (rest := [(.ref o1), (.int iv), (.ref bx)]) (lenOf pd__28_I_29_I rfl) rfl (by show 2 * 0 + _ ≤ _; exact Nat.le_of_eq rfl) (hb hby d9_23) (fun _ _ => ⟨rfl, e2, (by decide : 1 + 0 ≤ _), (by decide : 4 + 0 ≤ _)⟩)
      dsimp only [Pt.U, Pt.locs, Pt.cells, Pt.slots] at X5 l5 y5 z5 st5 hQ5
      subst l5 y5 z5
      obtain ⟨rfl, N5q, e5⟩ := hQ5
      have N5 := Fr.app N0 N5q
      obtain ⟨M5, Y5, N5⟩ : ∃ M, Stand p l e ({ frames := 1, cells := 1, slots := 4, locals := 17 } : Room) s m #[(.ref o0), (.ref o1), (.int p2)] below meth c T5 M 1 4 ∧ Fr n0 M := ⟨_, X5, N5⟩
      have pre5 : Lead p e below G (T5.setTop (mkF m 26 #[.val (.ref o0), .val (.ref o1), .val (.int p2), .val (.ref bx), .val (.int iv)] [(.int (AtI fi iv nl)), (.ref o1), (.int iv), (.ref bx)])) := fun t k => pre4 t (st5.trans k)
      obtain ⟨cl6, Ar6, hin6, hat6⟩ := P5_V.in (j := (AtI fi iv nl)) (by skip; exact (own_nb hfi ⟨hi.1, by have q := Int32.lt_iff_toInt_lt.mp hs13_3; omega⟩ hl4))
      have st6 := Y5.laload hx (j := (AtI fi iv nl)) (v := (.long (go ((AtI fi iv nl)).toNatClampNeg))) (by rw [e5]; exact Ar6.1) (State.isArrayOf_alike hZ.alike Ar6.2.1) Ar6.2.2 hin6 hat6 (g := (mkF m 26 #[.val (.ref o0), .val (.ref o1), .val (.int p2), .val (.ref bx), .val (.int iv)] [(.int (AtI fi iv nl)), (.ref o1), (.int iv), (.ref bx)])) rfl rfl (hb hby d9_26)
      have pre6 : Lead p e below G (T5.setTop (mkF m 27 #[.val (.ref o0), .val (.ref o1), .val (.int p2), .val (.ref bx), .val (.int iv)] [(.long (go ((AtI fi iv nl)).toNatClampNeg)), (.int iv), (.ref bx)])) := fun t k => pre5 t (st6 _ k)
      obtain ⟨cl7, Ar7, hin7, -⟩ := P6_V.in (j := iv) (by skip; exact (own_lt _ _ _ hs13_3 hi.1 hle))
      obtain ⟨T7, h7, X7, e7, W7, st7⟩ := stJ Y5 hx hZ e5 Ar7 (j := iv) hin7 (g := (mkF m 27 #[.val (.ref o0), .val (.ref o1), .val (.int p2), .val (.ref bx), .val (.int iv)] [(.long (go ((AtI fi iv nl)).toNatClampNeg)), (.int iv), (.ref bx)])) rfl rfl (hb hby d9_27)
      have N7 := Fr.snoc X7 N5 Q0_G
      have K7 : Keep h0 h7 [bx] := K0.wr W7 (Or.inl (List.mem_of_getElem? (i := 0) rfl))
      obtain ⟨M7, Y7, N7⟩ : ∃ M, Stand p l e ({ frames := 1, cells := 1, slots := 4, locals := 17 } : Room) s m #[(.ref o0), (.ref o1), (.int p2)] below meth c T7 M 1 4 ∧ Fr n0 M := ⟨_, X7, N7⟩
      obtain ⟨g7, hg7⟩ : ∃ z, z = (updF gr (iv).toNatClampNeg (go ((AtI fi iv nl)).toNatClampNeg)) := ⟨_, rfl⟩
      have V7 : JV Value.long Z h7 bx .long p2 g7 := by rw [hg7]; exact P6_V.set W7
      have pre7 : Lead p e below G (T7.setTop (mkF m 28 #[.val (.ref o0), .val (.ref o1), .val (.int p2), .val (.ref bx), .val (.int iv)] [])) := fun t k => pre6 t (st7 _ k)
      have pre8 : Lead p e below G (T7.setTop (mkF m 7 #[.val (.ref o0), .val (.ref o1), .val (.int p2), .val (.ref bx), .val (.int (iv + (1 : Int32)))] [])) := fun t k => by
        refine pre7 t ?_
        show Steps p.tables e below (T7.setTop (mkF m 28 #[.val (.ref o0), .val (.ref o1), .val (.int p2), .val (.ref bx), .val (.int iv)] [])) _
        refine XS.iinc Y7.here hx rfl (hb hby d9_28) rfl (l' := #[.val (.ref o0), .val (.ref o1), .val (.int p2), .val (.ref bx), .val (.int (iv + (1 : Int32)))]) rfl ?_
        refine XS.goto Y7.here hx rfl (pc0 := 31) (pc' := 7) rfl (hb hby d9_31) (by decide) (by decide) ?_
        show Steps p.tables e below (T7.setTop (mkF m 7 #[.val (.ref o0), .val (.ref o1), .val (.int p2), .val (.ref bx), .val (.int (iv + (1 : Int32)))] [])) _
        exact k
      have f9 : Exa Z h7 o0 "com/example/lean_throttle/leanthrottle/TimeRing" := (P0_E.wr W7)
      have f10 : Fld Z h7 o0 "com/example/lean_throttle/leanthrottle/TimeRing" "size" "I" (.int sz) := (P1_F.other W7 (Or.inl Q1_NE))
      have f11 : Fld Z h7 o0 "com/example/lean_throttle/leanthrottle/TimeRing" "first" "I" (.int fi) := (P2_F.other W7 (Or.inl Q1_NE))
      have f12 : Fld Z h7 o0 "com/example/lean_throttle/leanthrottle/TimeRing" "times" "[J" (.ref ta) := (P3_F.other W7 (Or.inl Q1_NE))
      have f13 : JV Value.long Z h7 ta .long nl gt := (P4_V.other W7 Q2_NE)
      have f14 : JV Value.long Z h7 o1 .long nl go := (P5_V.other W7 Q3_NE)
      obtain ⟨iv_15, gr_15, T15, M15, h15, q15_0, X15, e15, N15, K15, f15_0, f15_1, f15_2, f15_3, f15_4, f15_5, f15_6, ld15⟩ := ih ((sz.toInt - (iv + (1 : Int32)).toInt).toNat) (hd ▸ own_dec hs13_3 hi) (iv + (1 : Int32)) g7 _ _ _ (Nat.le_trans Z0 K7.1) rfl (show 0 ≤ (iv + (1 : Int32)).toInt ∧ (iv + (1 : Int32)).toInt ≤ sz.toInt from own_nx hs13_3 hi) (show ∀ j, j < (iv + (1 : Int32)).toInt.toNat → g7 j = go (AtI fi (Int32.ofNat j) nl).toNatClampNeg from (by subst hg7; exact own_done hs13_3 hi.1 hdn)) Y7 e7 N7 f9 f10 f11 f12 f13 f14 V7
      exact ⟨iv_15, gr_15, T15, M15, h15, (show ∀ j, j < sz.toInt.toNat → gr_15 j = go (AtI fi (Int32.ofNat j) nl).toNatClampNeg from q15_0), X15, e15, N15, K7.trans K15 (fun x hx => Or.inl hx), f15_0, f15_1, f15_2, f15_3, f15_4, f15_5, f15_6, fun t k => pre8 t (ld15 t k)⟩
    · have pre16 : Lead p e below G (T2.setTop (mkF m 34 #[.val (.ref o0), .val (.ref o1), .val (.int p2), .val (.ref bx), .val (.int iv)] [])) := fun t k => by
        refine pre2 t ?_
        show Steps p.tables e below (T2.setTop (mkF m 13 #[.val (.ref o0), .val (.ref o1), .val (.int p2), .val (.ref bx), .val (.int iv)] [(.int sz), (.int iv)])) _
        refine XS.icmpYes X2.here hx rfl (pc0 := 13) (pc' := 34) rfl (hb hby d9_13) rfl (flt hs13_3).2.1 (by decide) (by decide) ?_
        exact k
      exact ⟨iv, gr, T2, _, _, (show ∀ j, j < sz.toInt.toNat → gr j = go (AtI fi (Int32.ofNat j) nl).toNatClampNeg from own_fin hs13_3 hi hdn), X2, e2, N0, K0, P0_E, P1_F, P2_F, P3_F, P4_V, P5_V, P6_V, pre16⟩
theorem d9_0 : decode prog_21_method_12_code 0 = .ok (.iload_n 2, 1) := by decide +kernel
theorem d9_1 : decode prog_21_method_12_code 1 = .ok (.newarray .long, 2) := by decide +kernel
theorem d9_3 : decode prog_21_method_12_code 3 = .ok (.astore_n 3, 1) := by decide +kernel
theorem d9_4 : decode prog_21_method_12_code 4 = .ok (.iconst 0, 1) := by decide +kernel
theorem d9_5 : decode prog_21_method_12_code 5 = .ok (.istore 4, 2) := by decide +kernel
theorem d9_34 : decode prog_21_method_12_code 34 = .ok (.aload_n 3, 1) := by decide +kernel
theorem d9_35 : decode prog_21_method_12_code 35 = .ok (.areturn, 1) := by decide +kernel
theorem ef_9 (m : MethodId) (o0 : Addr) (o1 : Addr) (p2 : Int32) : entryFrame m #[(.ref o0), (.ref o1), (.int p2)] 5 = mkF m 0 #[.val (.ref o0), .val (.ref o1), .val (.int p2), .unset, .unset] [] := by first | (simp [entryFrame, mkF, argsToLocals, Value.category]; done) | rfl
def Q9 (Z : State) (o0 : Addr) (o1 : Addr) (p2 : Int32) (ta : Addr) (fi : Int32) (sz : Int32) (nl : Int32) (gt : Nat → Int64) (go : Nat → Int64) (h0 : Heap) (n0 : Nat) (v : Option Value) (h : Heap) (L : List Loc) : Prop := ∃ nb : Addr, ∃ gr : Nat → Int64, v = some (.ref nb) ∧ Fr n0 L ∧ Keep h0 h [] ∧ h0.size ≤ nb ∧ JV Value.long Z h nb .long p2 gr ∧ (∀ j, j < sz.toInt.toNat → gr j = go (AtI fi (Int32.ofNat j) nl).toNatClampNeg)
set_option maxRecDepth 65536 in
set_option maxHeartbeats 40000000 in
theorem rm9 (l : Launch) (Z : State) (a0 : Array Value) (hw : ∀ d ∈ tables_1, d.before a0 Z = true) (ws : List Jvm.Cond) (o0 : Addr) (o1 : Addr) (p2 : Int32) (ta : Addr) (fi : Int32) (sz : Int32) (nl : Int32) (gt : Nat → Int64) (go : Nat → Int64) (h0 : Heap) (n0 : Nat) (Z0 : n0 ≤ h0.size) (P0_E : Exa Z h0 o0 "com/example/lean_throttle/leanthrottle/TimeRing") (P1_F : Fld Z h0 o0 "com/example/lean_throttle/leanthrottle/TimeRing" "size" "I" (.int sz)) (P2_F : Fld Z h0 o0 "com/example/lean_throttle/leanthrottle/TimeRing" "first" "I" (.int fi)) (P3_F : Fld Z h0 o0 "com/example/lean_throttle/leanthrottle/TimeRing" "times" "[J" (.ref ta)) (P4_V : JV Value.long Z h0 ta .long nl gt) (P5_V : JV Value.long Z h0 o1 .long nl go) (hfi : (0 ≤ fi.toInt ∧ fi.toInt < nl.toInt)) (hsz : (0 ≤ sz.toInt ∧ sz.toInt ≤ nl.toInt)) (hl4 : (nl.toInt ≤ 4)) (hle : (sz.toInt ≤ p2.toInt)) (hneg : (¬ p2 < 0)) (hcap : (p2.toNatClampNeg ≤ 4)) :
    MetFree l (⟨"com/example/lean_throttle/leanthrottle/TimeRing", "unwrapped", "([JI)[J"⟩ : MethodName) (head1 (Jvm.Cond.code (⟨"com/example/lean_throttle/leanthrottle/TimeRing", "unwrapped", "([JI)[J"⟩ : MethodName) prog_21_method_12_code 5 (some (.array .long)) :: ws) ({ frames := 1, cells := 1, slots := 4, locals := 17 } : Room)) (fun a U => a = #[(.ref o0), (.ref o1), (.int p2)] ∧ Z.Warmed39 U.vm ∧ U.heap = h0) (fun _ _ _ _ _ => True) (fun _ U o U' => ∃ v L, o = .returned v ∧ Q9 Z o0 o1 p2 ta fi sz nl gt go h0 n0 v U'.heap L ∧ FrameEnd U o U' L ({ frames := 1, cells := 1, slots := 4, locals := 17 } : Room).cells ({ frames := 1, cells := 1, slots := 4, locals := 17 } : Room).slots) := by
  refine MetFree.of_bodySF (plainFor_of_name pn_com_example_lean_throttle_leanthrottle_TimeRing) hisR ?_
  intro p e s m args below meth c s₁ Bd hml0 hP hK
  obtain ⟨rfl, hZ, hh⟩ := hP
  have hx := Bd.exec
  have hby := Bd.bytes
  have hml : c.maxLocals = 5 := hml0
  have hown : s.vm.findClass "com/example/lean_throttle/leanthrottle/TimeRing" = some m.cls := findClass_of_methodNamed Bd.named
  have hnm := (name_of_methodNamed Bd.named Bd.method).1
  have X0 : Stand p l e ({ frames := 1, cells := 1, slots := 4, locals := 17 } : Room) s m #[(.ref o0), (.ref o1), (.int p2)] below meth c s₁ [] 0 0 := Stand.of_body Bd
  have e0 : s₁.heap = h0 := by rw [← hh, Bd.state]; rfl
  have N0 := Fr.nil n0
  have K0 : Keep h0 h0 [] := Keep.refl _ _
  obtain ⟨G, hG⟩ : ∃ z, z = s₁.setTop (entryFrame m #[(.ref o0), (.ref o1), (.int p2)] 5) := ⟨_, rfl⟩
  have pre0 : Lead p e below G (s₁.setTop (mkF m 0 #[.val (.ref o0), .val (.ref o1), .val (.int p2), .unset, .unset] [])) := fun t k => by rw [hG]; exact castTop (ef_9 m o0 o1 p2) k
  have pre1 : Lead p e below G (s₁.setTop (mkF m 1 #[.val (.ref o0), .val (.ref o1), .val (.int p2), .unset, .unset] [(.int p2)])) := fun t k => by
    refine pre0 t ?_
    show Steps p.tables e below (s₁.setTop (mkF m 0 #[.val (.ref o0), .val (.ref o1), .val (.int p2), .unset, .unset] [])) _
    refine XS.iloadN X0.here hx rfl (hb hby d9_0) rfl ?_
    exact k
  obtain ⟨T2, h2, k2, X2, e2, E2, A2, st2⟩ := newP X0 hx hZ (hw _ (List.mem_of_getElem? (i := 13) rfl)) e0 (g := (mkF m 1 #[.val (.ref o0), .val (.ref o1), .val (.int p2), .unset, .unset] [(.int p2)])) rfl (hb hby d9_1) rfl hneg (cap := 4) hcap (by decide) (by decide) (by decide)
  obtain ⟨b2, g2⟩ : ∃ z, z = h0.size := ⟨_, rfl⟩
  rw [← g2] at A2 st2
  have ne2_o0 : o0 ≠ b2 := Nat.ne_of_lt (Nat.lt_of_lt_of_le P0_E.lt (Nat.le_of_eq g2.symm))
  have ne2_ta : ta ≠ b2 := Nat.ne_of_lt (Nat.lt_of_lt_of_le P4_V.lt (Nat.le_of_eq g2.symm))
  have ne2_o1 : o1 ≠ b2 := Nat.ne_of_lt (Nat.lt_of_lt_of_le P5_V.lt (Nat.le_of_eq g2.symm))
  have sz2 : h0.size ≤ b2 := Nat.le_trans K0.1 (Nat.le_of_eq g2.symm)
  have ge2 : n0 ≤ b2 := Nat.le_trans Z0 sz2
  have K2 : Keep h0 h2 [] := K0.ext E2
  have V2 : JV Value.long Z h2 b2 .long p2 (fun _ => (0 : Int64)) := JV.new A2 hneg _ rfl
  have pre2 : Lead p e below G (T2.setTop (mkF m 3 #[.val (.ref o0), .val (.ref o1), .val (.int p2), .unset, .unset] [(.ref b2)])) := fun t k => pre1 t (st2 _ k)
  have pre3 : Lead p e below G (T2.setTop (mkF m 7 #[.val (.ref o0), .val (.ref o1), .val (.int p2), .val (.ref b2), .val (.int (0 : Int32))] [])) := fun t k => by
    refine pre2 t ?_
    show Steps p.tables e below (T2.setTop (mkF m 3 #[.val (.ref o0), .val (.ref o1), .val (.int p2), .unset, .unset] [(.ref b2)])) _
    refine XS.astoreN X2.here hx rfl (hb hby d9_3) rfl rfl (l' := #[.val (.ref o0), .val (.ref o1), .val (.int p2), .val (.ref b2), .unset]) rfl ?_
    show Steps p.tables e below (T2.setTop (mkF m 4 #[.val (.ref o0), .val (.ref o1), .val (.int p2), .val (.ref b2), .unset] [])) _
    refine XS.iconst X2.here hx rfl (hb hby d9_4) ?_
    refine XS.istore X2.here hx rfl (hb hby d9_5) rfl (l' := #[.val (.ref o0), .val (.ref o1), .val (.int p2), .val (.ref b2), .val (.int (0 : Int32))]) rfl ?_
    exact k
  have f4 : Exa Z h2 o0 "com/example/lean_throttle/leanthrottle/TimeRing" := (P0_E.ext E2)
  have f5 : Fld Z h2 o0 "com/example/lean_throttle/leanthrottle/TimeRing" "size" "I" (.int sz) := (P1_F.ext E2)
  have f6 : Fld Z h2 o0 "com/example/lean_throttle/leanthrottle/TimeRing" "first" "I" (.int fi) := (P2_F.ext E2)
  have f7 : Fld Z h2 o0 "com/example/lean_throttle/leanthrottle/TimeRing" "times" "[J" (.ref ta) := (P3_F.ext E2)
  have f8 : JV Value.long Z h2 ta .long nl gt := (P4_V.ext E2)
  have f9 : JV Value.long Z h2 o1 .long nl go := (P5_V.ext E2)
  obtain ⟨iv_10, gr_10, T10, M10, h10, q10_0, Y10, e10, N10, K10c, f10_0, f10_1, f10_2, f10_3, f10_4, f10_5, f10_6, ld10⟩ := lp9_7 l Z a0 hw o0 o1 p2 ta fi sz nl gt go b2 n0 hx hZ hby hml hown ge2 ne2_o0 ne2_ta ne2_o1 (show 0 ≤ fi.toInt ∧ fi.toInt < nl.toInt from hfi) (show 0 ≤ sz.toInt ∧ sz.toInt ≤ nl.toInt from hsz) (show nl.toInt ≤ 4 from hl4) (show sz.toInt ≤ p2.toInt from hle) _ (0 : Int32) (fun _ => (0 : Int64)) _ _ _ (Nat.le_trans Z0 K2.1) rfl (show 0 ≤ (0 : Int32).toInt ∧ (0 : Int32).toInt ≤ sz.toInt from own_i0 hsz.1) (show ∀ j, j < (0 : Int32).toInt.toNat → (fun _ => (0 : Int64)) j = go (AtI fi (Int32.ofNat j) nl).toNatClampNeg from fun j hj => absurd hj (Nat.not_lt_zero j)) X2 e2 N0 f4 f5 f6 f7 f8 f9 V2
  have K10 : Keep h0 h10 [] := K2.trans K10c (allS (Or.inr sz2) all0)
  have pre10_34 : Lead p e below G (T10.setTop (mkF m 34 #[.val (.ref o0), .val (.ref o1), .val (.int p2), .val (.ref b2), .val (.int iv_10)] [])) := fun t k => pre3 t (ld10 t k)
  obtain ⟨fs, hr, hrun, hended, hW, hsame⟩ := Y10.leave (v := some (.ref b2)) (fun h => by rw [Bd.returns] at h; cases h)
  have preF : Lead p e below (s₁.setTop (entryFrame m #[(.ref o0), (.ref o1), (.int p2)] 5)) (T10.setTop (mkF m 34 #[.val (.ref o0), .val (.ref o1), .val (.int p2), .val (.ref b2), .val (.int iv_10)] [])) := by rw [← hG]; exact pre10_34
  refine ⟨_, _, preF _ ?_, hrun, hended, _, _, rfl, ?_, ⟨_, rfl⟩, hW, hsame.mono (by decide) (by decide)⟩
  · show Steps p.tables e below (T10.setTop (mkF m 34 #[.val (.ref o0), .val (.ref o1), .val (.int p2), .val (.ref b2), .val (.int iv_10)] [])) _
    refine XS.aloadN Y10.here hx rfl (hb hby d9_34) rfl rfl ?_
    show Steps p.tables e below (T10.setTop (mkF m 35 #[.val (.ref o0), .val (.ref o1), .val (.int p2), .val (.ref b2), .val (.int iv_10)] [(.ref b2)])) _
    jvm_step Y10.here [Y10.here.top, hx, (hb hby d9_35), Y10.method', Bd.returns, Value.isRef, FieldType.isReference]
    first | (intro acts; rw [hr _ acts rfl rfl rfl]) | rw [hr _ _ rfl rfl rfl]
    exact Steps.refl _
  · show Q9 Z o0 o1 p2 ta fi sz nl gt go h0 n0 _ T10.heap _
    rw [e10]
    exact ⟨b2, gr_10, congrArg (fun z => some (Value.ref z)) (show b2 = b2 from rfl), N10, K10, sz2, f10_6, q10_0⟩
def GL (l : Int32) : Int32 := (F8 ((2 : Int64) * (l.toInt64)) (4 : Int64)).toInt32
def AddRel (fi sz nl : Int32) (gt gT : Nat → Int64) (bf t u : Int64) (f2 l2 : Int32) (g1 g2 : Nat → Int64) : Prop := (¬ sz = nl ∧ f2 = fi ∧ l2 = nl ∧ g1 = updF gt (AtI fi sz nl).toNatClampNeg t ∧ g2 = updF gT (AtI fi sz nl).toNatClampNeg ((F6 fi sz nl bf gT) + u)) ∨ (sz = nl ∧ f2 = 0 ∧ l2 = GL nl ∧ ∃ e1 e2 : Nat → Int64, (∀ j, j < sz.toInt.toNat → e1 j = gt (AtI fi (Int32.ofNat j) nl).toNatClampNeg) ∧ (∀ j, j < sz.toInt.toNat → e2 j = gT (AtI fi (Int32.ofNat j) nl).toNatClampNeg) ∧ g1 = updF e1 (AtI 0 sz (GL nl)).toNatClampNeg t ∧ g2 = updF e2 (AtI 0 sz (GL nl)).toNatClampNeg ((F6 fi sz nl bf gT) + u))
theorem own_gl {l : Int32} (h : l.toInt = 1 ∨ l.toInt = 2 ∨ l.toInt = 4) (h4 : l.toInt < 4) : (GL l).toInt = 2 * l.toInt := by
  have e : l = 1 ∨ l = 2 := by
    rcases h with h | h | h
    · exact Or.inl (Int32.toInt_inj.mp (by rw [h]; decide))
    · exact Or.inr (Int32.toInt_inj.mp (by rw [h]; decide))
    · omega
  rcases e with rfl | rfl <;> decide
theorem own_gb {l : Int32} (h : l.toInt = 1 ∨ l.toInt = 2 ∨ l.toInt = 4) (h4 : l.toInt < 4) : ¬ GL l < 0 ∧ (GL l).toNatClampNeg ≤ 4 ∧ l.toInt ≤ (GL l).toInt ∧ (GL l).toInt ≤ 4 := by
  have g := own_gl h h4
  refine ⟨by rw [Int32.lt_iff_toInt_lt, Int32.toInt_zero]; omega, own_nat (by omega), by omega, by omega⟩
theorem own_eqi {a b : Int32} (h : a = b) : a.toInt = b.toInt := by rw [h]
theorem own_nei {a b : Int32} (h : ¬ a = b) : a.toInt ≠ b.toInt := fun e => h (Int32.toInt_inj.mp e)
theorem pd__28__29_J : parseMethodDescriptor "()J" = some ⟨[], some .long⟩ := by decide +kernel
theorem pd__28_JJ_29_J : parseMethodDescriptor "(JJ)J" = some ⟨[.long, .long], some .long⟩ := by decide +kernel
theorem pd__28__5b_JI_29__5b_J : parseMethodDescriptor "([JI)[J" = some ⟨[(.array .long), .int], some (.array .long)⟩ := by decide +kernel
theorem d5_0 : decode prog_21_method_10_code 0 = .ok (.aload_n 0, 1) := by decide +kernel
theorem d5_1 : decode prog_21_method_10_code 1 = .ok (.invokevirtual 27, 3) := by decide +kernel
theorem d5_4 : decode prog_21_method_10_code 4 = .ok (.lstore 6, 2) := by decide +kernel
theorem d5_6 : decode prog_21_method_10_code 6 = .ok (.aload_n 0, 1) := by decide +kernel
theorem d5_7 : decode prog_21_method_10_code 7 = .ok (.getfield 16, 3) := by decide +kernel
theorem d5_10 : decode prog_21_method_10_code 10 = .ok (.aload_n 0, 1) := by decide +kernel
theorem d5_11 : decode prog_21_method_10_code 11 = .ok (.getfield 7, 3) := by decide +kernel
theorem d5_14 : decode prog_21_method_10_code 14 = .ok (.arraylength, 1) := by decide +kernel
theorem d5_15 : decode prog_21_method_10_code 15 = .ok (.if_icmp .ne 63, 3) := by decide +kernel
theorem d5_18 : decode prog_21_method_10_code 18 = .ok (.ldc2_w 41, 3) := by decide +kernel
theorem d5_21 : decode prog_21_method_10_code 21 = .ok (.aload_n 0, 1) := by decide +kernel
theorem d5_22 : decode prog_21_method_10_code 22 = .ok (.getfield 7, 3) := by decide +kernel
theorem d5_25 : decode prog_21_method_10_code 25 = .ok (.arraylength, 1) := by decide +kernel
theorem d5_26 : decode prog_21_method_10_code 26 = .ok (.i2l, 1) := by decide +kernel
theorem d5_27 : decode prog_21_method_10_code 27 = .ok (.lmul, 1) := by decide +kernel
theorem d5_28 : decode prog_21_method_10_code 28 = .ok (.iload 5, 2) := by decide +kernel
theorem d5_30 : decode prog_21_method_10_code 30 = .ok (.i2l, 1) := by decide +kernel
theorem d5_31 : decode prog_21_method_10_code 31 = .ok (.invokestatic 43, 3) := by decide +kernel
theorem d5_34 : decode prog_21_method_10_code 34 = .ok (.l2i, 1) := by decide +kernel
theorem d5_35 : decode prog_21_method_10_code 35 = .ok (.istore 8, 2) := by decide +kernel
theorem d5_37 : decode prog_21_method_10_code 37 = .ok (.aload_n 0, 1) := by decide +kernel
theorem d5_38 : decode prog_21_method_10_code 38 = .ok (.aload_n 0, 1) := by decide +kernel
theorem d5_39 : decode prog_21_method_10_code 39 = .ok (.getfield 7, 3) := by decide +kernel
theorem d5_42 : decode prog_21_method_10_code 42 = .ok (.iload 8, 2) := by decide +kernel
theorem d5_44 : decode prog_21_method_10_code 44 = .ok (.invokevirtual 46, 3) := by decide +kernel
theorem d5_47 : decode prog_21_method_10_code 47 = .ok (.astore 9, 2) := by decide +kernel
theorem d5_49 : decode prog_21_method_10_code 49 = .ok (.aload_n 0, 1) := by decide +kernel
theorem d5_50 : decode prog_21_method_10_code 50 = .ok (.aload_n 0, 1) := by decide +kernel
theorem d5_51 : decode prog_21_method_10_code 51 = .ok (.getfield 13, 3) := by decide +kernel
theorem d5_54 : decode prog_21_method_10_code 54 = .ok (.iload 8, 2) := by decide +kernel
theorem d5_56 : decode prog_21_method_10_code 56 = .ok (.invokevirtual 46, 3) := by decide +kernel
theorem d5_59 : decode prog_21_method_10_code 59 = .ok (.astore 10, 2) := by decide +kernel
theorem d5_61 : decode prog_21_method_10_code 61 = .ok (.aload_n 0, 1) := by decide +kernel
theorem d5_62 : decode prog_21_method_10_code 62 = .ok (.aload 9, 2) := by decide +kernel
theorem d5_64 : decode prog_21_method_10_code 64 = .ok (.putfield 7, 3) := by decide +kernel
theorem d5_67 : decode prog_21_method_10_code 67 = .ok (.aload_n 0, 1) := by decide +kernel
theorem d5_68 : decode prog_21_method_10_code 68 = .ok (.aload 10, 2) := by decide +kernel
theorem d5_70 : decode prog_21_method_10_code 70 = .ok (.putfield 13, 3) := by decide +kernel
theorem d5_73 : decode prog_21_method_10_code 73 = .ok (.aload_n 0, 1) := by decide +kernel
theorem d5_74 : decode prog_21_method_10_code 74 = .ok (.iconst 0, 1) := by decide +kernel
theorem d5_75 : decode prog_21_method_10_code 75 = .ok (.putfield 20, 3) := by decide +kernel
theorem d5_78 : decode prog_21_method_10_code 78 = .ok (.aload_n 0, 1) := by decide +kernel
theorem d5_79 : decode prog_21_method_10_code 79 = .ok (.getfield 7, 3) := by decide +kernel
theorem d5_82 : decode prog_21_method_10_code 82 = .ok (.aload_n 0, 1) := by decide +kernel
theorem d5_83 : decode prog_21_method_10_code 83 = .ok (.aload_n 0, 1) := by decide +kernel
theorem d5_84 : decode prog_21_method_10_code 84 = .ok (.getfield 16, 3) := by decide +kernel
theorem d5_87 : decode prog_21_method_10_code 87 = .ok (.invokevirtual 23, 3) := by decide +kernel
theorem d5_90 : decode prog_21_method_10_code 90 = .ok (.lload_n 1, 1) := by decide +kernel
theorem d5_91 : decode prog_21_method_10_code 91 = .ok (.lastore, 1) := by decide +kernel
theorem d5_92 : decode prog_21_method_10_code 92 = .ok (.aload_n 0, 1) := by decide +kernel
theorem d5_93 : decode prog_21_method_10_code 93 = .ok (.getfield 13, 3) := by decide +kernel
theorem d5_96 : decode prog_21_method_10_code 96 = .ok (.aload_n 0, 1) := by decide +kernel
theorem d5_97 : decode prog_21_method_10_code 97 = .ok (.aload_n 0, 1) := by decide +kernel
theorem d5_98 : decode prog_21_method_10_code 98 = .ok (.getfield 16, 3) := by decide +kernel
theorem d5_101 : decode prog_21_method_10_code 101 = .ok (.invokevirtual 23, 3) := by decide +kernel
theorem d5_104 : decode prog_21_method_10_code 104 = .ok (.lload 6, 2) := by decide +kernel
theorem d5_106 : decode prog_21_method_10_code 106 = .ok (.lload_n 3, 1) := by decide +kernel
theorem d5_107 : decode prog_21_method_10_code 107 = .ok (.ladd, 1) := by decide +kernel
theorem d5_108 : decode prog_21_method_10_code 108 = .ok (.lastore, 1) := by decide +kernel
theorem d5_109 : decode prog_21_method_10_code 109 = .ok (.aload_n 0, 1) := by decide +kernel
theorem d5_110 : decode prog_21_method_10_code 110 = .ok (.dup, 1) := by decide +kernel
theorem d5_111 : decode prog_21_method_10_code 111 = .ok (.getfield 16, 3) := by decide +kernel
theorem d5_114 : decode prog_21_method_10_code 114 = .ok (.iconst 1, 1) := by decide +kernel
theorem d5_115 : decode prog_21_method_10_code 115 = .ok (.iadd, 1) := by decide +kernel
theorem d5_116 : decode prog_21_method_10_code 116 = .ok (.putfield 16, 3) := by decide +kernel
theorem d5_119 : decode prog_21_method_10_code 119 = .ok (.return_, 1) := by decide +kernel
theorem ef_5 (m : MethodId) (o0 : Addr) (q1 : Int64) (q2 : Int64) : entryFrame m #[(.ref o0), (.long q1), (.long q2), (.int (4 : Int32))] 11 = mkF m 0 #[.val (.ref o0), .val (.long q1), .second, .val (.long q2), .second, .val (.int (4 : Int32)), .unset, .unset, .unset, .unset, .unset] [] := by first | (simp [entryFrame, mkF, argsToLocals, Value.category]; done) | rfl
def Q5 (Z : State) (o0 : Addr) (q1 : Int64) (q2 : Int64) (ta : Addr) (tA : Addr) (fi : Int32) (sz : Int32) (nl : Int32) (bf : Int64) (gt : Nat → Int64) (gT : Nat → Int64) (h0 : Heap) (n0 : Nat) (v : Option Value) (h : Heap) (L : List Loc) : Prop := ∃ n1 : Addr, ∃ n2 : Addr, ∃ f2 : Int32, ∃ l2 : Int32, ∃ g1 : Nat → Int64, ∃ g2 : Nat → Int64, v = none ∧ Fr n0 L ∧ Keep h0 h [o0, ta, tA] ∧ Exa Z h o0 "com/example/lean_throttle/leanthrottle/TimeRing" ∧ Fld Z h o0 "com/example/lean_throttle/leanthrottle/TimeRing" "times" "[J" (.ref n1) ∧ Fld Z h o0 "com/example/lean_throttle/leanthrottle/TimeRing" "totals" "[J" (.ref n2) ∧ Fld Z h o0 "com/example/lean_throttle/leanthrottle/TimeRing" "first" "I" (.int f2) ∧ Fld Z h o0 "com/example/lean_throttle/leanthrottle/TimeRing" "size" "I" (.int (sz + (1 : Int32))) ∧ Fld Z h o0 "com/example/lean_throttle/leanthrottle/TimeRing" "totalBefore" "J" (.long bf) ∧ JV Value.long Z h n1 .long l2 g1 ∧ JV Value.long Z h n2 .long l2 g2 ∧ n0 ≤ n1 ∧ n0 ≤ n2 ∧ o0 ≠ n1 ∧ o0 ≠ n2 ∧ n1 ≠ n2 ∧ (AddRel fi sz nl gt gT bf q1 q2 f2 l2 g1 g2)
set_option maxRecDepth 65536 in
set_option maxHeartbeats 40000000 in
theorem rm5 (l : Launch) (Z : State) (a0 : Array Value) (hw : ∀ d ∈ tables_1, d.before a0 Z = true) (ws : List Jvm.Cond) (o0 : Addr) (q1 : Int64) (q2 : Int64) (ta : Addr) (tA : Addr) (fi : Int32) (sz : Int32) (nl : Int32) (bf : Int64) (gt : Nat → Int64) (gT : Nat → Int64) (h0 : Heap) (n0 : Nat) (Z0 : n0 ≤ h0.size) (P0_E : Exa Z h0 o0 "com/example/lean_throttle/leanthrottle/TimeRing") (P1_F : Fld Z h0 o0 "com/example/lean_throttle/leanthrottle/TimeRing" "times" "[J" (.ref ta)) (P2_F : Fld Z h0 o0 "com/example/lean_throttle/leanthrottle/TimeRing" "totals" "[J" (.ref tA)) (P3_F : Fld Z h0 o0 "com/example/lean_throttle/leanthrottle/TimeRing" "first" "I" (.int fi)) (P4_F : Fld Z h0 o0 "com/example/lean_throttle/leanthrottle/TimeRing" "size" "I" (.int sz)) (P5_F : Fld Z h0 o0 "com/example/lean_throttle/leanthrottle/TimeRing" "totalBefore" "J" (.long bf)) (P6_V : JV Value.long Z h0 ta .long nl gt) (P7_V : JV Value.long Z h0 tA .long nl gT) (P8_NE : o0 ≠ ta) (P9_NE : o0 ≠ tA) (P10_NE : ta ≠ tA) (hfi : (0 ≤ fi.toInt ∧ fi.toInt < nl.toInt)) (hsz : (0 ≤ sz.toInt ∧ sz.toInt ≤ nl.toInt)) (hl4 : (nl.toInt ≤ 4)) (hlen : (nl.toInt = 1 ∨ nl.toInt = 2 ∨ nl.toInt = 4)) (hlt : (sz.toInt < 4)) (P16_G : n0 ≤ o0) (P17_G : n0 ≤ ta) (P18_G : n0 ≤ tA) :
    MetFree l (⟨"com/example/lean_throttle/leanthrottle/TimeRing", "add", "(JJI)V"⟩ : MethodName) (head1 (Jvm.Cond.code (⟨"com/example/lean_throttle/leanthrottle/TimeRing", "add", "(JJI)V"⟩ : MethodName) prog_21_method_10_code 11 none :: ws) ({ frames := 2, cells := 2, slots := 8, locals := 33 } : Room)) (fun a U => a = #[(.ref o0), (.long q1), (.long q2), (.int (4 : Int32))] ∧ Z.Warmed39 U.vm ∧ U.heap = h0) (fun _ _ _ _ _ => True) (fun _ U o U' => ∃ v L, o = .returned v ∧ Q5 Z o0 q1 q2 ta tA fi sz nl bf gt gT h0 n0 v U'.heap L ∧ FrameEnd U o U' L ({ frames := 2, cells := 2, slots := 8, locals := 33 } : Room).cells ({ frames := 2, cells := 2, slots := 8, locals := 33 } : Room).slots) := by
  refine MetFree.of_bodySF (plainFor_of_name pn_com_example_lean_throttle_leanthrottle_TimeRing) hisR ?_
  intro p e s m args below meth c s₁ Bd hml0 hP hK
  obtain ⟨rfl, hZ, hh⟩ := hP
  have hx := Bd.exec
  have hby := Bd.bytes
  have hml : c.maxLocals = 11 := hml0
  have hown : s.vm.findClass "com/example/lean_throttle/leanthrottle/TimeRing" = some m.cls := findClass_of_methodNamed Bd.named
  have hnm := (name_of_methodNamed Bd.named Bd.method).1
  have X0 : Stand p l e ({ frames := 2, cells := 2, slots := 8, locals := 33 } : Room) s m #[(.ref o0), (.long q1), (.long q2), (.int (4 : Int32))] below meth c s₁ [] 0 0 := Stand.of_body Bd
  have e0 : s₁.heap = h0 := by rw [← hh, Bd.state]; rfl
  have N0 := Fr.nil n0
  have K0 : Keep h0 h0 [o0, ta, tA] := Keep.refl _ _
  obtain ⟨G, hG⟩ : ∃ z, z = s₁.setTop (entryFrame m #[(.ref o0), (.long q1), (.long q2), (.int (4 : Int32))] 11) := ⟨_, rfl⟩
  have pre0 : Lead p e below G (s₁.setTop (mkF m 0 #[.val (.ref o0), .val (.long q1), .second, .val (.long q2), .second, .val (.int (4 : Int32)), .unset, .unset, .unset, .unset, .unset] [])) := fun t k => by rw [hG]; exact castTop (ef_5 m o0 q1 q2) k
  have pre1 : Lead p e below G (s₁.setTop (mkF m 1 #[.val (.ref o0), .val (.long q1), .second, .val (.long q2), .second, .val (.int (4 : Int32)), .unset, .unset, .unset, .unset, .unset] [(.ref o0)])) := fun t k => by
    refine pre0 t ?_
    show Steps p.tables e below (s₁.setTop (mkF m 0 #[.val (.ref o0), .val (.long q1), .second, .val (.long q2), .second, .val (.int (4 : Int32)), .unset, .unset, .unset, .unset, .unset] [])) _
    refine XS.aloadN X0.here hx rfl (hb hby d5_0) rfl rfl ?_
    show Steps p.tables e below (s₁.setTop (mkF m 1 #[.val (.ref o0), .val (.long q1), .second, .val (.long q2), .second, .val (.int (4 : Int32)), .unset, .unset, .unset, .unset, .unset] [(.ref o0)])) _
    exact k
  obtain ⟨cq2, zq2, zq2'⟩ := P0_E.cell
  obtain ⟨_, _, ⟨T2, L2, k2, n2⟩, -, X2, ⟨Lc2, hQ2, l2, y2, z2⟩, st2⟩ := X0.privateBack hx (y := (⟨"com/example/lean_throttle/leanthrottle/TimeRing", "newestTotal", "()J"⟩ : MethodName)) hown (mvT hZ (hw _ (List.mem_of_getElem? (i := 28) rfl))) (mvT hZ (hw _ (List.mem_of_getElem? (i := 29) rfl))) (own_selp hZ (hw _ (List.mem_of_getElem? (i := 5) rfl)) (hw _ (List.mem_of_getElem? (i := 30) rfl)) (hw _ (List.mem_of_getElem? (i := 29) rfl)) (by decide)) (Cond.privateMethod_at (mvP hZ (hw _ (List.mem_of_getElem? (i := 30) rfl)) (args := #[]))) (mvT hZ (hw _ (List.mem_of_getElem? (i := 31) rfl))) (by decide) (backOf (W := 0) (rm6 l Z a0 hw [] o0 ta tA fi sz nl bf gt gT h0 n0 (Nat.le_trans Z0 K0.1) P0_E P1_F P2_F P3_F P4_F P5_F P6_V P7_V P8_NE P9_NE P10_NE (show 0 ≤ fi.toInt ∧ fi.toInt < nl.toInt from hfi) (show 0 ≤ sz.toInt ∧ sz.toInt ≤ nl.toInt from hsz) (show nl.toInt ≤ 4 from hl4)) hZ (hw _ (List.mem_of_getElem? (i := 31) rfl)) (hw _ (List.mem_of_getElem? (i := 6) rfl)) (by decide) (by decide)) (g := (mkF m 1 #[.val (.ref o0), .val (.long q1), .second, .val (.long q2), .second, .val (.int (4 : Int32)), .unset, .unset, .unset, .unset, .unset] [(.ref o0)])) rfl (by rw [hml]; rfl) (Steps.refl _) (a := o0) (by rw [e0]; exact zq2) zq2' (argsL := []) (rest := []) (lenOf pd__28__29_J rfl) rfl (by show 2 * 0 + _ ≤ _; exact Nat.le_of_eq rfl) (hb hby d5_1) (fun _ _ => ⟨rfl, e0, (by decide : 0 + 0 ≤ _), (by decide : 0 + 0 ≤ _)⟩)
  dsimp only [Pt.U, Pt.locs, Pt.cells, Pt.slots] at X2 l2 y2 z2 st2 hQ2
  subst l2 y2 z2
  obtain ⟨rfl, N2q, e2⟩ := hQ2
  have N2 := Fr.app N0 N2q
  obtain ⟨M2, Y2, N2⟩ : ∃ M, Stand p l e ({ frames := 2, cells := 2, slots := 8, locals := 33 } : Room) s m #[(.ref o0), (.long q1), (.long q2), (.int (4 : Int32))] below meth c T2 M 0 0 ∧ Fr n0 M := ⟨_, X2, N2⟩
  have pre2 : Lead p e below G (T2.setTop (mkF m 4 #[.val (.ref o0), .val (.long q1), .second, .val (.long q2), .second, .val (.int (4 : Int32)), .unset, .unset, .unset, .unset, .unset] [(.long (F6 fi sz nl bf gT))])) := fun t k => pre1 t (st2.trans k)
  have pre3 : Lead p e below G (T2.setTop (mkF m 7 #[.val (.ref o0), .val (.long q1), .second, .val (.long q2), .second, .val (.int (4 : Int32)), .val (.long (F6 fi sz nl bf gT)), .second, .unset, .unset, .unset] [(.ref o0)])) := fun t k => by
    refine pre2 t ?_
    show Steps p.tables e below (T2.setTop (mkF m 4 #[.val (.ref o0), .val (.long q1), .second, .val (.long q2), .second, .val (.int (4 : Int32)), .unset, .unset, .unset, .unset, .unset] [(.long (F6 fi sz nl bf gT))])) _
    refine XS.lstore Y2.here hx rfl (hb hby d5_4) rfl (l' := #[.val (.ref o0), .val (.long q1), .second, .val (.long q2), .second, .val (.int (4 : Int32)), .val (.long (F6 fi sz nl bf gT)), .second, .unset, .unset, .unset]) rfl ?_
    refine XS.aloadN Y2.here hx rfl (hb hby d5_6) rfl rfl ?_
    exact k
  obtain ⟨T4, X4, e4, st4⟩ := getF Y2 hx hZ hown (host := "") (Or.inl (hw _ (List.mem_of_getElem? (i := 32) rfl))) Via.refl e2 P4_F (g := (mkF m 7 #[.val (.ref o0), .val (.long q1), .second, .val (.long q2), .second, .val (.int (4 : Int32)), .val (.long (F6 fi sz nl bf gT)), .second, .unset, .unset, .unset] [(.ref o0)])) rfl rfl (hb hby d5_7)
  have pre4 : Lead p e below G (T4.setTop (mkF m 10 #[.val (.ref o0), .val (.long q1), .second, .val (.long q2), .second, .val (.int (4 : Int32)), .val (.long (F6 fi sz nl bf gT)), .second, .unset, .unset, .unset] [(.int sz)])) := fun t k => pre3 t (st4 _ k)
  have pre5 : Lead p e below G (T4.setTop (mkF m 11 #[.val (.ref o0), .val (.long q1), .second, .val (.long q2), .second, .val (.int (4 : Int32)), .val (.long (F6 fi sz nl bf gT)), .second, .unset, .unset, .unset] [(.ref o0), (.int sz)])) := fun t k => by
    refine pre4 t ?_
    show Steps p.tables e below (T4.setTop (mkF m 10 #[.val (.ref o0), .val (.long q1), .second, .val (.long q2), .second, .val (.int (4 : Int32)), .val (.long (F6 fi sz nl bf gT)), .second, .unset, .unset, .unset] [(.int sz)])) _
    refine XS.aloadN X4.here hx rfl (hb hby d5_10) rfl rfl ?_
    show Steps p.tables e below (T4.setTop (mkF m 11 #[.val (.ref o0), .val (.long q1), .second, .val (.long q2), .second, .val (.int (4 : Int32)), .val (.long (F6 fi sz nl bf gT)), .second, .unset, .unset, .unset] [(.ref o0), (.int sz)])) _
    exact k
  obtain ⟨T6, X6, e6, st6⟩ := getF X4 hx hZ hown (host := "") (Or.inl (hw _ (List.mem_of_getElem? (i := 14) rfl))) Via.refl e4 P1_F (g := (mkF m 11 #[.val (.ref o0), .val (.long q1), .second, .val (.long q2), .second, .val (.int (4 : Int32)), .val (.long (F6 fi sz nl bf gT)), .second, .unset, .unset, .unset] [(.ref o0), (.int sz)])) rfl rfl (hb hby d5_11)
  have pre6 : Lead p e below G (T6.setTop (mkF m 14 #[.val (.ref o0), .val (.long q1), .second, .val (.long q2), .second, .val (.int (4 : Int32)), .val (.long (F6 fi sz nl bf gT)), .second, .unset, .unset, .unset] [(.ref ta), (.int sz)])) := fun t k => pre5 t (st6 _ k)
  obtain ⟨cl7, Ar7, len7⟩ := P6_V.len
  have st7 := X6.arraylength hx (by rw [e6]; exact Ar7.1) (State.isArrayOf_alike hZ.alike Ar7.2.1) (g := (mkF m 14 #[.val (.ref o0), .val (.long q1), .second, .val (.long q2), .second, .val (.int (4 : Int32)), .val (.long (F6 fi sz nl bf gT)), .second, .unset, .unset, .unset] [(.ref ta), (.int sz)])) rfl rfl (hb hby d5_14)
  rw [len7] at st7
  have pre7 : Lead p e below G (T6.setTop (mkF m 15 #[.val (.ref o0), .val (.long q1), .second, .val (.long q2), .second, .val (.int (4 : Int32)), .val (.long (F6 fi sz nl bf gT)), .second, .unset, .unset, .unset] [(.int nl), (.int sz)])) := fun t k => pre6 t (st7 _ k)
  by_cases hs15_9 : sz = nl
  · have pre10 : Lead p e below G (T6.setTop (mkF m 22 #[.val (.ref o0), .val (.long q1), .second, .val (.long q2), .second, .val (.int (4 : Int32)), .val (.long (F6 fi sz nl bf gT)), .second, .unset, .unset, .unset] [(.ref o0), (.long (2 : Int64))])) := fun t k => by
      refine pre7 t ?_
      show Steps p.tables e below (T6.setTop (mkF m 15 #[.val (.ref o0), .val (.long q1), .second, .val (.long q2), .second, .val (.int (4 : Int32)), .val (.long (F6 fi sz nl bf gT)), .second, .unset, .unset, .unset] [(.int nl), (.int sz)])) _
      refine XS.icmpNo X6.here hx rfl (hb hby d5_15) rfl (teq hs15_9).2 ?_
      refine X6.ldc2Long hx hown (mvT hZ (hw _ (List.mem_of_getElem? (i := 42) rfl))) (g := (mkF m 18 #[.val (.ref o0), .val (.long q1), .second, .val (.long q2), .second, .val (.int (4 : Int32)), .val (.long (F6 fi sz nl bf gT)), .second, .unset, .unset, .unset] [])) rfl (hb hby d5_18) _ ?_
      show Steps p.tables e below (T6.setTop (mkF m 21 #[.val (.ref o0), .val (.long q1), .second, .val (.long q2), .second, .val (.int (4 : Int32)), .val (.long (F6 fi sz nl bf gT)), .second, .unset, .unset, .unset] [(.long (2 : Int64))])) _
      refine XS.aloadN X6.here hx rfl (hb hby d5_21) rfl rfl ?_
      exact k
    obtain ⟨T11, X11, e11, st11⟩ := getF X6 hx hZ hown (host := "") (Or.inl (hw _ (List.mem_of_getElem? (i := 14) rfl))) Via.refl e6 P1_F (g := (mkF m 22 #[.val (.ref o0), .val (.long q1), .second, .val (.long q2), .second, .val (.int (4 : Int32)), .val (.long (F6 fi sz nl bf gT)), .second, .unset, .unset, .unset] [(.ref o0), (.long (2 : Int64))])) rfl rfl (hb hby d5_22)
    have pre11 : Lead p e below G (T11.setTop (mkF m 25 #[.val (.ref o0), .val (.long q1), .second, .val (.long q2), .second, .val (.int (4 : Int32)), .val (.long (F6 fi sz nl bf gT)), .second, .unset, .unset, .unset] [(.ref ta), (.long (2 : Int64))])) := fun t k => pre10 t (st11 _ k)
    obtain ⟨cl12, Ar12, len12⟩ := P6_V.len
    have st12 := X11.arraylength hx (by rw [e11]; exact Ar12.1) (State.isArrayOf_alike hZ.alike Ar12.2.1) (g := (mkF m 25 #[.val (.ref o0), .val (.long q1), .second, .val (.long q2), .second, .val (.int (4 : Int32)), .val (.long (F6 fi sz nl bf gT)), .second, .unset, .unset, .unset] [(.ref ta), (.long (2 : Int64))])) rfl rfl (hb hby d5_25)
    rw [len12] at st12
    have pre12 : Lead p e below G (T11.setTop (mkF m 26 #[.val (.ref o0), .val (.long q1), .second, .val (.long q2), .second, .val (.int (4 : Int32)), .val (.long (F6 fi sz nl bf gT)), .second, .unset, .unset, .unset] [(.int nl), (.long (2 : Int64))])) := fun t k => pre11 t (st12 _ k)
    have pre13 : Lead p e below G (T11.setTop (mkF m 31 #[.val (.ref o0), .val (.long q1), .second, .val (.long q2), .second, .val (.int (4 : Int32)), .val (.long (F6 fi sz nl bf gT)), .second, .unset, .unset, .unset] [(.long (4 : Int64)), (.long ((2 : Int64) * (nl.toInt64)))])) := fun t k => by
      refine pre12 t ?_
      show Steps p.tables e below (T11.setTop (mkF m 26 #[.val (.ref o0), .val (.long q1), .second, .val (.long q2), .second, .val (.int (4 : Int32)), .val (.long (F6 fi sz nl bf gT)), .second, .unset, .unset, .unset] [(.int nl), (.long (2 : Int64))])) _
      refine XS.i2l X11.here hx rfl (hb hby d5_26) rfl ?_
      show Steps p.tables e below (T11.setTop (mkF m 27 #[.val (.ref o0), .val (.long q1), .second, .val (.long q2), .second, .val (.int (4 : Int32)), .val (.long (F6 fi sz nl bf gT)), .second, .unset, .unset, .unset] [(.long (nl.toInt64)), (.long (2 : Int64))])) _
      refine XS.lmul X11.here hx rfl (hb hby d5_27) rfl ?_
      refine XS.iload X11.here hx rfl (hb hby d5_28) rfl ?_
      refine XS.i2l X11.here hx rfl (hb hby d5_30) rfl ?_
      show Steps p.tables e below (T11.setTop (mkF m 31 #[.val (.ref o0), .val (.long q1), .second, .val (.long q2), .second, .val (.int (4 : Int32)), .val (.long (F6 fi sz nl bf gT)), .second, .unset, .unset, .unset] [(.long (4 : Int64)), (.long ((2 : Int64) * (nl.toInt64)))])) _
      exact k
    obtain ⟨_, _, ⟨T14, L14, k14, n14⟩, -, X14, ⟨Lc14, hQ14, l14, y14, z14⟩, st14⟩ := Jvm.LawKit.callS X11 hx (y := (⟨"java/lang/Math", "min", "(JJ)J"⟩ : MethodName)) hown (mvT hZ (hw _ (List.mem_of_getElem? (i := 43) rfl))) (mvT hZ (hw _ (List.mem_of_getElem? (i := 44) rfl))) (mvT hZ (hw _ (List.mem_of_getElem? (i := 2) rfl))) (mvT hZ (hw _ (List.mem_of_getElem? (i := 45) rfl))) (by decide) (backOf (W := 0) (rm8 l Z a0 hw [] ((2 : Int64) * (nl.toInt64)) (4 : Int64)  h0 n0 (Nat.le_trans Z0 K0.1) ) hZ (hw _ (List.mem_of_getElem? (i := 45) rfl)) (hw _ (List.mem_of_getElem? (i := 2) rfl)) (by decide) (by decide)) (g := (mkF m 31 #[.val (.ref o0), .val (.long q1), .second, .val (.long q2), .second, .val (.int (4 : Int32)), .val (.long (F6 fi sz nl bf gT)), .second, .unset, .unset, .unset] [(.long (4 : Int64)), (.long ((2 : Int64) * (nl.toInt64)))])) rfl (by rw [hml]; rfl) (argsL := [(.long ((2 : Int64) * (nl.toInt64))), (.long (4 : Int64))]) (rest := []) (lenOf pd__28_JJ_29_J rfl) rfl (by show 2 * 0 + _ ≤ _; exact Nat.le_of_eq rfl) (hb hby d5_31) (fun _ _ => ⟨rfl, e11, (by decide : 0 + 0 ≤ _), (by decide : 0 + 0 ≤ _)⟩)
    dsimp only [Pt.U, Pt.locs, Pt.cells, Pt.slots] at X14 l14 y14 z14 st14 hQ14
    subst l14 y14 z14
    obtain ⟨rfl, N14q, e14⟩ := hQ14
    have N14 := Fr.app N2 N14q
    obtain ⟨M14, Y14, N14⟩ : ∃ M, Stand p l e ({ frames := 2, cells := 2, slots := 8, locals := 33 } : Room) s m #[(.ref o0), (.long q1), (.long q2), (.int (4 : Int32))] below meth c T14 M 0 0 ∧ Fr n0 M := ⟨_, X14, N14⟩
    have pre14 : Lead p e below G (T14.setTop (mkF m 34 #[.val (.ref o0), .val (.long q1), .second, .val (.long q2), .second, .val (.int (4 : Int32)), .val (.long (F6 fi sz nl bf gT)), .second, .unset, .unset, .unset] [(.long (F8 ((2 : Int64) * (nl.toInt64)) (4 : Int64)))])) := fun t k => pre13 t (st14 _ k)
    have pre15 : Lead p e below G (T14.setTop (mkF m 39 #[.val (.ref o0), .val (.long q1), .second, .val (.long q2), .second, .val (.int (4 : Int32)), .val (.long (F6 fi sz nl bf gT)), .second, .val (.int ((F8 ((2 : Int64) * (nl.toInt64)) (4 : Int64)).toInt32)), .unset, .unset] [(.ref o0), (.ref o0)])) := fun t k => by
      refine pre14 t ?_
      show Steps p.tables e below (T14.setTop (mkF m 34 #[.val (.ref o0), .val (.long q1), .second, .val (.long q2), .second, .val (.int (4 : Int32)), .val (.long (F6 fi sz nl bf gT)), .second, .unset, .unset, .unset] [(.long (F8 ((2 : Int64) * (nl.toInt64)) (4 : Int64)))])) _
      refine XS.l2i Y14.here hx rfl (hb hby d5_34) rfl ?_
      refine XS.istore Y14.here hx rfl (hb hby d5_35) rfl (l' := #[.val (.ref o0), .val (.long q1), .second, .val (.long q2), .second, .val (.int (4 : Int32)), .val (.long (F6 fi sz nl bf gT)), .second, .val (.int ((F8 ((2 : Int64) * (nl.toInt64)) (4 : Int64)).toInt32)), .unset, .unset]) rfl ?_
      refine XS.aloadN Y14.here hx rfl (hb hby d5_37) rfl rfl ?_
      show Steps p.tables e below (T14.setTop (mkF m 38 #[.val (.ref o0), .val (.long q1), .second, .val (.long q2), .second, .val (.int (4 : Int32)), .val (.long (F6 fi sz nl bf gT)), .second, .val (.int ((F8 ((2 : Int64) * (nl.toInt64)) (4 : Int64)).toInt32)), .unset, .unset] [(.ref o0)])) _
      refine XS.aloadN Y14.here hx rfl (hb hby d5_38) rfl rfl ?_
      exact k
    obtain ⟨v16, hv16⟩ : ∃ z : Int32, z = ((F8 ((2 : Int64) * (nl.toInt64)) (4 : Int64)).toInt32) := ⟨_, rfl⟩
    have pre16 : Lead p e below G (T14.setTop (mkF m 39 #[.val (.ref o0), .val (.long q1), .second, .val (.long q2), .second, .val (.int (4 : Int32)), .val (.long (F6 fi sz nl bf gT)), .second, .val (.int v16), .unset, .unset] [(.ref o0), (.ref o0)])) := by rw [hv16]; exact pre15
    obtain ⟨T17, X17, e17, st17⟩ := getF Y14 hx hZ hown (host := "") (Or.inl (hw _ (List.mem_of_getElem? (i := 14) rfl))) Via.refl e14 P1_F (g := (mkF m 39 #[.val (.ref o0), .val (.long q1), .second, .val (.long q2), .second, .val (.int (4 : Int32)), .val (.long (F6 fi sz nl bf gT)), .second, .val (.int v16), .unset, .unset] [(.ref o0), (.ref o0)])) rfl rfl (hb hby d5_39)
    have pre17 : Lead p e below G (T17.setTop (mkF m 42 #[.val (.ref o0), .val (.long q1), .second, .val (.long q2), .second, .val (.int (4 : Int32)), .val (.long (F6 fi sz nl bf gT)), .second, .val (.int v16), .unset, .unset] [(.ref ta), (.ref o0)])) := fun t k => pre16 t (st17 _ k)
    have pre18 : Lead p e below G (T17.setTop (mkF m 44 #[.val (.ref o0), .val (.long q1), .second, .val (.long q2), .second, .val (.int (4 : Int32)), .val (.long (F6 fi sz nl bf gT)), .second, .val (.int v16), .unset, .unset] [(.int v16), (.ref ta), (.ref o0)])) := fun t k => by
      refine pre17 t ?_
      show Steps p.tables e below (T17.setTop (mkF m 42 #[.val (.ref o0), .val (.long q1), .second, .val (.long q2), .second, .val (.int (4 : Int32)), .val (.long (F6 fi sz nl bf gT)), .second, .val (.int v16), .unset, .unset] [(.ref ta), (.ref o0)])) _
      refine XS.iload X17.here hx rfl (hb hby d5_42) rfl ?_
      exact k
    obtain ⟨cq19, zq19, zq19'⟩ := P0_E.cell
    obtain ⟨_, _, ⟨T19, L19, k19, n19⟩, -, X19, ⟨Lc19, hQ19, l19, y19, z19⟩, st19⟩ := X17.privateBack hx (y := (⟨"com/example/lean_throttle/leanthrottle/TimeRing", "unwrapped", "([JI)[J"⟩ : MethodName)) hown (mvT hZ (hw _ (List.mem_of_getElem? (i := 46) rfl))) (mvT hZ (hw _ (List.mem_of_getElem? (i := 47) rfl))) (own_selp hZ (hw _ (List.mem_of_getElem? (i := 5) rfl)) (hw _ (List.mem_of_getElem? (i := 48) rfl)) (hw _ (List.mem_of_getElem? (i := 47) rfl)) (by decide)) (Cond.privateMethod_at (mvP hZ (hw _ (List.mem_of_getElem? (i := 48) rfl)) (args := #[]))) (mvT hZ (hw _ (List.mem_of_getElem? (i := 49) rfl))) (by decide) (backOf (W := 0) (rm9 l Z a0 hw [] o0 ta v16 ta fi sz nl gt gt h0 n0 (Nat.le_trans Z0 K0.1) P0_E P4_F P3_F P1_F P6_V P6_V (show 0 ≤ fi.toInt ∧ fi.toInt < nl.toInt from hfi) (show 0 ≤ sz.toInt ∧ sz.toInt ≤ nl.toInt from hsz) (show nl.toInt ≤ 4 from hl4) (show sz.toInt ≤ v16.toInt from (by subst hv16; exact (show sz.toInt ≤ (GL nl).toInt from (by have q := own_eqi hs15_9; have g := own_gb hlen (by have q := own_eqi hs15_9; omega); omega)))) (show ¬ v16 < 0 from (by subst hv16; exact (own_gb hlen (by have q := own_eqi hs15_9; omega)).1)) (show v16.toNatClampNeg ≤ 4 from (by subst hv16; exact (own_gb hlen (by have q := own_eqi hs15_9; omega)).2.1))) hZ (hw _ (List.mem_of_getElem? (i := 49) rfl)) (hw _ (List.mem_of_getElem? (i := 6) rfl)) (by decide) (by decide)) (g := (mkF m 44 #[.val (.ref o0), .val (.long q1), .second, .val (.long q2), .second, .val (.int (4 : Int32)), .val (.long (F6 fi sz nl bf gT)), .second, .val (.int v16), .unset, .unset] [(.int v16), (.ref ta), (.ref o0)])) rfl (by rw [hml]; rfl) (Steps.refl _) (a := o0) (by rw [e17]; exact zq19) zq19' (argsL := [(.ref ta), (.int v16)]) (rest := []) (lenOf pd__28__5b_JI_29__5b_J rfl) rfl (by show 2 * 0 + _ ≤ _; exact Nat.le_of_eq rfl) (hb hby d5_44) (fun _ _ => ⟨rfl, e17, (by decide : 0 + 1 ≤ _), (by decide : 0 + 4 ≤ _)⟩)
    dsimp only [Pt.U, Pt.locs, Pt.cells, Pt.slots] at X19 l19 y19 z19 st19 hQ19
    subst l19 y19 z19
    obtain ⟨nb_19, gr_19, rfl, N19q, K19c, c19_0, c19_1, c19_2⟩ := hQ19
    have N19 := Fr.app N14 N19q
    have ne19_o0_nb_19 : o0 ≠ nb_19 := Nat.ne_of_lt (Nat.lt_of_lt_of_le P0_E.lt c19_0)
    have ne19_ta_nb_19 : ta ≠ nb_19 := Nat.ne_of_lt (Nat.lt_of_lt_of_le P6_V.lt c19_0)
    have ne19_tA_nb_19 : tA ≠ nb_19 := Nat.ne_of_lt (Nat.lt_of_lt_of_le P7_V.lt c19_0)
    have sznb_19 : h0.size ≤ nb_19 := Nat.le_trans K0.1 c19_0
    have genb_19 : n0 ≤ nb_19 := Nat.le_trans Z0 sznb_19
    have K19 : Keep h0 T19.heap [o0, ta, tA] := K0.trans K19c all0
    obtain ⟨M19, Y19, N19⟩ : ∃ M, Stand p l e ({ frames := 2, cells := 2, slots := 8, locals := 33 } : Room) s m #[(.ref o0), (.long q1), (.long q2), (.int (4 : Int32))] below meth c T19 M 1 4 ∧ Fr n0 M := ⟨_, X19, N19⟩
    have pre19 : Lead p e below G (T19.setTop (mkF m 47 #[.val (.ref o0), .val (.long q1), .second, .val (.long q2), .second, .val (.int (4 : Int32)), .val (.long (F6 fi sz nl bf gT)), .second, .val (.int v16), .unset, .unset] [(.ref nb_19)])) := fun t k => pre18 t (st19.trans k)
    have pre20 : Lead p e below G (T19.setTop (mkF m 51 #[.val (.ref o0), .val (.long q1), .second, .val (.long q2), .second, .val (.int (4 : Int32)), .val (.long (F6 fi sz nl bf gT)), .second, .val (.int v16), .val (.ref nb_19), .unset] [(.ref o0), (.ref o0)])) := fun t k => by
      refine pre19 t ?_
      show Steps p.tables e below (T19.setTop (mkF m 47 #[.val (.ref o0), .val (.long q1), .second, .val (.long q2), .second, .val (.int (4 : Int32)), .val (.long (F6 fi sz nl bf gT)), .second, .val (.int v16), .unset, .unset] [(.ref nb_19)])) _
      refine XS.astore Y19.here hx rfl (hb hby d5_47) rfl rfl (l' := #[.val (.ref o0), .val (.long q1), .second, .val (.long q2), .second, .val (.int (4 : Int32)), .val (.long (F6 fi sz nl bf gT)), .second, .val (.int v16), .val (.ref nb_19), .unset]) rfl ?_
      show Steps p.tables e below (T19.setTop (mkF m 49 #[.val (.ref o0), .val (.long q1), .second, .val (.long q2), .second, .val (.int (4 : Int32)), .val (.long (F6 fi sz nl bf gT)), .second, .val (.int v16), .val (.ref nb_19), .unset] [])) _
      refine XS.aloadN Y19.here hx rfl (hb hby d5_49) rfl rfl ?_
      refine XS.aloadN Y19.here hx rfl (hb hby d5_50) rfl rfl ?_
      exact k
    have f22 : Fld Z T19.heap o0 "com/example/lean_throttle/leanthrottle/TimeRing" "totals" "[J" (.ref tA) := (P2_F.keep K19c nin0)
    obtain ⟨T21, X21, e21, st21⟩ := getF Y19 hx hZ hown (host := "") (Or.inl (hw _ (List.mem_of_getElem? (i := 16) rfl))) Via.refl rfl f22 (g := (mkF m 51 #[.val (.ref o0), .val (.long q1), .second, .val (.long q2), .second, .val (.int (4 : Int32)), .val (.long (F6 fi sz nl bf gT)), .second, .val (.int v16), .val (.ref nb_19), .unset] [(.ref o0), (.ref o0)])) rfl rfl (hb hby d5_51)
    have pre21 : Lead p e below G (T21.setTop (mkF m 54 #[.val (.ref o0), .val (.long q1), .second, .val (.long q2), .second, .val (.int (4 : Int32)), .val (.long (F6 fi sz nl bf gT)), .second, .val (.int v16), .val (.ref nb_19), .unset] [(.ref tA), (.ref o0)])) := fun t k => pre20 t (st21 _ k)
    have pre23 : Lead p e below G (T21.setTop (mkF m 56 #[.val (.ref o0), .val (.long q1), .second, .val (.long q2), .second, .val (.int (4 : Int32)), .val (.long (F6 fi sz nl bf gT)), .second, .val (.int v16), .val (.ref nb_19), .unset] [(.int v16), (.ref tA), (.ref o0)])) := fun t k => by
      refine pre21 t ?_
      show Steps p.tables e below (T21.setTop (mkF m 54 #[.val (.ref o0), .val (.long q1), .second, .val (.long q2), .second, .val (.int (4 : Int32)), .val (.long (F6 fi sz nl bf gT)), .second, .val (.int v16), .val (.ref nb_19), .unset] [(.ref tA), (.ref o0)])) _
      refine XS.iload X21.here hx rfl (hb hby d5_54) rfl ?_
      show Steps p.tables e below (T21.setTop (mkF m 56 #[.val (.ref o0), .val (.long q1), .second, .val (.long q2), .second, .val (.int (4 : Int32)), .val (.long (F6 fi sz nl bf gT)), .second, .val (.int v16), .val (.ref nb_19), .unset] [(.int v16), (.ref tA), (.ref o0)])) _
      exact k
    have f25 : Exa Z T19.heap o0 "com/example/lean_throttle/leanthrottle/TimeRing" := (P0_E.keep K19c)
    have f26 : Fld Z T19.heap o0 "com/example/lean_throttle/leanthrottle/TimeRing" "size" "I" (.int sz) := (P4_F.keep K19c nin0)
    have f27 : Fld Z T19.heap o0 "com/example/lean_throttle/leanthrottle/TimeRing" "first" "I" (.int fi) := (P3_F.keep K19c nin0)
    have f28 : Fld Z T19.heap o0 "com/example/lean_throttle/leanthrottle/TimeRing" "times" "[J" (.ref ta) := (P1_F.keep K19c nin0)
    have f29 : JV Value.long Z T19.heap ta .long nl gt := (P6_V.keep K19c nin0)
    have f30 : JV Value.long Z T19.heap tA .long nl gT := (P7_V.keep K19c nin0)
    obtain ⟨cq24, zq24, zq24'⟩ := f25.cell
    obtain ⟨_, _, ⟨T24, L24, k24, n24⟩, -, X24, ⟨Lc24, hQ24, l24, y24, z24⟩, st24⟩ := X21.privateBack hx (y := (⟨"com/example/lean_throttle/leanthrottle/TimeRing", "unwrapped", "([JI)[J"⟩ : MethodName)) hown (mvT hZ (hw _ (List.mem_of_getElem? (i := 46) rfl))) (mvT hZ (hw _ (List.mem_of_getElem? (i := 47) rfl))) (own_selp hZ (hw _ (List.mem_of_getElem? (i := 5) rfl)) (hw _ (List.mem_of_getElem? (i := 48) rfl)) (hw _ (List.mem_of_getElem? (i := 47) rfl)) (by decide)) (Cond.privateMethod_at (mvP hZ (hw _ (List.mem_of_getElem? (i := 48) rfl)) (args := #[]))) (mvT hZ (hw _ (List.mem_of_getElem? (i := 49) rfl))) (by decide) (backOf (W := 0) (rm9 l Z a0 hw [] o0 tA v16 ta fi sz nl gt gT T19.heap n0 (Nat.le_trans Z0 K19.1) f25 f26 f27 f28 f29 f30 (show 0 ≤ fi.toInt ∧ fi.toInt < nl.toInt from hfi) (show 0 ≤ sz.toInt ∧ sz.toInt ≤ nl.toInt from hsz) (show nl.toInt ≤ 4 from hl4) (show sz.toInt ≤ v16.toInt from (by subst hv16; exact (show sz.toInt ≤ (GL nl).toInt from (by have q := own_eqi hs15_9; have g := own_gb hlen (by have q := own_eqi hs15_9; omega); omega)))) (show ¬ v16 < 0 from (by subst hv16; exact (own_gb hlen (by have q := own_eqi hs15_9; omega)).1)) (show v16.toNatClampNeg ≤ 4 from (by subst hv16; exact (own_gb hlen (by have q := own_eqi hs15_9; omega)).2.1))) hZ (hw _ (List.mem_of_getElem? (i := 49) rfl)) (hw _ (List.mem_of_getElem? (i := 6) rfl)) (by decide) (by decide)) (g := (mkF m 56 #[.val (.ref o0), .val (.long q1), .second, .val (.long q2), .second, .val (.int (4 : Int32)), .val (.long (F6 fi sz nl bf gT)), .second, .val (.int v16), .val (.ref nb_19), .unset] [(.int v16), (.ref tA), (.ref o0)])) rfl (by rw [hml]; rfl) (Steps.refl _) (a := o0) (by rw [e21]; exact zq24) zq24' (argsL := [(.ref tA), (.int v16)]) (rest := []) (lenOf pd__28__5b_JI_29__5b_J rfl) rfl (by show 2 * 0 + _ ≤ _; exact Nat.le_of_eq rfl) (hb hby d5_56) (fun _ _ => ⟨rfl, e21, (by decide : 1 + 1 ≤ _), (by decide : 4 + 4 ≤ _)⟩)
    dsimp only [Pt.U, Pt.locs, Pt.cells, Pt.slots] at X24 l24 y24 z24 st24 hQ24
    subst l24 y24 z24
    obtain ⟨nb_24, gr_24, rfl, N24q, K24c, c24_0, c24_1, c24_2⟩ := hQ24
    have N24 := Fr.app N19 N24q
    have ne24_o0_nb_24 : o0 ≠ nb_24 := Nat.ne_of_lt (Nat.lt_of_lt_of_le f25.lt c24_0)
    have ne24_ta_nb_24 : ta ≠ nb_24 := Nat.ne_of_lt (Nat.lt_of_lt_of_le f29.lt c24_0)
    have ne24_tA_nb_24 : tA ≠ nb_24 := Nat.ne_of_lt (Nat.lt_of_lt_of_le f30.lt c24_0)
    have ne24_nb_19_nb_24 : nb_19 ≠ nb_24 := Nat.ne_of_lt (Nat.lt_of_lt_of_le c19_1.lt c24_0)
    have sznb_24 : h0.size ≤ nb_24 := Nat.le_trans K19.1 c24_0
    have genb_24 : n0 ≤ nb_24 := Nat.le_trans Z0 sznb_24
    have K24 : Keep h0 T24.heap [o0, ta, tA] := K19.trans K24c all0
    obtain ⟨M24, Y24, N24⟩ : ∃ M, Stand p l e ({ frames := 2, cells := 2, slots := 8, locals := 33 } : Room) s m #[(.ref o0), (.long q1), (.long q2), (.int (4 : Int32))] below meth c T24 M 2 8 ∧ Fr n0 M := ⟨_, X24, N24⟩
    have pre24 : Lead p e below G (T24.setTop (mkF m 59 #[.val (.ref o0), .val (.long q1), .second, .val (.long q2), .second, .val (.int (4 : Int32)), .val (.long (F6 fi sz nl bf gT)), .second, .val (.int v16), .val (.ref nb_19), .unset] [(.ref nb_24)])) := fun t k => pre23 t (st24.trans k)
    have pre31 : Lead p e below G (T24.setTop (mkF m 64 #[.val (.ref o0), .val (.long q1), .second, .val (.long q2), .second, .val (.int (4 : Int32)), .val (.long (F6 fi sz nl bf gT)), .second, .val (.int v16), .val (.ref nb_19), .val (.ref nb_24)] [(.ref nb_19), (.ref o0)])) := fun t k => by
      refine pre24 t ?_
      show Steps p.tables e below (T24.setTop (mkF m 59 #[.val (.ref o0), .val (.long q1), .second, .val (.long q2), .second, .val (.int (4 : Int32)), .val (.long (F6 fi sz nl bf gT)), .second, .val (.int v16), .val (.ref nb_19), .unset] [(.ref nb_24)])) _
      refine XS.astore Y24.here hx rfl (hb hby d5_59) rfl rfl (l' := #[.val (.ref o0), .val (.long q1), .second, .val (.long q2), .second, .val (.int (4 : Int32)), .val (.long (F6 fi sz nl bf gT)), .second, .val (.int v16), .val (.ref nb_19), .val (.ref nb_24)]) rfl ?_
      refine XS.aloadN Y24.here hx rfl (hb hby d5_61) rfl rfl ?_
      refine XS.aload Y24.here hx rfl (hb hby d5_62) rfl rfl ?_
      show Steps p.tables e below (T24.setTop (mkF m 64 #[.val (.ref o0), .val (.long q1), .second, .val (.long q2), .second, .val (.int (4 : Int32)), .val (.long (F6 fi sz nl bf gT)), .second, .val (.int v16), .val (.ref nb_19), .val (.ref nb_24)] [(.ref nb_19), (.ref o0)])) _
      exact k
    have f33 : Fld Z T24.heap o0 "com/example/lean_throttle/leanthrottle/TimeRing" "times" "[J" (.ref ta) := (f28.keep K24c nin0)
    have f34 : Exa Z T24.heap o0 "com/example/lean_throttle/leanthrottle/TimeRing" := (f25.keep K24c)
    obtain ⟨T32, h32, X32, e32, W32, st32⟩ := putF Y24 hx hZ hown (host := "") (Or.inl (hw _ (List.mem_of_getElem? (i := 14) rfl))) Via.refl rfl f33 f34 (Or.inl (hw _ (List.mem_of_getElem? (i := 15) rfl))) (hw _ (List.mem_of_getElem? (i := 5) rfl)) (ty := (.array .long)) (by decide) rfl rfl (g := (mkF m 64 #[.val (.ref o0), .val (.long q1), .second, .val (.long q2), .second, .val (.int (4 : Int32)), .val (.long (F6 fi sz nl bf gT)), .second, .val (.int v16), .val (.ref nb_19), .val (.ref nb_24)] [(.ref nb_19), (.ref o0)])) rfl rfl (hb hby d5_64)
    have N32 := Fr.snoc X32 N24 P16_G
    have K32 : Keep h0 h32 [o0, ta, tA] := K24.wr W32 (Or.inl (List.mem_of_getElem? (i := 0) rfl))
    obtain ⟨M32, Y32, N32⟩ : ∃ M, Stand p l e ({ frames := 2, cells := 2, slots := 8, locals := 33 } : Room) s m #[(.ref o0), (.long q1), (.long q2), (.int (4 : Int32))] below meth c T32 M 2 8 ∧ Fr n0 M := ⟨_, X32, N32⟩
    have Fw32 : Fld Z h32 o0 "com/example/lean_throttle/leanthrottle/TimeRing" "times" "[J" (.ref nb_19) := f33.same W32
    have pre32 : Lead p e below G (T32.setTop (mkF m 67 #[.val (.ref o0), .val (.long q1), .second, .val (.long q2), .second, .val (.int (4 : Int32)), .val (.long (F6 fi sz nl bf gT)), .second, .val (.int v16), .val (.ref nb_19), .val (.ref nb_24)] [])) := fun t k => pre31 t (st32 _ k)
    have pre35 : Lead p e below G (T32.setTop (mkF m 70 #[.val (.ref o0), .val (.long q1), .second, .val (.long q2), .second, .val (.int (4 : Int32)), .val (.long (F6 fi sz nl bf gT)), .second, .val (.int v16), .val (.ref nb_19), .val (.ref nb_24)] [(.ref nb_24), (.ref o0)])) := fun t k => by
      refine pre32 t ?_
      show Steps p.tables e below (T32.setTop (mkF m 67 #[.val (.ref o0), .val (.long q1), .second, .val (.long q2), .second, .val (.int (4 : Int32)), .val (.long (F6 fi sz nl bf gT)), .second, .val (.int v16), .val (.ref nb_19), .val (.ref nb_24)] [])) _
      refine XS.aloadN Y32.here hx rfl (hb hby d5_67) rfl rfl ?_
      refine XS.aload Y32.here hx rfl (hb hby d5_68) rfl rfl ?_
      exact k
    have f37 : Fld Z h32 o0 "com/example/lean_throttle/leanthrottle/TimeRing" "totals" "[J" (.ref tA) := ((f22.keep K24c nin0).other W32 (Or.inr (slot_ne (Or.inl (hw _ (List.mem_of_getElem? (i := 17) rfl))) (Or.inl (hw _ (List.mem_of_getElem? (i := 15) rfl))) (by decide) (t := (.array .long)) (t' := (.array .long)) (by decide) (by decide))))
    have f38 : Exa Z h32 o0 "com/example/lean_throttle/leanthrottle/TimeRing" := (f34.wr W32)
    obtain ⟨T36, h36, X36, e36, W36, st36⟩ := putF Y32 hx hZ hown (host := "") (Or.inl (hw _ (List.mem_of_getElem? (i := 16) rfl))) Via.refl e32 f37 f38 (Or.inl (hw _ (List.mem_of_getElem? (i := 17) rfl))) (hw _ (List.mem_of_getElem? (i := 5) rfl)) (ty := (.array .long)) (by decide) rfl rfl (g := (mkF m 70 #[.val (.ref o0), .val (.long q1), .second, .val (.long q2), .second, .val (.int (4 : Int32)), .val (.long (F6 fi sz nl bf gT)), .second, .val (.int v16), .val (.ref nb_19), .val (.ref nb_24)] [(.ref nb_24), (.ref o0)])) rfl rfl (hb hby d5_70)
    have N36 := Fr.snoc X36 N32 P16_G
    have K36 : Keep h0 h36 [o0, ta, tA] := K32.wr W36 (Or.inl (List.mem_of_getElem? (i := 0) rfl))
    obtain ⟨M36, Y36, N36⟩ : ∃ M, Stand p l e ({ frames := 2, cells := 2, slots := 8, locals := 33 } : Room) s m #[(.ref o0), (.long q1), (.long q2), (.int (4 : Int32))] below meth c T36 M 2 8 ∧ Fr n0 M := ⟨_, X36, N36⟩
    have Fw36 : Fld Z h36 o0 "com/example/lean_throttle/leanthrottle/TimeRing" "totals" "[J" (.ref nb_24) := f37.same W36
    have pre36 : Lead p e below G (T36.setTop (mkF m 73 #[.val (.ref o0), .val (.long q1), .second, .val (.long q2), .second, .val (.int (4 : Int32)), .val (.long (F6 fi sz nl bf gT)), .second, .val (.int v16), .val (.ref nb_19), .val (.ref nb_24)] [])) := fun t k => pre35 t (st36 _ k)
    have pre39 : Lead p e below G (T36.setTop (mkF m 75 #[.val (.ref o0), .val (.long q1), .second, .val (.long q2), .second, .val (.int (4 : Int32)), .val (.long (F6 fi sz nl bf gT)), .second, .val (.int v16), .val (.ref nb_19), .val (.ref nb_24)] [(.int (0 : Int32)), (.ref o0)])) := fun t k => by
      refine pre36 t ?_
      show Steps p.tables e below (T36.setTop (mkF m 73 #[.val (.ref o0), .val (.long q1), .second, .val (.long q2), .second, .val (.int (4 : Int32)), .val (.long (F6 fi sz nl bf gT)), .second, .val (.int v16), .val (.ref nb_19), .val (.ref nb_24)] [])) _
      refine XS.aloadN Y36.here hx rfl (hb hby d5_73) rfl rfl ?_
      show Steps p.tables e below (T36.setTop (mkF m 74 #[.val (.ref o0), .val (.long q1), .second, .val (.long q2), .second, .val (.int (4 : Int32)), .val (.long (F6 fi sz nl bf gT)), .second, .val (.int v16), .val (.ref nb_19), .val (.ref nb_24)] [(.ref o0)])) _
      refine XS.iconst Y36.here hx rfl (hb hby d5_74) ?_
      exact k
    have f41 : Fld Z h36 o0 "com/example/lean_throttle/leanthrottle/TimeRing" "first" "I" (.int fi) := (((f27.keep K24c nin0).other W32 (Or.inr (slot_ne (Or.inl (hw _ (List.mem_of_getElem? (i := 41) rfl))) (Or.inl (hw _ (List.mem_of_getElem? (i := 15) rfl))) (by decide) (t := .int) (t' := (.array .long)) (by decide) (by decide)))).other W36 (Or.inr (slot_ne (Or.inl (hw _ (List.mem_of_getElem? (i := 41) rfl))) (Or.inl (hw _ (List.mem_of_getElem? (i := 17) rfl))) (by decide) (t := .int) (t' := (.array .long)) (by decide) (by decide))))
    have f42 : Exa Z h36 o0 "com/example/lean_throttle/leanthrottle/TimeRing" := (f38.wr W36)
    obtain ⟨T40, h40, X40, e40, W40, st40⟩ := putF Y36 hx hZ hown (host := "") (Or.inl (hw _ (List.mem_of_getElem? (i := 40) rfl))) Via.refl e36 f41 f42 (Or.inl (hw _ (List.mem_of_getElem? (i := 41) rfl))) (hw _ (List.mem_of_getElem? (i := 5) rfl)) (ty := .int) (by decide) rfl rfl (g := (mkF m 75 #[.val (.ref o0), .val (.long q1), .second, .val (.long q2), .second, .val (.int (4 : Int32)), .val (.long (F6 fi sz nl bf gT)), .second, .val (.int v16), .val (.ref nb_19), .val (.ref nb_24)] [(.int (0 : Int32)), (.ref o0)])) rfl rfl (hb hby d5_75)
    have N40 := Fr.snoc X40 N36 P16_G
    have K40 : Keep h0 h40 [o0, ta, tA] := K36.wr W40 (Or.inl (List.mem_of_getElem? (i := 0) rfl))
    obtain ⟨M40, Y40, N40⟩ : ∃ M, Stand p l e ({ frames := 2, cells := 2, slots := 8, locals := 33 } : Room) s m #[(.ref o0), (.long q1), (.long q2), (.int (4 : Int32))] below meth c T40 M 2 8 ∧ Fr n0 M := ⟨_, X40, N40⟩
    have Fw40 : Fld Z h40 o0 "com/example/lean_throttle/leanthrottle/TimeRing" "first" "I" (.int (0 : Int32)) := f41.same W40
    have pre40 : Lead p e below G (T40.setTop (mkF m 78 #[.val (.ref o0), .val (.long q1), .second, .val (.long q2), .second, .val (.int (4 : Int32)), .val (.long (F6 fi sz nl bf gT)), .second, .val (.int v16), .val (.ref nb_19), .val (.ref nb_24)] [])) := fun t k => pre39 t (st40 _ k)
    have pre43 : Lead p e below G (T40.setTop (mkF m 79 #[.val (.ref o0), .val (.long q1), .second, .val (.long q2), .second, .val (.int (4 : Int32)), .val (.long (F6 fi sz nl bf gT)), .second, .val (.int v16), .val (.ref nb_19), .val (.ref nb_24)] [(.ref o0)])) := fun t k => by
      refine pre40 t ?_
      show Steps p.tables e below (T40.setTop (mkF m 78 #[.val (.ref o0), .val (.long q1), .second, .val (.long q2), .second, .val (.int (4 : Int32)), .val (.long (F6 fi sz nl bf gT)), .second, .val (.int v16), .val (.ref nb_19), .val (.ref nb_24)] [])) _
      refine XS.aloadN Y40.here hx rfl (hb hby d5_78) rfl rfl ?_
      exact k
    have f45 : Fld Z h40 o0 "com/example/lean_throttle/leanthrottle/TimeRing" "times" "[J" (.ref nb_19) := ((Fw32.other W36 (Or.inr (slot_ne (Or.inl (hw _ (List.mem_of_getElem? (i := 15) rfl))) (Or.inl (hw _ (List.mem_of_getElem? (i := 17) rfl))) (by decide) (t := (.array .long)) (t' := (.array .long)) (by decide) (by decide)))).other W40 (Or.inr (slot_ne (Or.inl (hw _ (List.mem_of_getElem? (i := 15) rfl))) (Or.inl (hw _ (List.mem_of_getElem? (i := 41) rfl))) (by decide) (t := (.array .long)) (t' := .int) (by decide) (by decide))))
    obtain ⟨T44, X44, e44, st44⟩ := getF Y40 hx hZ hown (host := "") (Or.inl (hw _ (List.mem_of_getElem? (i := 14) rfl))) Via.refl e40 f45 (g := (mkF m 79 #[.val (.ref o0), .val (.long q1), .second, .val (.long q2), .second, .val (.int (4 : Int32)), .val (.long (F6 fi sz nl bf gT)), .second, .val (.int v16), .val (.ref nb_19), .val (.ref nb_24)] [(.ref o0)])) rfl rfl (hb hby d5_79)
    have pre44 : Lead p e below G (T44.setTop (mkF m 82 #[.val (.ref o0), .val (.long q1), .second, .val (.long q2), .second, .val (.int (4 : Int32)), .val (.long (F6 fi sz nl bf gT)), .second, .val (.int v16), .val (.ref nb_19), .val (.ref nb_24)] [(.ref nb_19)])) := fun t k => pre43 t (st44 _ k)
    have pre46 : Lead p e below G (T44.setTop (mkF m 84 #[.val (.ref o0), .val (.long q1), .second, .val (.long q2), .second, .val (.int (4 : Int32)), .val (.long (F6 fi sz nl bf gT)), .second, .val (.int v16), .val (.ref nb_19), .val (.ref nb_24)] [(.ref o0), (.ref o0), (.ref nb_19)])) := fun t k => by
      refine pre44 t ?_
      show Steps p.tables e below (T44.setTop (mkF m 82 #[.val (.ref o0), .val (.long q1), .second, .val (.long q2), .second, .val (.int (4 : Int32)), .val (.long (F6 fi sz nl bf gT)), .second, .val (.int v16), .val (.ref nb_19), .val (.ref nb_24)] [(.ref nb_19)])) _
      refine XS.aloadN X44.here hx rfl (hb hby d5_82) rfl rfl ?_
      show Steps p.tables e below (T44.setTop (mkF m 83 #[.val (.ref o0), .val (.long q1), .second, .val (.long q2), .second, .val (.int (4 : Int32)), .val (.long (F6 fi sz nl bf gT)), .second, .val (.int v16), .val (.ref nb_19), .val (.ref nb_24)] [(.ref o0), (.ref nb_19)])) _
      refine XS.aloadN X44.here hx rfl (hb hby d5_83) rfl rfl ?_
      exact k
    have f48 : Fld Z h40 o0 "com/example/lean_throttle/leanthrottle/TimeRing" "size" "I" (.int sz) := ((((f26.keep K24c nin0).other W32 (Or.inr (slot_ne (Or.inl (hw _ (List.mem_of_getElem? (i := 33) rfl))) (Or.inl (hw _ (List.mem_of_getElem? (i := 15) rfl))) (by decide) (t := .int) (t' := (.array .long)) (by decide) (by decide)))).other W36 (Or.inr (slot_ne (Or.inl (hw _ (List.mem_of_getElem? (i := 33) rfl))) (Or.inl (hw _ (List.mem_of_getElem? (i := 17) rfl))) (by decide) (t := .int) (t' := (.array .long)) (by decide) (by decide)))).other W40 (Or.inr (slot_ne (Or.inl (hw _ (List.mem_of_getElem? (i := 33) rfl))) (Or.inl (hw _ (List.mem_of_getElem? (i := 41) rfl))) (by decide) (t := .int) (t' := .int) (by decide) (by decide))))
    obtain ⟨T47, X47, e47, st47⟩ := getF X44 hx hZ hown (host := "") (Or.inl (hw _ (List.mem_of_getElem? (i := 32) rfl))) Via.refl e44 f48 (g := (mkF m 84 #[.val (.ref o0), .val (.long q1), .second, .val (.long q2), .second, .val (.int (4 : Int32)), .val (.long (F6 fi sz nl bf gT)), .second, .val (.int v16), .val (.ref nb_19), .val (.ref nb_24)] [(.ref o0), (.ref o0), (.ref nb_19)])) rfl rfl (hb hby d5_84)
    have pre47 : Lead p e below G (T47.setTop (mkF m 87 #[.val (.ref o0), .val (.long q1), .second, .val (.long q2), .second, .val (.int (4 : Int32)), .val (.long (F6 fi sz nl bf gT)), .second, .val (.int v16), .val (.ref nb_19), .val (.ref nb_24)] [(.int sz), (.ref o0), (.ref nb_19)])) := fun t k => pre46 t (st47 _ k)
    have f50 : JV Value.long Z h40 nb_19 .long v16 gr_19 := ((((c19_1.keep K24c nin0).other W32 (Ne.symm ne19_o0_nb_19)).other W36 (Ne.symm ne19_o0_nb_19)).other W40 (Ne.symm ne19_o0_nb_19))
    have f51 : Exa Z h40 o0 "com/example/lean_throttle/leanthrottle/TimeRing" := (f42.wr W40)
    obtain ⟨cq49, zq49, zq49'⟩ := f51.cell
    obtain ⟨_, _, ⟨T49, L49, k49, n49⟩, -, X49, ⟨Lc49, hQ49, l49, y49, z49⟩, st49⟩ := X47.privateBack hx (y := (⟨"com/example/lean_throttle/leanthrottle/TimeRing", "at", "(I)I"⟩ : MethodName)) hown (mvT hZ (hw _ (List.mem_of_getElem? (i := 36) rfl))) (mvT hZ (hw _ (List.mem_of_getElem? (i := 37) rfl))) (own_selp hZ (hw _ (List.mem_of_getElem? (i := 5) rfl)) (hw _ (List.mem_of_getElem? (i := 38) rfl)) (hw _ (List.mem_of_getElem? (i := 37) rfl)) (by decide)) (Cond.privateMethod_at (mvP hZ (hw _ (List.mem_of_getElem? (i := 38) rfl)) (args := #[]))) (mvT hZ (hw _ (List.mem_of_getElem? (i := 39) rfl))) (by decide) (backOf (W := 1) (rm7 l Z a0 hw [] o0 sz (0 : Int32) nb_19 v16 gr_19 h40 n0 (Nat.le_trans Z0 K40.1) Fw40 f45 f50) hZ (hw _ (List.mem_of_getElem? (i := 39) rfl)) (hw _ (List.mem_of_getElem? (i := 6) rfl)) (by decide) (by decide)) (g := (mkF m 87 #[.val (.ref o0), .val (.long q1), .second, .val (.long q2), .second, .val (.int (4 : Int32)), .val (.long (F6 fi sz nl bf gT)), .second, .val (.int v16), .val (.ref nb_19), .val (.ref nb_24)] [(.int sz), (.ref o0), (.ref nb_19)])) rfl (by rw [hml]; rfl) (Steps.refl _) (a := o0) (by rw [e47]; exact zq49) zq49' (argsL := [(.int sz)]) (rest := [(.ref nb_19)]) (lenOf pd__28_I_29_I rfl) rfl (by show 2 * 0 + _ ≤ _; exact Nat.le_of_eq rfl) (hb hby d5_87) (fun _ _ => ⟨rfl, e47, (by decide : 2 + 0 ≤ _), (by decide : 8 + 0 ≤ _)⟩)
    dsimp only [Pt.U, Pt.locs, Pt.cells, Pt.slots] at X49 l49 y49 z49 st49 hQ49
    subst l49 y49 z49
    obtain ⟨rfl, N49q, e49⟩ := hQ49
    have N49 := Fr.app N40 N49q
    obtain ⟨M49, Y49, N49⟩ : ∃ M, Stand p l e ({ frames := 2, cells := 2, slots := 8, locals := 33 } : Room) s m #[(.ref o0), (.long q1), (.long q2), (.int (4 : Int32))] below meth c T49 M 2 8 ∧ Fr n0 M := ⟨_, X49, N49⟩
    have pre49 : Lead p e below G (T49.setTop (mkF m 90 #[.val (.ref o0), .val (.long q1), .second, .val (.long q2), .second, .val (.int (4 : Int32)), .val (.long (F6 fi sz nl bf gT)), .second, .val (.int v16), .val (.ref nb_19), .val (.ref nb_24)] [(.int (AtI (0 : Int32) sz v16)), (.ref nb_19)])) := fun t k => pre47 t (st49.trans k)
    have pre52 : Lead p e below G (T49.setTop (mkF m 91 #[.val (.ref o0), .val (.long q1), .second, .val (.long q2), .second, .val (.int (4 : Int32)), .val (.long (F6 fi sz nl bf gT)), .second, .val (.int v16), .val (.ref nb_19), .val (.ref nb_24)] [(.long q1), (.int (AtI (0 : Int32) sz v16)), (.ref nb_19)])) := fun t k => by
      refine pre49 t ?_
      show Steps p.tables e below (T49.setTop (mkF m 90 #[.val (.ref o0), .val (.long q1), .second, .val (.long q2), .second, .val (.int (4 : Int32)), .val (.long (F6 fi sz nl bf gT)), .second, .val (.int v16), .val (.ref nb_19), .val (.ref nb_24)] [(.int (AtI (0 : Int32) sz v16)), (.ref nb_19)])) _
      refine XS.lloadN Y49.here hx rfl (hb hby d5_90) rfl ?_
      exact k
    obtain ⟨cl53, Ar53, hin53, -⟩ := f50.in (j := (AtI (0 : Int32) sz v16)) (by subst hv16; exact (own_nb (f := 0) (i := sz) (l := GL nl) (by have g := own_gl hlen (by have q := own_eqi hs15_9; omega); have z : (0 : Int32).toInt = 0 := (by decide); omega) (by have q := own_eqi hs15_9; have g := own_gl hlen (by have q := own_eqi hs15_9; omega); omega) (own_gb hlen (by have q := own_eqi hs15_9; omega)).2.2.2))
    obtain ⟨T53, h53, X53, e53, W53, st53⟩ := stJ Y49 hx hZ e49 Ar53 (j := (AtI (0 : Int32) sz v16)) hin53 (g := (mkF m 91 #[.val (.ref o0), .val (.long q1), .second, .val (.long q2), .second, .val (.int (4 : Int32)), .val (.long (F6 fi sz nl bf gT)), .second, .val (.int v16), .val (.ref nb_19), .val (.ref nb_24)] [(.long q1), (.int (AtI (0 : Int32) sz v16)), (.ref nb_19)])) rfl rfl (hb hby d5_91)
    have N53 := Fr.snoc X53 N49 genb_19
    have K53 : Keep h0 h53 [o0, ta, tA] := K40.wr W53 (Or.inr sznb_19)
    obtain ⟨M53, Y53, N53⟩ : ∃ M, Stand p l e ({ frames := 2, cells := 2, slots := 8, locals := 33 } : Room) s m #[(.ref o0), (.long q1), (.long q2), (.int (4 : Int32))] below meth c T53 M 2 8 ∧ Fr n0 M := ⟨_, X53, N53⟩
    have V53 : JV Value.long Z h53 nb_19 .long v16 (updF gr_19 ((AtI (0 : Int32) sz v16)).toNatClampNeg q1) := f50.set W53
    have pre53 : Lead p e below G (T53.setTop (mkF m 92 #[.val (.ref o0), .val (.long q1), .second, .val (.long q2), .second, .val (.int (4 : Int32)), .val (.long (F6 fi sz nl bf gT)), .second, .val (.int v16), .val (.ref nb_19), .val (.ref nb_24)] [])) := fun t k => pre52 t (st53 _ k)
    have pre54 : Lead p e below G (T53.setTop (mkF m 93 #[.val (.ref o0), .val (.long q1), .second, .val (.long q2), .second, .val (.int (4 : Int32)), .val (.long (F6 fi sz nl bf gT)), .second, .val (.int v16), .val (.ref nb_19), .val (.ref nb_24)] [(.ref o0)])) := fun t k => by
      refine pre53 t ?_
      show Steps p.tables e below (T53.setTop (mkF m 92 #[.val (.ref o0), .val (.long q1), .second, .val (.long q2), .second, .val (.int (4 : Int32)), .val (.long (F6 fi sz nl bf gT)), .second, .val (.int v16), .val (.ref nb_19), .val (.ref nb_24)] [])) _
      refine XS.aloadN Y53.here hx rfl (hb hby d5_92) rfl rfl ?_
      show Steps p.tables e below (T53.setTop (mkF m 93 #[.val (.ref o0), .val (.long q1), .second, .val (.long q2), .second, .val (.int (4 : Int32)), .val (.long (F6 fi sz nl bf gT)), .second, .val (.int v16), .val (.ref nb_19), .val (.ref nb_24)] [(.ref o0)])) _
      exact k
    have f56 : Fld Z h53 o0 "com/example/lean_throttle/leanthrottle/TimeRing" "totals" "[J" (.ref nb_24) := ((Fw36.other W40 (Or.inr (slot_ne (Or.inl (hw _ (List.mem_of_getElem? (i := 17) rfl))) (Or.inl (hw _ (List.mem_of_getElem? (i := 41) rfl))) (by decide) (t := (.array .long)) (t' := .int) (by decide) (by decide)))).other W53 (Or.inl ne19_o0_nb_19))
    obtain ⟨T55, X55, e55, st55⟩ := getF Y53 hx hZ hown (host := "") (Or.inl (hw _ (List.mem_of_getElem? (i := 16) rfl))) Via.refl e53 f56 (g := (mkF m 93 #[.val (.ref o0), .val (.long q1), .second, .val (.long q2), .second, .val (.int (4 : Int32)), .val (.long (F6 fi sz nl bf gT)), .second, .val (.int v16), .val (.ref nb_19), .val (.ref nb_24)] [(.ref o0)])) rfl rfl (hb hby d5_93)
    have pre55 : Lead p e below G (T55.setTop (mkF m 96 #[.val (.ref o0), .val (.long q1), .second, .val (.long q2), .second, .val (.int (4 : Int32)), .val (.long (F6 fi sz nl bf gT)), .second, .val (.int v16), .val (.ref nb_19), .val (.ref nb_24)] [(.ref nb_24)])) := fun t k => pre54 t (st55 _ k)
    have pre57 : Lead p e below G (T55.setTop (mkF m 98 #[.val (.ref o0), .val (.long q1), .second, .val (.long q2), .second, .val (.int (4 : Int32)), .val (.long (F6 fi sz nl bf gT)), .second, .val (.int v16), .val (.ref nb_19), .val (.ref nb_24)] [(.ref o0), (.ref o0), (.ref nb_24)])) := fun t k => by
      refine pre55 t ?_
      show Steps p.tables e below (T55.setTop (mkF m 96 #[.val (.ref o0), .val (.long q1), .second, .val (.long q2), .second, .val (.int (4 : Int32)), .val (.long (F6 fi sz nl bf gT)), .second, .val (.int v16), .val (.ref nb_19), .val (.ref nb_24)] [(.ref nb_24)])) _
      refine XS.aloadN X55.here hx rfl (hb hby d5_96) rfl rfl ?_
      refine XS.aloadN X55.here hx rfl (hb hby d5_97) rfl rfl ?_
      exact k
    have f59 : Fld Z h53 o0 "com/example/lean_throttle/leanthrottle/TimeRing" "size" "I" (.int sz) := (f48.other W53 (Or.inl ne19_o0_nb_19))
    obtain ⟨T58, X58, e58, st58⟩ := getF X55 hx hZ hown (host := "") (Or.inl (hw _ (List.mem_of_getElem? (i := 32) rfl))) Via.refl e55 f59 (g := (mkF m 98 #[.val (.ref o0), .val (.long q1), .second, .val (.long q2), .second, .val (.int (4 : Int32)), .val (.long (F6 fi sz nl bf gT)), .second, .val (.int v16), .val (.ref nb_19), .val (.ref nb_24)] [(.ref o0), (.ref o0), (.ref nb_24)])) rfl rfl (hb hby d5_98)
    have pre58 : Lead p e below G (T58.setTop (mkF m 101 #[.val (.ref o0), .val (.long q1), .second, .val (.long q2), .second, .val (.int (4 : Int32)), .val (.long (F6 fi sz nl bf gT)), .second, .val (.int v16), .val (.ref nb_19), .val (.ref nb_24)] [(.int sz), (.ref o0), (.ref nb_24)])) := fun t k => pre57 t (st58 _ k)
    have f61 : Fld Z h53 o0 "com/example/lean_throttle/leanthrottle/TimeRing" "first" "I" (.int (0 : Int32)) := (Fw40.other W53 (Or.inl ne19_o0_nb_19))
    have f62 : Fld Z h53 o0 "com/example/lean_throttle/leanthrottle/TimeRing" "times" "[J" (.ref nb_19) := (f45.other W53 (Or.inl ne19_o0_nb_19))
    have f63 : Exa Z h53 o0 "com/example/lean_throttle/leanthrottle/TimeRing" := (f51.wr W53)
    obtain ⟨cq60, zq60, zq60'⟩ := f63.cell
    obtain ⟨_, _, ⟨T60, L60, k60, n60⟩, -, X60, ⟨Lc60, hQ60, l60, y60, z60⟩, st60⟩ := X58.privateBack hx (y := (⟨"com/example/lean_throttle/leanthrottle/TimeRing", "at", "(I)I"⟩ : MethodName)) hown (mvT hZ (hw _ (List.mem_of_getElem? (i := 36) rfl))) (mvT hZ (hw _ (List.mem_of_getElem? (i := 37) rfl))) (own_selp hZ (hw _ (List.mem_of_getElem? (i := 5) rfl)) (hw _ (List.mem_of_getElem? (i := 38) rfl)) (hw _ (List.mem_of_getElem? (i := 37) rfl)) (by decide)) (Cond.privateMethod_at (mvP hZ (hw _ (List.mem_of_getElem? (i := 38) rfl)) (args := #[]))) (mvT hZ (hw _ (List.mem_of_getElem? (i := 39) rfl))) (by decide) (backOf (W := 1) (rm7 l Z a0 hw [] o0 sz (0 : Int32) nb_19 v16 (updF gr_19 ((AtI (0 : Int32) sz v16)).toNatClampNeg q1) h53 n0 (Nat.le_trans Z0 K53.1) f61 f62 V53) hZ (hw _ (List.mem_of_getElem? (i := 39) rfl)) (hw _ (List.mem_of_getElem? (i := 6) rfl)) (by decide) (by decide)) (g := (mkF m 101 #[.val (.ref o0), .val (.long q1), .second, .val (.long q2), .second, .val (.int (4 : Int32)), .val (.long (F6 fi sz nl bf gT)), .second, .val (.int v16), .val (.ref nb_19), .val (.ref nb_24)] [(.int sz), (.ref o0), (.ref nb_24)])) rfl (by rw [hml]; rfl) (Steps.refl _) (a := o0) (by rw [e58]; exact zq60) zq60' (argsL := [(.int sz)]) (rest := [(.ref nb_24)]) (lenOf pd__28_I_29_I rfl) rfl (by show 2 * 0 + _ ≤ _; exact Nat.le_of_eq rfl) (hb hby d5_101) (fun _ _ => ⟨rfl, e58, (by decide : 2 + 0 ≤ _), (by decide : 8 + 0 ≤ _)⟩)
    dsimp only [Pt.U, Pt.locs, Pt.cells, Pt.slots] at X60 l60 y60 z60 st60 hQ60
    subst l60 y60 z60
    obtain ⟨rfl, N60q, e60⟩ := hQ60
    have N60 := Fr.app N53 N60q
    obtain ⟨M60, Y60, N60⟩ : ∃ M, Stand p l e ({ frames := 2, cells := 2, slots := 8, locals := 33 } : Room) s m #[(.ref o0), (.long q1), (.long q2), (.int (4 : Int32))] below meth c T60 M 2 8 ∧ Fr n0 M := ⟨_, X60, N60⟩
    have pre60 : Lead p e below G (T60.setTop (mkF m 104 #[.val (.ref o0), .val (.long q1), .second, .val (.long q2), .second, .val (.int (4 : Int32)), .val (.long (F6 fi sz nl bf gT)), .second, .val (.int v16), .val (.ref nb_19), .val (.ref nb_24)] [(.int (AtI (0 : Int32) sz v16)), (.ref nb_24)])) := fun t k => pre58 t (st60.trans k)
    have pre64 : Lead p e below G (T60.setTop (mkF m 108 #[.val (.ref o0), .val (.long q1), .second, .val (.long q2), .second, .val (.int (4 : Int32)), .val (.long (F6 fi sz nl bf gT)), .second, .val (.int v16), .val (.ref nb_19), .val (.ref nb_24)] [(.long ((F6 fi sz nl bf gT) + q2)), (.int (AtI (0 : Int32) sz v16)), (.ref nb_24)])) := fun t k => by
      refine pre60 t ?_
      show Steps p.tables e below (T60.setTop (mkF m 104 #[.val (.ref o0), .val (.long q1), .second, .val (.long q2), .second, .val (.int (4 : Int32)), .val (.long (F6 fi sz nl bf gT)), .second, .val (.int v16), .val (.ref nb_19), .val (.ref nb_24)] [(.int (AtI (0 : Int32) sz v16)), (.ref nb_24)])) _
      refine XS.lload Y60.here hx rfl (hb hby d5_104) rfl ?_
      show Steps p.tables e below (T60.setTop (mkF m 106 #[.val (.ref o0), .val (.long q1), .second, .val (.long q2), .second, .val (.int (4 : Int32)), .val (.long (F6 fi sz nl bf gT)), .second, .val (.int v16), .val (.ref nb_19), .val (.ref nb_24)] [(.long (F6 fi sz nl bf gT)), (.int (AtI (0 : Int32) sz v16)), (.ref nb_24)])) _
      refine XS.lloadN Y60.here hx rfl (hb hby d5_106) rfl ?_
      refine XS.ladd Y60.here hx rfl (hb hby d5_107) rfl ?_
      exact k
    have f66 : JV Value.long Z h53 nb_24 .long v16 gr_24 := ((((c24_1.other W32 (Ne.symm ne24_o0_nb_24)).other W36 (Ne.symm ne24_o0_nb_24)).other W40 (Ne.symm ne24_o0_nb_24)).other W53 (Ne.symm ne24_nb_19_nb_24))
    obtain ⟨cl65, Ar65, hin65, -⟩ := f66.in (j := (AtI (0 : Int32) sz v16)) (by subst hv16; exact (own_nb (f := 0) (i := sz) (l := GL nl) (by have g := own_gl hlen (by have q := own_eqi hs15_9; omega); have z : (0 : Int32).toInt = 0 := (by decide); omega) (by have q := own_eqi hs15_9; have g := own_gl hlen (by have q := own_eqi hs15_9; omega); omega) (own_gb hlen (by have q := own_eqi hs15_9; omega)).2.2.2))
    obtain ⟨T65, h65, X65, e65, W65, st65⟩ := stJ Y60 hx hZ e60 Ar65 (j := (AtI (0 : Int32) sz v16)) hin65 (g := (mkF m 108 #[.val (.ref o0), .val (.long q1), .second, .val (.long q2), .second, .val (.int (4 : Int32)), .val (.long (F6 fi sz nl bf gT)), .second, .val (.int v16), .val (.ref nb_19), .val (.ref nb_24)] [(.long ((F6 fi sz nl bf gT) + q2)), (.int (AtI (0 : Int32) sz v16)), (.ref nb_24)])) rfl rfl (hb hby d5_108)
    have N65 := Fr.snoc X65 N60 genb_24
    have K65 : Keep h0 h65 [o0, ta, tA] := K53.wr W65 (Or.inr sznb_24)
    obtain ⟨M65, Y65, N65⟩ : ∃ M, Stand p l e ({ frames := 2, cells := 2, slots := 8, locals := 33 } : Room) s m #[(.ref o0), (.long q1), (.long q2), (.int (4 : Int32))] below meth c T65 M 2 8 ∧ Fr n0 M := ⟨_, X65, N65⟩
    obtain ⟨g65, hg65⟩ : ∃ z, z = (updF gr_24 ((AtI (0 : Int32) sz v16)).toNatClampNeg ((F6 fi sz nl bf gT) + q2)) := ⟨_, rfl⟩
    have V65 : JV Value.long Z h65 nb_24 .long v16 g65 := by rw [hg65]; exact f66.set W65
    have pre65 : Lead p e below G (T65.setTop (mkF m 109 #[.val (.ref o0), .val (.long q1), .second, .val (.long q2), .second, .val (.int (4 : Int32)), .val (.long (F6 fi sz nl bf gT)), .second, .val (.int v16), .val (.ref nb_19), .val (.ref nb_24)] [])) := fun t k => pre64 t (st65 _ k)
    have pre67 : Lead p e below G (T65.setTop (mkF m 111 #[.val (.ref o0), .val (.long q1), .second, .val (.long q2), .second, .val (.int (4 : Int32)), .val (.long (F6 fi sz nl bf gT)), .second, .val (.int v16), .val (.ref nb_19), .val (.ref nb_24)] [(.ref o0), (.ref o0)])) := fun t k => by
      refine pre65 t ?_
      show Steps p.tables e below (T65.setTop (mkF m 109 #[.val (.ref o0), .val (.long q1), .second, .val (.long q2), .second, .val (.int (4 : Int32)), .val (.long (F6 fi sz nl bf gT)), .second, .val (.int v16), .val (.ref nb_19), .val (.ref nb_24)] [])) _
      refine XS.aloadN Y65.here hx rfl (hb hby d5_109) rfl rfl ?_
      show Steps p.tables e below (T65.setTop (mkF m 110 #[.val (.ref o0), .val (.long q1), .second, .val (.long q2), .second, .val (.int (4 : Int32)), .val (.long (F6 fi sz nl bf gT)), .second, .val (.int v16), .val (.ref nb_19), .val (.ref nb_24)] [(.ref o0)])) _
      refine XS.dup Y65.here hx rfl (hb hby d5_110) rfl rfl ?_
      exact k
    have f69 : Fld Z h65 o0 "com/example/lean_throttle/leanthrottle/TimeRing" "size" "I" (.int sz) := (f59.other W65 (Or.inl ne24_o0_nb_24))
    obtain ⟨T68, X68, e68, st68⟩ := getF Y65 hx hZ hown (host := "") (Or.inl (hw _ (List.mem_of_getElem? (i := 32) rfl))) Via.refl e65 f69 (g := (mkF m 111 #[.val (.ref o0), .val (.long q1), .second, .val (.long q2), .second, .val (.int (4 : Int32)), .val (.long (F6 fi sz nl bf gT)), .second, .val (.int v16), .val (.ref nb_19), .val (.ref nb_24)] [(.ref o0), (.ref o0)])) rfl rfl (hb hby d5_111)
    have pre68 : Lead p e below G (T68.setTop (mkF m 114 #[.val (.ref o0), .val (.long q1), .second, .val (.long q2), .second, .val (.int (4 : Int32)), .val (.long (F6 fi sz nl bf gT)), .second, .val (.int v16), .val (.ref nb_19), .val (.ref nb_24)] [(.int sz), (.ref o0)])) := fun t k => pre67 t (st68 _ k)
    have pre70 : Lead p e below G (T68.setTop (mkF m 116 #[.val (.ref o0), .val (.long q1), .second, .val (.long q2), .second, .val (.int (4 : Int32)), .val (.long (F6 fi sz nl bf gT)), .second, .val (.int v16), .val (.ref nb_19), .val (.ref nb_24)] [(.int (sz + (1 : Int32))), (.ref o0)])) := fun t k => by
      refine pre68 t ?_
      show Steps p.tables e below (T68.setTop (mkF m 114 #[.val (.ref o0), .val (.long q1), .second, .val (.long q2), .second, .val (.int (4 : Int32)), .val (.long (F6 fi sz nl bf gT)), .second, .val (.int v16), .val (.ref nb_19), .val (.ref nb_24)] [(.int sz), (.ref o0)])) _
      refine XS.iconst X68.here hx rfl (hb hby d5_114) ?_
      refine XS.iadd X68.here hx rfl (hb hby d5_115) rfl ?_
      show Steps p.tables e below (T68.setTop (mkF m 116 #[.val (.ref o0), .val (.long q1), .second, .val (.long q2), .second, .val (.int (4 : Int32)), .val (.long (F6 fi sz nl bf gT)), .second, .val (.int v16), .val (.ref nb_19), .val (.ref nb_24)] [(.int (sz + (1 : Int32))), (.ref o0)])) _
      exact k
    have f72 : Exa Z h65 o0 "com/example/lean_throttle/leanthrottle/TimeRing" := (f63.wr W65)
    obtain ⟨T71, h71, X71, e71, W71, st71⟩ := putF X68 hx hZ hown (host := "") (Or.inl (hw _ (List.mem_of_getElem? (i := 32) rfl))) Via.refl e68 f69 f72 (Or.inl (hw _ (List.mem_of_getElem? (i := 33) rfl))) (hw _ (List.mem_of_getElem? (i := 5) rfl)) (ty := .int) (by decide) rfl rfl (g := (mkF m 116 #[.val (.ref o0), .val (.long q1), .second, .val (.long q2), .second, .val (.int (4 : Int32)), .val (.long (F6 fi sz nl bf gT)), .second, .val (.int v16), .val (.ref nb_19), .val (.ref nb_24)] [(.int (sz + (1 : Int32))), (.ref o0)])) rfl rfl (hb hby d5_116)
    have N71 := Fr.snoc X71 N65 P16_G
    have K71 : Keep h0 h71 [o0, ta, tA] := K65.wr W71 (Or.inl (List.mem_of_getElem? (i := 0) rfl))
    obtain ⟨M71, Y71, N71⟩ : ∃ M, Stand p l e ({ frames := 2, cells := 2, slots := 8, locals := 33 } : Room) s m #[(.ref o0), (.long q1), (.long q2), (.int (4 : Int32))] below meth c T71 M 2 8 ∧ Fr n0 M := ⟨_, X71, N71⟩
    have Fw71 : Fld Z h71 o0 "com/example/lean_throttle/leanthrottle/TimeRing" "size" "I" (.int (sz + (1 : Int32))) := f69.same W71
    have pre71 : Lead p e below G (T71.setTop (mkF m 119 #[.val (.ref o0), .val (.long q1), .second, .val (.long q2), .second, .val (.int (4 : Int32)), .val (.long (F6 fi sz nl bf gT)), .second, .val (.int v16), .val (.ref nb_19), .val (.ref nb_24)] [])) := fun t k => pre70 t (st71 _ k)
    obtain ⟨fs, hr, hrun, hended, hW, hsame⟩ := Y71.leave (v := none) (fun _ => rfl)
    have preF : Lead p e below (s₁.setTop (entryFrame m #[(.ref o0), (.long q1), (.long q2), (.int (4 : Int32))] 11)) (T71.setTop (mkF m 119 #[.val (.ref o0), .val (.long q1), .second, .val (.long q2), .second, .val (.int (4 : Int32)), .val (.long (F6 fi sz nl bf gT)), .second, .val (.int v16), .val (.ref nb_19), .val (.ref nb_24)] [])) := by rw [← hG]; exact pre71
    refine ⟨_, _, preF _ ?_, hrun, hended, _, _, rfl, ?_, ⟨_, rfl⟩, hW, hsame.mono (by decide) (by decide)⟩
    · show Steps p.tables e below (T71.setTop (mkF m 119 #[.val (.ref o0), .val (.long q1), .second, .val (.long q2), .second, .val (.int (4 : Int32)), .val (.long (F6 fi sz nl bf gT)), .second, .val (.int v16), .val (.ref nb_19), .val (.ref nb_24)] [])) _
      exact Y71.returnOut hx Bd.returns (hb hby d5_119) hr
    · show Q5 Z o0 q1 q2 ta tA fi sz nl bf gt gT h0 n0 _ T71.heap _
      rw [e71]
      have f73 : Exa Z h71 o0 "com/example/lean_throttle/leanthrottle/TimeRing" := (f72.wr W71)
      have f74 : Fld Z h71 o0 "com/example/lean_throttle/leanthrottle/TimeRing" "times" "[J" (.ref nb_19) := ((f62.other W65 (Or.inl ne24_o0_nb_24)).other W71 (Or.inr (slot_ne (Or.inl (hw _ (List.mem_of_getElem? (i := 15) rfl))) (Or.inl (hw _ (List.mem_of_getElem? (i := 33) rfl))) (by decide) (t := (.array .long)) (t' := .int) (by decide) (by decide))))
      have f75 : Fld Z h71 o0 "com/example/lean_throttle/leanthrottle/TimeRing" "totals" "[J" (.ref nb_24) := ((f56.other W65 (Or.inl ne24_o0_nb_24)).other W71 (Or.inr (slot_ne (Or.inl (hw _ (List.mem_of_getElem? (i := 17) rfl))) (Or.inl (hw _ (List.mem_of_getElem? (i := 33) rfl))) (by decide) (t := (.array .long)) (t' := .int) (by decide) (by decide))))
      have f76 : Fld Z h71 o0 "com/example/lean_throttle/leanthrottle/TimeRing" "first" "I" (.int (0 : Int32)) := ((f61.other W65 (Or.inl ne24_o0_nb_24)).other W71 (Or.inr (slot_ne (Or.inl (hw _ (List.mem_of_getElem? (i := 41) rfl))) (Or.inl (hw _ (List.mem_of_getElem? (i := 33) rfl))) (by decide) (t := .int) (t' := .int) (by decide) (by decide))))
      have f77 : Fld Z h71 o0 "com/example/lean_throttle/leanthrottle/TimeRing" "totalBefore" "J" (.long bf) := ((((((((P5_F.keep K19c nin0).keep K24c nin0).other W32 (Or.inr (slot_ne (Or.inl (hw _ (List.mem_of_getElem? (i := 35) rfl))) (Or.inl (hw _ (List.mem_of_getElem? (i := 15) rfl))) (by decide) (t := .long) (t' := (.array .long)) (by decide) (by decide)))).other W36 (Or.inr (slot_ne (Or.inl (hw _ (List.mem_of_getElem? (i := 35) rfl))) (Or.inl (hw _ (List.mem_of_getElem? (i := 17) rfl))) (by decide) (t := .long) (t' := (.array .long)) (by decide) (by decide)))).other W40 (Or.inr (slot_ne (Or.inl (hw _ (List.mem_of_getElem? (i := 35) rfl))) (Or.inl (hw _ (List.mem_of_getElem? (i := 41) rfl))) (by decide) (t := .long) (t' := .int) (by decide) (by decide)))).other W53 (Or.inl ne19_o0_nb_19)).other W65 (Or.inl ne24_o0_nb_24)).other W71 (Or.inr (slot_ne (Or.inl (hw _ (List.mem_of_getElem? (i := 35) rfl))) (Or.inl (hw _ (List.mem_of_getElem? (i := 33) rfl))) (by decide) (t := .long) (t' := .int) (by decide) (by decide))))
      have f78 : JV Value.long Z h71 nb_19 .long v16 (updF gr_19 ((AtI (0 : Int32) sz v16)).toNatClampNeg q1) := ((V53.other W65 ne24_nb_19_nb_24).other W71 (Ne.symm ne19_o0_nb_19))
      have f79 : JV Value.long Z h71 nb_24 .long v16 g65 := (V65.other W71 (Ne.symm ne24_o0_nb_24))
      exact ⟨nb_19, nb_24, (0 : Int32), v16, (updF gr_19 ((AtI (0 : Int32) sz v16)).toNatClampNeg q1), g65, rfl, N71, K71, f73, f74, f75, f76, Fw71, f77, f78, f79, genb_19, genb_24, ne19_o0_nb_19, ne24_o0_nb_24, ne24_nb_19_nb_24, (by subst hg65 hv16; exact (Or.inr ⟨hs15_9, rfl, rfl, _, _, c19_2, c24_2, rfl, rfl⟩))⟩
  · have pre80 : Lead p e below G (T6.setTop (mkF m 79 #[.val (.ref o0), .val (.long q1), .second, .val (.long q2), .second, .val (.int (4 : Int32)), .val (.long (F6 fi sz nl bf gT)), .second, .unset, .unset, .unset] [(.ref o0)])) := fun t k => by
      refine pre7 t ?_
      show Steps p.tables e below (T6.setTop (mkF m 15 #[.val (.ref o0), .val (.long q1), .second, .val (.long q2), .second, .val (.int (4 : Int32)), .val (.long (F6 fi sz nl bf gT)), .second, .unset, .unset, .unset] [(.int nl), (.int sz)])) _
      refine XS.icmpYes X6.here hx rfl (pc0 := 15) (pc' := 78) rfl (hb hby d5_15) rfl (feq hs15_9).2 (by decide) (by decide) ?_
      refine XS.aloadN X6.here hx rfl (hb hby d5_78) rfl rfl ?_
      exact k
    obtain ⟨T81, X81, e81, st81⟩ := getF X6 hx hZ hown (host := "") (Or.inl (hw _ (List.mem_of_getElem? (i := 14) rfl))) Via.refl e6 P1_F (g := (mkF m 79 #[.val (.ref o0), .val (.long q1), .second, .val (.long q2), .second, .val (.int (4 : Int32)), .val (.long (F6 fi sz nl bf gT)), .second, .unset, .unset, .unset] [(.ref o0)])) rfl rfl (hb hby d5_79)
    have pre81 : Lead p e below G (T81.setTop (mkF m 82 #[.val (.ref o0), .val (.long q1), .second, .val (.long q2), .second, .val (.int (4 : Int32)), .val (.long (F6 fi sz nl bf gT)), .second, .unset, .unset, .unset] [(.ref ta)])) := fun t k => pre80 t (st81 _ k)
    have pre82 : Lead p e below G (T81.setTop (mkF m 84 #[.val (.ref o0), .val (.long q1), .second, .val (.long q2), .second, .val (.int (4 : Int32)), .val (.long (F6 fi sz nl bf gT)), .second, .unset, .unset, .unset] [(.ref o0), (.ref o0), (.ref ta)])) := fun t k => by
      refine pre81 t ?_
      show Steps p.tables e below (T81.setTop (mkF m 82 #[.val (.ref o0), .val (.long q1), .second, .val (.long q2), .second, .val (.int (4 : Int32)), .val (.long (F6 fi sz nl bf gT)), .second, .unset, .unset, .unset] [(.ref ta)])) _
      refine XS.aloadN X81.here hx rfl (hb hby d5_82) rfl rfl ?_
      show Steps p.tables e below (T81.setTop (mkF m 83 #[.val (.ref o0), .val (.long q1), .second, .val (.long q2), .second, .val (.int (4 : Int32)), .val (.long (F6 fi sz nl bf gT)), .second, .unset, .unset, .unset] [(.ref o0), (.ref ta)])) _
      refine XS.aloadN X81.here hx rfl (hb hby d5_83) rfl rfl ?_
      exact k
    obtain ⟨T83, X83, e83, st83⟩ := getF X81 hx hZ hown (host := "") (Or.inl (hw _ (List.mem_of_getElem? (i := 32) rfl))) Via.refl e81 P4_F (g := (mkF m 84 #[.val (.ref o0), .val (.long q1), .second, .val (.long q2), .second, .val (.int (4 : Int32)), .val (.long (F6 fi sz nl bf gT)), .second, .unset, .unset, .unset] [(.ref o0), (.ref o0), (.ref ta)])) rfl rfl (hb hby d5_84)
    have pre83 : Lead p e below G (T83.setTop (mkF m 87 #[.val (.ref o0), .val (.long q1), .second, .val (.long q2), .second, .val (.int (4 : Int32)), .val (.long (F6 fi sz nl bf gT)), .second, .unset, .unset, .unset] [(.int sz), (.ref o0), (.ref ta)])) := fun t k => pre82 t (st83 _ k)
    obtain ⟨cq84, zq84, zq84'⟩ := P0_E.cell
    obtain ⟨_, _, ⟨T84, L84, k84, n84⟩, -, X84, ⟨Lc84, hQ84, l84, y84, z84⟩, st84⟩ := X83.privateBack hx (y := (⟨"com/example/lean_throttle/leanthrottle/TimeRing", "at", "(I)I"⟩ : MethodName)) hown (mvT hZ (hw _ (List.mem_of_getElem? (i := 36) rfl))) (mvT hZ (hw _ (List.mem_of_getElem? (i := 37) rfl))) (own_selp hZ (hw _ (List.mem_of_getElem? (i := 5) rfl)) (hw _ (List.mem_of_getElem? (i := 38) rfl)) (hw _ (List.mem_of_getElem? (i := 37) rfl)) (by decide)) (Cond.privateMethod_at (mvP hZ (hw _ (List.mem_of_getElem? (i := 38) rfl)) (args := #[]))) (mvT hZ (hw _ (List.mem_of_getElem? (i := 39) rfl))) (by decide) (backOf (W := 1) (rm7 l Z a0 hw [] o0 sz fi ta nl gt h0 n0 (Nat.le_trans Z0 K0.1) P3_F P1_F P6_V) hZ (hw _ (List.mem_of_getElem? (i := 39) rfl)) (hw _ (List.mem_of_getElem? (i := 6) rfl)) (by decide) (by decide)) (g := (mkF m 87 #[.val (.ref o0), .val (.long q1), .second, .val (.long q2), .second, .val (.int (4 : Int32)), .val (.long (F6 fi sz nl bf gT)), .second, .unset, .unset, .unset] [(.int sz), (.ref o0), (.ref ta)])) rfl (by rw [hml]; rfl) (Steps.refl _) (a := o0) (by rw [e83]; exact zq84) zq84' (argsL := [(.int sz)]) (rest := [(.ref ta)]) (lenOf pd__28_I_29_I rfl) rfl (by show 2 * 0 + _ ≤ _; exact Nat.le_of_eq rfl) (hb hby d5_87) (fun _ _ => ⟨rfl, e83, (by decide : 0 + 0 ≤ _), (by decide : 0 + 0 ≤ _)⟩)
    dsimp only [Pt.U, Pt.locs, Pt.cells, Pt.slots] at X84 l84 y84 z84 st84 hQ84
    subst l84 y84 z84
    obtain ⟨rfl, N84q, e84⟩ := hQ84
    have N84 := Fr.app N2 N84q
    obtain ⟨M84, Y84, N84⟩ : ∃ M, Stand p l e ({ frames := 2, cells := 2, slots := 8, locals := 33 } : Room) s m #[(.ref o0), (.long q1), (.long q2), (.int (4 : Int32))] below meth c T84 M 0 0 ∧ Fr n0 M := ⟨_, X84, N84⟩
    have pre84 : Lead p e below G (T84.setTop (mkF m 90 #[.val (.ref o0), .val (.long q1), .second, .val (.long q2), .second, .val (.int (4 : Int32)), .val (.long (F6 fi sz nl bf gT)), .second, .unset, .unset, .unset] [(.int (AtI fi sz nl)), (.ref ta)])) := fun t k => pre83 t (st84.trans k)
    have pre85 : Lead p e below G (T84.setTop (mkF m 91 #[.val (.ref o0), .val (.long q1), .second, .val (.long q2), .second, .val (.int (4 : Int32)), .val (.long (F6 fi sz nl bf gT)), .second, .unset, .unset, .unset] [(.long q1), (.int (AtI fi sz nl)), (.ref ta)])) := fun t k => by
      refine pre84 t ?_
      show Steps p.tables e below (T84.setTop (mkF m 90 #[.val (.ref o0), .val (.long q1), .second, .val (.long q2), .second, .val (.int (4 : Int32)), .val (.long (F6 fi sz nl bf gT)), .second, .unset, .unset, .unset] [(.int (AtI fi sz nl)), (.ref ta)])) _
      refine XS.lloadN Y84.here hx rfl (hb hby d5_90) rfl ?_
      exact k
    obtain ⟨cl86, Ar86, hin86, -⟩ := P6_V.in (j := (AtI fi sz nl)) (by skip; exact (own_nb hfi ⟨hsz.1, by have q := own_nei hs15_9; omega⟩ hl4))
    obtain ⟨T86, h86, X86, e86, W86, st86⟩ := stJ Y84 hx hZ e84 Ar86 (j := (AtI fi sz nl)) hin86 (g := (mkF m 91 #[.val (.ref o0), .val (.long q1), .second, .val (.long q2), .second, .val (.int (4 : Int32)), .val (.long (F6 fi sz nl bf gT)), .second, .unset, .unset, .unset] [(.long q1), (.int (AtI fi sz nl)), (.ref ta)])) rfl rfl (hb hby d5_91)
    have N86 := Fr.snoc X86 N84 P17_G
    have K86 : Keep h0 h86 [o0, ta, tA] := K0.wr W86 (Or.inl (List.mem_of_getElem? (i := 1) rfl))
    obtain ⟨M86, Y86, N86⟩ : ∃ M, Stand p l e ({ frames := 2, cells := 2, slots := 8, locals := 33 } : Room) s m #[(.ref o0), (.long q1), (.long q2), (.int (4 : Int32))] below meth c T86 M 0 0 ∧ Fr n0 M := ⟨_, X86, N86⟩
    have V86 : JV Value.long Z h86 ta .long nl (updF gt ((AtI fi sz nl)).toNatClampNeg q1) := P6_V.set W86
    have pre86 : Lead p e below G (T86.setTop (mkF m 92 #[.val (.ref o0), .val (.long q1), .second, .val (.long q2), .second, .val (.int (4 : Int32)), .val (.long (F6 fi sz nl bf gT)), .second, .unset, .unset, .unset] [])) := fun t k => pre85 t (st86 _ k)
    have pre87 : Lead p e below G (T86.setTop (mkF m 93 #[.val (.ref o0), .val (.long q1), .second, .val (.long q2), .second, .val (.int (4 : Int32)), .val (.long (F6 fi sz nl bf gT)), .second, .unset, .unset, .unset] [(.ref o0)])) := fun t k => by
      refine pre86 t ?_
      show Steps p.tables e below (T86.setTop (mkF m 92 #[.val (.ref o0), .val (.long q1), .second, .val (.long q2), .second, .val (.int (4 : Int32)), .val (.long (F6 fi sz nl bf gT)), .second, .unset, .unset, .unset] [])) _
      refine XS.aloadN Y86.here hx rfl (hb hby d5_92) rfl rfl ?_
      show Steps p.tables e below (T86.setTop (mkF m 93 #[.val (.ref o0), .val (.long q1), .second, .val (.long q2), .second, .val (.int (4 : Int32)), .val (.long (F6 fi sz nl bf gT)), .second, .unset, .unset, .unset] [(.ref o0)])) _
      exact k
    have f89 : Fld Z h86 o0 "com/example/lean_throttle/leanthrottle/TimeRing" "totals" "[J" (.ref tA) := (P2_F.other W86 (Or.inl P8_NE))
    obtain ⟨T88, X88, e88, st88⟩ := getF Y86 hx hZ hown (host := "") (Or.inl (hw _ (List.mem_of_getElem? (i := 16) rfl))) Via.refl e86 f89 (g := (mkF m 93 #[.val (.ref o0), .val (.long q1), .second, .val (.long q2), .second, .val (.int (4 : Int32)), .val (.long (F6 fi sz nl bf gT)), .second, .unset, .unset, .unset] [(.ref o0)])) rfl rfl (hb hby d5_93)
    have pre88 : Lead p e below G (T88.setTop (mkF m 96 #[.val (.ref o0), .val (.long q1), .second, .val (.long q2), .second, .val (.int (4 : Int32)), .val (.long (F6 fi sz nl bf gT)), .second, .unset, .unset, .unset] [(.ref tA)])) := fun t k => pre87 t (st88 _ k)
    have pre90 : Lead p e below G (T88.setTop (mkF m 98 #[.val (.ref o0), .val (.long q1), .second, .val (.long q2), .second, .val (.int (4 : Int32)), .val (.long (F6 fi sz nl bf gT)), .second, .unset, .unset, .unset] [(.ref o0), (.ref o0), (.ref tA)])) := fun t k => by
      refine pre88 t ?_
      show Steps p.tables e below (T88.setTop (mkF m 96 #[.val (.ref o0), .val (.long q1), .second, .val (.long q2), .second, .val (.int (4 : Int32)), .val (.long (F6 fi sz nl bf gT)), .second, .unset, .unset, .unset] [(.ref tA)])) _
      refine XS.aloadN X88.here hx rfl (hb hby d5_96) rfl rfl ?_
      refine XS.aloadN X88.here hx rfl (hb hby d5_97) rfl rfl ?_
      exact k
    have f92 : Fld Z h86 o0 "com/example/lean_throttle/leanthrottle/TimeRing" "size" "I" (.int sz) := (P4_F.other W86 (Or.inl P8_NE))
    obtain ⟨T91, X91, e91, st91⟩ := getF X88 hx hZ hown (host := "") (Or.inl (hw _ (List.mem_of_getElem? (i := 32) rfl))) Via.refl e88 f92 (g := (mkF m 98 #[.val (.ref o0), .val (.long q1), .second, .val (.long q2), .second, .val (.int (4 : Int32)), .val (.long (F6 fi sz nl bf gT)), .second, .unset, .unset, .unset] [(.ref o0), (.ref o0), (.ref tA)])) rfl rfl (hb hby d5_98)
    have pre91 : Lead p e below G (T91.setTop (mkF m 101 #[.val (.ref o0), .val (.long q1), .second, .val (.long q2), .second, .val (.int (4 : Int32)), .val (.long (F6 fi sz nl bf gT)), .second, .unset, .unset, .unset] [(.int sz), (.ref o0), (.ref tA)])) := fun t k => pre90 t (st91 _ k)
    have f94 : Fld Z h86 o0 "com/example/lean_throttle/leanthrottle/TimeRing" "first" "I" (.int fi) := (P3_F.other W86 (Or.inl P8_NE))
    have f95 : Fld Z h86 o0 "com/example/lean_throttle/leanthrottle/TimeRing" "times" "[J" (.ref ta) := (P1_F.other W86 (Or.inl P8_NE))
    have f96 : Exa Z h86 o0 "com/example/lean_throttle/leanthrottle/TimeRing" := (P0_E.wr W86)
    obtain ⟨cq93, zq93, zq93'⟩ := f96.cell
    obtain ⟨_, _, ⟨T93, L93, k93, n93⟩, -, X93, ⟨Lc93, hQ93, l93, y93, z93⟩, st93⟩ := X91.privateBack hx (y := (⟨"com/example/lean_throttle/leanthrottle/TimeRing", "at", "(I)I"⟩ : MethodName)) hown (mvT hZ (hw _ (List.mem_of_getElem? (i := 36) rfl))) (mvT hZ (hw _ (List.mem_of_getElem? (i := 37) rfl))) (own_selp hZ (hw _ (List.mem_of_getElem? (i := 5) rfl)) (hw _ (List.mem_of_getElem? (i := 38) rfl)) (hw _ (List.mem_of_getElem? (i := 37) rfl)) (by decide)) (Cond.privateMethod_at (mvP hZ (hw _ (List.mem_of_getElem? (i := 38) rfl)) (args := #[]))) (mvT hZ (hw _ (List.mem_of_getElem? (i := 39) rfl))) (by decide) (backOf (W := 1) (rm7 l Z a0 hw [] o0 sz fi ta nl (updF gt ((AtI fi sz nl)).toNatClampNeg q1) h86 n0 (Nat.le_trans Z0 K86.1) f94 f95 V86) hZ (hw _ (List.mem_of_getElem? (i := 39) rfl)) (hw _ (List.mem_of_getElem? (i := 6) rfl)) (by decide) (by decide)) (g := (mkF m 101 #[.val (.ref o0), .val (.long q1), .second, .val (.long q2), .second, .val (.int (4 : Int32)), .val (.long (F6 fi sz nl bf gT)), .second, .unset, .unset, .unset] [(.int sz), (.ref o0), (.ref tA)])) rfl (by rw [hml]; rfl) (Steps.refl _) (a := o0) (by rw [e91]; exact zq93) zq93' (argsL := [(.int sz)]) (rest := [(.ref tA)]) (lenOf pd__28_I_29_I rfl) rfl (by show 2 * 0 + _ ≤ _; exact Nat.le_of_eq rfl) (hb hby d5_101) (fun _ _ => ⟨rfl, e91, (by decide : 0 + 0 ≤ _), (by decide : 0 + 0 ≤ _)⟩)
    dsimp only [Pt.U, Pt.locs, Pt.cells, Pt.slots] at X93 l93 y93 z93 st93 hQ93
    subst l93 y93 z93
    obtain ⟨rfl, N93q, e93⟩ := hQ93
    have N93 := Fr.app N86 N93q
    obtain ⟨M93, Y93, N93⟩ : ∃ M, Stand p l e ({ frames := 2, cells := 2, slots := 8, locals := 33 } : Room) s m #[(.ref o0), (.long q1), (.long q2), (.int (4 : Int32))] below meth c T93 M 0 0 ∧ Fr n0 M := ⟨_, X93, N93⟩
    have pre93 : Lead p e below G (T93.setTop (mkF m 104 #[.val (.ref o0), .val (.long q1), .second, .val (.long q2), .second, .val (.int (4 : Int32)), .val (.long (F6 fi sz nl bf gT)), .second, .unset, .unset, .unset] [(.int (AtI fi sz nl)), (.ref tA)])) := fun t k => pre91 t (st93.trans k)
    have pre97 : Lead p e below G (T93.setTop (mkF m 108 #[.val (.ref o0), .val (.long q1), .second, .val (.long q2), .second, .val (.int (4 : Int32)), .val (.long (F6 fi sz nl bf gT)), .second, .unset, .unset, .unset] [(.long ((F6 fi sz nl bf gT) + q2)), (.int (AtI fi sz nl)), (.ref tA)])) := fun t k => by
      refine pre93 t ?_
      show Steps p.tables e below (T93.setTop (mkF m 104 #[.val (.ref o0), .val (.long q1), .second, .val (.long q2), .second, .val (.int (4 : Int32)), .val (.long (F6 fi sz nl bf gT)), .second, .unset, .unset, .unset] [(.int (AtI fi sz nl)), (.ref tA)])) _
      refine XS.lload Y93.here hx rfl (hb hby d5_104) rfl ?_
      show Steps p.tables e below (T93.setTop (mkF m 106 #[.val (.ref o0), .val (.long q1), .second, .val (.long q2), .second, .val (.int (4 : Int32)), .val (.long (F6 fi sz nl bf gT)), .second, .unset, .unset, .unset] [(.long (F6 fi sz nl bf gT)), (.int (AtI fi sz nl)), (.ref tA)])) _
      refine XS.lloadN Y93.here hx rfl (hb hby d5_106) rfl ?_
      refine XS.ladd Y93.here hx rfl (hb hby d5_107) rfl ?_
      exact k
    have f99 : JV Value.long Z h86 tA .long nl gT := (P7_V.other W86 (Ne.symm P10_NE))
    obtain ⟨cl98, Ar98, hin98, -⟩ := f99.in (j := (AtI fi sz nl)) (by skip; exact (own_nb hfi ⟨hsz.1, by have q := own_nei hs15_9; omega⟩ hl4))
    obtain ⟨T98, h98, X98, e98, W98, st98⟩ := stJ Y93 hx hZ e93 Ar98 (j := (AtI fi sz nl)) hin98 (g := (mkF m 108 #[.val (.ref o0), .val (.long q1), .second, .val (.long q2), .second, .val (.int (4 : Int32)), .val (.long (F6 fi sz nl bf gT)), .second, .unset, .unset, .unset] [(.long ((F6 fi sz nl bf gT) + q2)), (.int (AtI fi sz nl)), (.ref tA)])) rfl rfl (hb hby d5_108)
    have N98 := Fr.snoc X98 N93 P18_G
    have K98 : Keep h0 h98 [o0, ta, tA] := K86.wr W98 (Or.inl (List.mem_of_getElem? (i := 2) rfl))
    obtain ⟨M98, Y98, N98⟩ : ∃ M, Stand p l e ({ frames := 2, cells := 2, slots := 8, locals := 33 } : Room) s m #[(.ref o0), (.long q1), (.long q2), (.int (4 : Int32))] below meth c T98 M 0 0 ∧ Fr n0 M := ⟨_, X98, N98⟩
    obtain ⟨g98, hg98⟩ : ∃ z, z = (updF gT ((AtI fi sz nl)).toNatClampNeg ((F6 fi sz nl bf gT) + q2)) := ⟨_, rfl⟩
    have V98 : JV Value.long Z h98 tA .long nl g98 := by rw [hg98]; exact f99.set W98
    have pre98 : Lead p e below G (T98.setTop (mkF m 109 #[.val (.ref o0), .val (.long q1), .second, .val (.long q2), .second, .val (.int (4 : Int32)), .val (.long (F6 fi sz nl bf gT)), .second, .unset, .unset, .unset] [])) := fun t k => pre97 t (st98 _ k)
    have pre100 : Lead p e below G (T98.setTop (mkF m 111 #[.val (.ref o0), .val (.long q1), .second, .val (.long q2), .second, .val (.int (4 : Int32)), .val (.long (F6 fi sz nl bf gT)), .second, .unset, .unset, .unset] [(.ref o0), (.ref o0)])) := fun t k => by
      refine pre98 t ?_
      show Steps p.tables e below (T98.setTop (mkF m 109 #[.val (.ref o0), .val (.long q1), .second, .val (.long q2), .second, .val (.int (4 : Int32)), .val (.long (F6 fi sz nl bf gT)), .second, .unset, .unset, .unset] [])) _
      refine XS.aloadN Y98.here hx rfl (hb hby d5_109) rfl rfl ?_
      show Steps p.tables e below (T98.setTop (mkF m 110 #[.val (.ref o0), .val (.long q1), .second, .val (.long q2), .second, .val (.int (4 : Int32)), .val (.long (F6 fi sz nl bf gT)), .second, .unset, .unset, .unset] [(.ref o0)])) _
      refine XS.dup Y98.here hx rfl (hb hby d5_110) rfl rfl ?_
      exact k
    have f102 : Fld Z h98 o0 "com/example/lean_throttle/leanthrottle/TimeRing" "size" "I" (.int sz) := (f92.other W98 (Or.inl P9_NE))
    obtain ⟨T101, X101, e101, st101⟩ := getF Y98 hx hZ hown (host := "") (Or.inl (hw _ (List.mem_of_getElem? (i := 32) rfl))) Via.refl e98 f102 (g := (mkF m 111 #[.val (.ref o0), .val (.long q1), .second, .val (.long q2), .second, .val (.int (4 : Int32)), .val (.long (F6 fi sz nl bf gT)), .second, .unset, .unset, .unset] [(.ref o0), (.ref o0)])) rfl rfl (hb hby d5_111)
    have pre101 : Lead p e below G (T101.setTop (mkF m 114 #[.val (.ref o0), .val (.long q1), .second, .val (.long q2), .second, .val (.int (4 : Int32)), .val (.long (F6 fi sz nl bf gT)), .second, .unset, .unset, .unset] [(.int sz), (.ref o0)])) := fun t k => pre100 t (st101 _ k)
    have pre103 : Lead p e below G (T101.setTop (mkF m 116 #[.val (.ref o0), .val (.long q1), .second, .val (.long q2), .second, .val (.int (4 : Int32)), .val (.long (F6 fi sz nl bf gT)), .second, .unset, .unset, .unset] [(.int (sz + (1 : Int32))), (.ref o0)])) := fun t k => by
      refine pre101 t ?_
      show Steps p.tables e below (T101.setTop (mkF m 114 #[.val (.ref o0), .val (.long q1), .second, .val (.long q2), .second, .val (.int (4 : Int32)), .val (.long (F6 fi sz nl bf gT)), .second, .unset, .unset, .unset] [(.int sz), (.ref o0)])) _
      refine XS.iconst X101.here hx rfl (hb hby d5_114) ?_
      refine XS.iadd X101.here hx rfl (hb hby d5_115) rfl ?_
      show Steps p.tables e below (T101.setTop (mkF m 116 #[.val (.ref o0), .val (.long q1), .second, .val (.long q2), .second, .val (.int (4 : Int32)), .val (.long (F6 fi sz nl bf gT)), .second, .unset, .unset, .unset] [(.int (sz + (1 : Int32))), (.ref o0)])) _
      exact k
    have f105 : Exa Z h98 o0 "com/example/lean_throttle/leanthrottle/TimeRing" := (f96.wr W98)
    obtain ⟨T104, h104, X104, e104, W104, st104⟩ := putF X101 hx hZ hown (host := "") (Or.inl (hw _ (List.mem_of_getElem? (i := 32) rfl))) Via.refl e101 f102 f105 (Or.inl (hw _ (List.mem_of_getElem? (i := 33) rfl))) (hw _ (List.mem_of_getElem? (i := 5) rfl)) (ty := .int) (by decide) rfl rfl (g := (mkF m 116 #[.val (.ref o0), .val (.long q1), .second, .val (.long q2), .second, .val (.int (4 : Int32)), .val (.long (F6 fi sz nl bf gT)), .second, .unset, .unset, .unset] [(.int (sz + (1 : Int32))), (.ref o0)])) rfl rfl (hb hby d5_116)
    have N104 := Fr.snoc X104 N98 P16_G
    have K104 : Keep h0 h104 [o0, ta, tA] := K98.wr W104 (Or.inl (List.mem_of_getElem? (i := 0) rfl))
    obtain ⟨M104, Y104, N104⟩ : ∃ M, Stand p l e ({ frames := 2, cells := 2, slots := 8, locals := 33 } : Room) s m #[(.ref o0), (.long q1), (.long q2), (.int (4 : Int32))] below meth c T104 M 0 0 ∧ Fr n0 M := ⟨_, X104, N104⟩
    have Fw104 : Fld Z h104 o0 "com/example/lean_throttle/leanthrottle/TimeRing" "size" "I" (.int (sz + (1 : Int32))) := f102.same W104
    have pre104 : Lead p e below G (T104.setTop (mkF m 119 #[.val (.ref o0), .val (.long q1), .second, .val (.long q2), .second, .val (.int (4 : Int32)), .val (.long (F6 fi sz nl bf gT)), .second, .unset, .unset, .unset] [])) := fun t k => pre103 t (st104 _ k)
    obtain ⟨fs, hr, hrun, hended, hW, hsame⟩ := Y104.leave (v := none) (fun _ => rfl)
    have preF : Lead p e below (s₁.setTop (entryFrame m #[(.ref o0), (.long q1), (.long q2), (.int (4 : Int32))] 11)) (T104.setTop (mkF m 119 #[.val (.ref o0), .val (.long q1), .second, .val (.long q2), .second, .val (.int (4 : Int32)), .val (.long (F6 fi sz nl bf gT)), .second, .unset, .unset, .unset] [])) := by rw [← hG]; exact pre104
    refine ⟨_, _, preF _ ?_, hrun, hended, _, _, rfl, ?_, ⟨_, rfl⟩, hW, hsame.mono (by decide) (by decide)⟩
    · show Steps p.tables e below (T104.setTop (mkF m 119 #[.val (.ref o0), .val (.long q1), .second, .val (.long q2), .second, .val (.int (4 : Int32)), .val (.long (F6 fi sz nl bf gT)), .second, .unset, .unset, .unset] [])) _
      exact Y104.returnOut hx Bd.returns (hb hby d5_119) hr
    · show Q5 Z o0 q1 q2 ta tA fi sz nl bf gt gT h0 n0 _ T104.heap _
      rw [e104]
      have f106 : Exa Z h104 o0 "com/example/lean_throttle/leanthrottle/TimeRing" := (f105.wr W104)
      have f107 : Fld Z h104 o0 "com/example/lean_throttle/leanthrottle/TimeRing" "times" "[J" (.ref ta) := ((f95.other W98 (Or.inl P9_NE)).other W104 (Or.inr (slot_ne (Or.inl (hw _ (List.mem_of_getElem? (i := 15) rfl))) (Or.inl (hw _ (List.mem_of_getElem? (i := 33) rfl))) (by decide) (t := (.array .long)) (t' := .int) (by decide) (by decide))))
      have f108 : Fld Z h104 o0 "com/example/lean_throttle/leanthrottle/TimeRing" "totals" "[J" (.ref tA) := ((f89.other W98 (Or.inl P9_NE)).other W104 (Or.inr (slot_ne (Or.inl (hw _ (List.mem_of_getElem? (i := 17) rfl))) (Or.inl (hw _ (List.mem_of_getElem? (i := 33) rfl))) (by decide) (t := (.array .long)) (t' := .int) (by decide) (by decide))))
      have f109 : Fld Z h104 o0 "com/example/lean_throttle/leanthrottle/TimeRing" "first" "I" (.int fi) := ((f94.other W98 (Or.inl P9_NE)).other W104 (Or.inr (slot_ne (Or.inl (hw _ (List.mem_of_getElem? (i := 41) rfl))) (Or.inl (hw _ (List.mem_of_getElem? (i := 33) rfl))) (by decide) (t := .int) (t' := .int) (by decide) (by decide))))
      have f110 : Fld Z h104 o0 "com/example/lean_throttle/leanthrottle/TimeRing" "totalBefore" "J" (.long bf) := (((P5_F.other W86 (Or.inl P8_NE)).other W98 (Or.inl P9_NE)).other W104 (Or.inr (slot_ne (Or.inl (hw _ (List.mem_of_getElem? (i := 35) rfl))) (Or.inl (hw _ (List.mem_of_getElem? (i := 33) rfl))) (by decide) (t := .long) (t' := .int) (by decide) (by decide))))
      have f111 : JV Value.long Z h104 ta .long nl (updF gt ((AtI fi sz nl)).toNatClampNeg q1) := ((V86.other W98 P10_NE).other W104 (Ne.symm P8_NE))
      have f112 : JV Value.long Z h104 tA .long nl g98 := (V98.other W104 (Ne.symm P9_NE))
      exact ⟨ta, tA, fi, nl, (updF gt ((AtI fi sz nl)).toNatClampNeg q1), g98, rfl, N104, K104, f106, f107, f108, f109, Fw104, f110, f111, f112, P17_G, P18_G, P8_NE, P9_NE, P10_NE, (by subst hg98; exact (Or.inl ⟨hs15_9, rfl, rfl, rfl, rfl⟩))⟩
theorem d10_0 : decode prog_21_method_9_code 0 = .ok (.aload_n 0, 1) := by decide +kernel
theorem d10_1 : decode prog_21_method_9_code 1 = .ok (.aload_n 0, 1) := by decide +kernel
theorem d10_2 : decode prog_21_method_9_code 2 = .ok (.getfield 13, 3) := by decide +kernel
theorem d10_5 : decode prog_21_method_9_code 5 = .ok (.aload_n 0, 1) := by decide +kernel
theorem d10_6 : decode prog_21_method_9_code 6 = .ok (.getfield 20, 3) := by decide +kernel
theorem d10_9 : decode prog_21_method_9_code 9 = .ok (.laload, 1) := by decide +kernel
theorem d10_10 : decode prog_21_method_9_code 10 = .ok (.putfield 31, 3) := by decide +kernel
theorem d10_13 : decode prog_21_method_9_code 13 = .ok (.aload_n 0, 1) := by decide +kernel
theorem d10_14 : decode prog_21_method_9_code 14 = .ok (.aload_n 0, 1) := by decide +kernel
theorem d10_15 : decode prog_21_method_9_code 15 = .ok (.iconst 1, 1) := by decide +kernel
theorem d10_16 : decode prog_21_method_9_code 16 = .ok (.invokevirtual 23, 3) := by decide +kernel
theorem d10_19 : decode prog_21_method_9_code 19 = .ok (.putfield 20, 3) := by decide +kernel
theorem d10_22 : decode prog_21_method_9_code 22 = .ok (.aload_n 0, 1) := by decide +kernel
theorem d10_23 : decode prog_21_method_9_code 23 = .ok (.dup, 1) := by decide +kernel
theorem d10_24 : decode prog_21_method_9_code 24 = .ok (.getfield 16, 3) := by decide +kernel
theorem d10_27 : decode prog_21_method_9_code 27 = .ok (.iconst 1, 1) := by decide +kernel
theorem d10_28 : decode prog_21_method_9_code 28 = .ok (.isub, 1) := by decide +kernel
theorem d10_29 : decode prog_21_method_9_code 29 = .ok (.putfield 16, 3) := by decide +kernel
theorem d10_32 : decode prog_21_method_9_code 32 = .ok (.return_, 1) := by decide +kernel
theorem ef_10 (m : MethodId) (o0 : Addr) : entryFrame m #[(.ref o0)] 1 = mkF m 0 #[.val (.ref o0)] [] := by first | (simp [entryFrame, mkF, argsToLocals, Value.category]; done) | rfl
def Q10 (Z : State) (o0 : Addr) (ta : Addr) (tA : Addr) (fi : Int32) (sz : Int32) (nl : Int32) (bf : Int64) (gt : Nat → Int64) (gT : Nat → Int64) (h0 : Heap) (n0 : Nat) (v : Option Value) (h : Heap) (L : List Loc) : Prop := v = none ∧ Fr n0 L ∧ Keep h0 h [o0] ∧ Exa Z h o0 "com/example/lean_throttle/leanthrottle/TimeRing" ∧ Fld Z h o0 "com/example/lean_throttle/leanthrottle/TimeRing" "times" "[J" (.ref ta) ∧ Fld Z h o0 "com/example/lean_throttle/leanthrottle/TimeRing" "totals" "[J" (.ref tA) ∧ Fld Z h o0 "com/example/lean_throttle/leanthrottle/TimeRing" "first" "I" (.int (AtI fi (1 : Int32) nl)) ∧ Fld Z h o0 "com/example/lean_throttle/leanthrottle/TimeRing" "size" "I" (.int (sz - (1 : Int32))) ∧ Fld Z h o0 "com/example/lean_throttle/leanthrottle/TimeRing" "totalBefore" "J" (.long (gT (fi).toNatClampNeg))
set_option maxRecDepth 65536 in
set_option maxHeartbeats 40000000 in
theorem rm10 (l : Launch) (Z : State) (a0 : Array Value) (hw : ∀ d ∈ tables_1, d.before a0 Z = true) (ws : List Jvm.Cond) (o0 : Addr) (ta : Addr) (tA : Addr) (fi : Int32) (sz : Int32) (nl : Int32) (bf : Int64) (gt : Nat → Int64) (gT : Nat → Int64) (h0 : Heap) (n0 : Nat) (Z0 : n0 ≤ h0.size) (P0_E : Exa Z h0 o0 "com/example/lean_throttle/leanthrottle/TimeRing") (P1_F : Fld Z h0 o0 "com/example/lean_throttle/leanthrottle/TimeRing" "times" "[J" (.ref ta)) (P2_F : Fld Z h0 o0 "com/example/lean_throttle/leanthrottle/TimeRing" "totals" "[J" (.ref tA)) (P3_F : Fld Z h0 o0 "com/example/lean_throttle/leanthrottle/TimeRing" "first" "I" (.int fi)) (P4_F : Fld Z h0 o0 "com/example/lean_throttle/leanthrottle/TimeRing" "size" "I" (.int sz)) (P5_F : Fld Z h0 o0 "com/example/lean_throttle/leanthrottle/TimeRing" "totalBefore" "J" (.long bf)) (P6_V : JV Value.long Z h0 ta .long nl gt) (P7_V : JV Value.long Z h0 tA .long nl gT) (P8_NE : o0 ≠ ta) (P9_NE : o0 ≠ tA) (P10_NE : ta ≠ tA) (hfi : (0 ≤ fi.toInt ∧ fi.toInt < nl.toInt)) (P12_G : n0 ≤ o0) :
    MetFree l (⟨"com/example/lean_throttle/leanthrottle/TimeRing", "dropOldest", "()V"⟩ : MethodName) (head1 (Jvm.Cond.code (⟨"com/example/lean_throttle/leanthrottle/TimeRing", "dropOldest", "()V"⟩ : MethodName) prog_21_method_9_code 1 none :: ws) ({ frames := 1, cells := 0, slots := 0, locals := 15 } : Room)) (fun a U => a = #[(.ref o0)] ∧ Z.Warmed39 U.vm ∧ U.heap = h0) (fun _ _ _ _ _ => True) (fun _ U o U' => ∃ v L, o = .returned v ∧ Q10 Z o0 ta tA fi sz nl bf gt gT h0 n0 v U'.heap L ∧ FrameEnd U o U' L ({ frames := 1, cells := 0, slots := 0, locals := 15 } : Room).cells ({ frames := 1, cells := 0, slots := 0, locals := 15 } : Room).slots) := by
  refine MetFree.of_bodySF (plainFor_of_name pn_com_example_lean_throttle_leanthrottle_TimeRing) hisR ?_
  intro p e s m args below meth c s₁ Bd hml0 hP hK
  obtain ⟨rfl, hZ, hh⟩ := hP
  have hx := Bd.exec
  have hby := Bd.bytes
  have hml : c.maxLocals = 1 := hml0
  have hown : s.vm.findClass "com/example/lean_throttle/leanthrottle/TimeRing" = some m.cls := findClass_of_methodNamed Bd.named
  have hnm := (name_of_methodNamed Bd.named Bd.method).1
  have X0 : Stand p l e ({ frames := 1, cells := 0, slots := 0, locals := 15 } : Room) s m #[(.ref o0)] below meth c s₁ [] 0 0 := Stand.of_body Bd
  have e0 : s₁.heap = h0 := by rw [← hh, Bd.state]; rfl
  have N0 := Fr.nil n0
  have K0 : Keep h0 h0 [o0] := Keep.refl _ _
  obtain ⟨G, hG⟩ : ∃ z, z = s₁.setTop (entryFrame m #[(.ref o0)] 1) := ⟨_, rfl⟩
  have pre0 : Lead p e below G (s₁.setTop (mkF m 0 #[.val (.ref o0)] [])) := fun t k => by rw [hG]; exact castTop (ef_10 m o0) k
  have pre1 : Lead p e below G (s₁.setTop (mkF m 2 #[.val (.ref o0)] [(.ref o0), (.ref o0)])) := fun t k => by
    refine pre0 t ?_
    show Steps p.tables e below (s₁.setTop (mkF m 0 #[.val (.ref o0)] [])) _
    refine XS.aloadN X0.here hx rfl (hb hby d10_0) rfl rfl ?_
    refine XS.aloadN X0.here hx rfl (hb hby d10_1) rfl rfl ?_
    exact k
  obtain ⟨T2, X2, e2, st2⟩ := getF X0 hx hZ hown (host := "") (Or.inl (hw _ (List.mem_of_getElem? (i := 16) rfl))) Via.refl e0 P2_F (g := (mkF m 2 #[.val (.ref o0)] [(.ref o0), (.ref o0)])) rfl rfl (hb hby d10_2)
  have pre2 : Lead p e below G (T2.setTop (mkF m 5 #[.val (.ref o0)] [(.ref tA), (.ref o0)])) := fun t k => pre1 t (st2 _ k)
  have pre3 : Lead p e below G (T2.setTop (mkF m 6 #[.val (.ref o0)] [(.ref o0), (.ref tA), (.ref o0)])) := fun t k => by
    refine pre2 t ?_
    show Steps p.tables e below (T2.setTop (mkF m 5 #[.val (.ref o0)] [(.ref tA), (.ref o0)])) _
    refine XS.aloadN X2.here hx rfl (hb hby d10_5) rfl rfl ?_
    show Steps p.tables e below (T2.setTop (mkF m 6 #[.val (.ref o0)] [(.ref o0), (.ref tA), (.ref o0)])) _
    exact k
  obtain ⟨T4, X4, e4, st4⟩ := getF X2 hx hZ hown (host := "") (Or.inl (hw _ (List.mem_of_getElem? (i := 40) rfl))) Via.refl e2 P3_F (g := (mkF m 6 #[.val (.ref o0)] [(.ref o0), (.ref tA), (.ref o0)])) rfl rfl (hb hby d10_6)
  have pre4 : Lead p e below G (T4.setTop (mkF m 9 #[.val (.ref o0)] [(.int fi), (.ref tA), (.ref o0)])) := fun t k => pre3 t (st4 _ k)
  obtain ⟨cl5, Ar5, hin5, hat5⟩ := P7_V.in (j := fi) ⟨by rw [Int32.lt_iff_toInt_lt, Int32.toInt_zero]; omega, Int32.lt_iff_toInt_lt.mpr hfi.2⟩
  have st5 := X4.laload hx (j := fi) (v := (.long (gT (fi).toNatClampNeg))) (by rw [e4]; exact Ar5.1) (State.isArrayOf_alike hZ.alike Ar5.2.1) Ar5.2.2 hin5 hat5 (g := (mkF m 9 #[.val (.ref o0)] [(.int fi), (.ref tA), (.ref o0)])) rfl rfl (hb hby d10_9)
  have pre5 : Lead p e below G (T4.setTop (mkF m 10 #[.val (.ref o0)] [(.long (gT (fi).toNatClampNeg)), (.ref o0)])) := fun t k => pre4 t (st5 _ k)
  obtain ⟨T6, h6, X6, e6, W6, st6⟩ := putF X4 hx hZ hown (host := "") (Or.inl (hw _ (List.mem_of_getElem? (i := 34) rfl))) Via.refl e4 P5_F P0_E (Or.inl (hw _ (List.mem_of_getElem? (i := 35) rfl))) (hw _ (List.mem_of_getElem? (i := 5) rfl)) (ty := .long) (by decide) rfl rfl (g := (mkF m 10 #[.val (.ref o0)] [(.long (gT (fi).toNatClampNeg)), (.ref o0)])) rfl rfl (hb hby d10_10)
  have N6 := Fr.snoc X6 N0 P12_G
  have K6 : Keep h0 h6 [o0] := K0.wr W6 (Or.inl (List.mem_of_getElem? (i := 0) rfl))
  obtain ⟨M6, Y6, N6⟩ : ∃ M, Stand p l e ({ frames := 1, cells := 0, slots := 0, locals := 15 } : Room) s m #[(.ref o0)] below meth c T6 M 0 0 ∧ Fr n0 M := ⟨_, X6, N6⟩
  have Fw6 : Fld Z h6 o0 "com/example/lean_throttle/leanthrottle/TimeRing" "totalBefore" "J" (.long (gT (fi).toNatClampNeg)) := P5_F.same W6
  have pre6 : Lead p e below G (T6.setTop (mkF m 13 #[.val (.ref o0)] [])) := fun t k => pre5 t (st6 _ k)
  have pre7 : Lead p e below G (T6.setTop (mkF m 16 #[.val (.ref o0)] [(.int (1 : Int32)), (.ref o0), (.ref o0)])) := fun t k => by
    refine pre6 t ?_
    show Steps p.tables e below (T6.setTop (mkF m 13 #[.val (.ref o0)] [])) _
    refine XS.aloadN Y6.here hx rfl (hb hby d10_13) rfl rfl ?_
    refine XS.aloadN Y6.here hx rfl (hb hby d10_14) rfl rfl ?_
    refine XS.iconst Y6.here hx rfl (hb hby d10_15) ?_
    show Steps p.tables e below (T6.setTop (mkF m 16 #[.val (.ref o0)] [(.int (1 : Int32)), (.ref o0), (.ref o0)])) _
    exact k
  have f9 : Fld Z h6 o0 "com/example/lean_throttle/leanthrottle/TimeRing" "first" "I" (.int fi) := (P3_F.other W6 (Or.inr (slot_ne (Or.inl (hw _ (List.mem_of_getElem? (i := 41) rfl))) (Or.inl (hw _ (List.mem_of_getElem? (i := 35) rfl))) (by decide) (t := .int) (t' := .long) (by decide) (by decide))))
  have f10 : Fld Z h6 o0 "com/example/lean_throttle/leanthrottle/TimeRing" "times" "[J" (.ref ta) := (P1_F.other W6 (Or.inr (slot_ne (Or.inl (hw _ (List.mem_of_getElem? (i := 15) rfl))) (Or.inl (hw _ (List.mem_of_getElem? (i := 35) rfl))) (by decide) (t := (.array .long)) (t' := .long) (by decide) (by decide))))
  have f11 : JV Value.long Z h6 ta .long nl gt := (P6_V.other W6 (Ne.symm P8_NE))
  have f12 : Exa Z h6 o0 "com/example/lean_throttle/leanthrottle/TimeRing" := (P0_E.wr W6)
  obtain ⟨cq8, zq8, zq8'⟩ := f12.cell
  obtain ⟨_, _, ⟨T8, L8, k8, n8⟩, -, X8, ⟨Lc8, hQ8, l8, y8, z8⟩, st8⟩ := Y6.privateBack hx (y := (⟨"com/example/lean_throttle/leanthrottle/TimeRing", "at", "(I)I"⟩ : MethodName)) hown (mvT hZ (hw _ (List.mem_of_getElem? (i := 36) rfl))) (mvT hZ (hw _ (List.mem_of_getElem? (i := 37) rfl))) (own_selp hZ (hw _ (List.mem_of_getElem? (i := 5) rfl)) (hw _ (List.mem_of_getElem? (i := 38) rfl)) (hw _ (List.mem_of_getElem? (i := 37) rfl)) (by decide)) (Cond.privateMethod_at (mvP hZ (hw _ (List.mem_of_getElem? (i := 38) rfl)) (args := #[]))) (mvT hZ (hw _ (List.mem_of_getElem? (i := 39) rfl))) (by decide) (backOf (W := 1) (rm7 l Z a0 hw [] o0 (1 : Int32) fi ta nl gt h6 n0 (Nat.le_trans Z0 K6.1) f9 f10 f11) hZ (hw _ (List.mem_of_getElem? (i := 39) rfl)) (hw _ (List.mem_of_getElem? (i := 6) rfl)) (by decide) (by decide)) (g := (mkF m 16 #[.val (.ref o0)] [(.int (1 : Int32)), (.ref o0), (.ref o0)])) rfl (by rw [hml]; rfl) (Steps.refl _) (a := o0) (by rw [e6]; exact zq8) zq8' (argsL := [(.int (1 : Int32))]) (rest := [(.ref o0)]) (lenOf pd__28_I_29_I rfl) rfl (by show 2 * 0 + _ ≤ _; exact Nat.le_of_eq rfl) (hb hby d10_16) (fun _ _ => ⟨rfl, e6, (by decide : 0 + 0 ≤ _), (by decide : 0 + 0 ≤ _)⟩)
  dsimp only [Pt.U, Pt.locs, Pt.cells, Pt.slots] at X8 l8 y8 z8 st8 hQ8
  subst l8 y8 z8
  obtain ⟨rfl, N8q, e8⟩ := hQ8
  have N8 := Fr.app N6 N8q
  obtain ⟨M8, Y8, N8⟩ : ∃ M, Stand p l e ({ frames := 1, cells := 0, slots := 0, locals := 15 } : Room) s m #[(.ref o0)] below meth c T8 M 0 0 ∧ Fr n0 M := ⟨_, X8, N8⟩
  have pre8 : Lead p e below G (T8.setTop (mkF m 19 #[.val (.ref o0)] [(.int (AtI fi (1 : Int32) nl)), (.ref o0)])) := fun t k => pre7 t (st8.trans k)
  obtain ⟨T13, h13, X13, e13, W13, st13⟩ := putF Y8 hx hZ hown (host := "") (Or.inl (hw _ (List.mem_of_getElem? (i := 40) rfl))) Via.refl e8 f9 f12 (Or.inl (hw _ (List.mem_of_getElem? (i := 41) rfl))) (hw _ (List.mem_of_getElem? (i := 5) rfl)) (ty := .int) (by decide) rfl rfl (g := (mkF m 19 #[.val (.ref o0)] [(.int (AtI fi (1 : Int32) nl)), (.ref o0)])) rfl rfl (hb hby d10_19)
  have N13 := Fr.snoc X13 N8 P12_G
  have K13 : Keep h0 h13 [o0] := K6.wr W13 (Or.inl (List.mem_of_getElem? (i := 0) rfl))
  obtain ⟨M13, Y13, N13⟩ : ∃ M, Stand p l e ({ frames := 1, cells := 0, slots := 0, locals := 15 } : Room) s m #[(.ref o0)] below meth c T13 M 0 0 ∧ Fr n0 M := ⟨_, X13, N13⟩
  have Fw13 : Fld Z h13 o0 "com/example/lean_throttle/leanthrottle/TimeRing" "first" "I" (.int (AtI fi (1 : Int32) nl)) := f9.same W13
  have pre13 : Lead p e below G (T13.setTop (mkF m 22 #[.val (.ref o0)] [])) := fun t k => pre8 t (st13 _ k)
  have pre14 : Lead p e below G (T13.setTop (mkF m 24 #[.val (.ref o0)] [(.ref o0), (.ref o0)])) := fun t k => by
    refine pre13 t ?_
    show Steps p.tables e below (T13.setTop (mkF m 22 #[.val (.ref o0)] [])) _
    refine XS.aloadN Y13.here hx rfl (hb hby d10_22) rfl rfl ?_
    refine XS.dup Y13.here hx rfl (hb hby d10_23) rfl rfl ?_
    exact k
  have f16 : Fld Z h13 o0 "com/example/lean_throttle/leanthrottle/TimeRing" "size" "I" (.int sz) := ((P4_F.other W6 (Or.inr (slot_ne (Or.inl (hw _ (List.mem_of_getElem? (i := 33) rfl))) (Or.inl (hw _ (List.mem_of_getElem? (i := 35) rfl))) (by decide) (t := .int) (t' := .long) (by decide) (by decide)))).other W13 (Or.inr (slot_ne (Or.inl (hw _ (List.mem_of_getElem? (i := 33) rfl))) (Or.inl (hw _ (List.mem_of_getElem? (i := 41) rfl))) (by decide) (t := .int) (t' := .int) (by decide) (by decide))))
  obtain ⟨T15, X15, e15, st15⟩ := getF Y13 hx hZ hown (host := "") (Or.inl (hw _ (List.mem_of_getElem? (i := 32) rfl))) Via.refl e13 f16 (g := (mkF m 24 #[.val (.ref o0)] [(.ref o0), (.ref o0)])) rfl rfl (hb hby d10_24)
  have pre15 : Lead p e below G (T15.setTop (mkF m 27 #[.val (.ref o0)] [(.int sz), (.ref o0)])) := fun t k => pre14 t (st15 _ k)
  have pre17 : Lead p e below G (T15.setTop (mkF m 29 #[.val (.ref o0)] [(.int (sz - (1 : Int32))), (.ref o0)])) := fun t k => by
    refine pre15 t ?_
    show Steps p.tables e below (T15.setTop (mkF m 27 #[.val (.ref o0)] [(.int sz), (.ref o0)])) _
    refine XS.iconst X15.here hx rfl (hb hby d10_27) ?_
    show Steps p.tables e below (T15.setTop (mkF m 28 #[.val (.ref o0)] [(.int (1 : Int32)), (.int sz), (.ref o0)])) _
    refine XS.isub X15.here hx rfl (hb hby d10_28) rfl ?_
    exact k
  have f19 : Exa Z h13 o0 "com/example/lean_throttle/leanthrottle/TimeRing" := (f12.wr W13)
  obtain ⟨T18, h18, X18, e18, W18, st18⟩ := putF X15 hx hZ hown (host := "") (Or.inl (hw _ (List.mem_of_getElem? (i := 32) rfl))) Via.refl e15 f16 f19 (Or.inl (hw _ (List.mem_of_getElem? (i := 33) rfl))) (hw _ (List.mem_of_getElem? (i := 5) rfl)) (ty := .int) (by decide) rfl rfl (g := (mkF m 29 #[.val (.ref o0)] [(.int (sz - (1 : Int32))), (.ref o0)])) rfl rfl (hb hby d10_29)
  have N18 := Fr.snoc X18 N13 P12_G
  have K18 : Keep h0 h18 [o0] := K13.wr W18 (Or.inl (List.mem_of_getElem? (i := 0) rfl))
  obtain ⟨M18, Y18, N18⟩ : ∃ M, Stand p l e ({ frames := 1, cells := 0, slots := 0, locals := 15 } : Room) s m #[(.ref o0)] below meth c T18 M 0 0 ∧ Fr n0 M := ⟨_, X18, N18⟩
  have Fw18 : Fld Z h18 o0 "com/example/lean_throttle/leanthrottle/TimeRing" "size" "I" (.int (sz - (1 : Int32))) := f16.same W18
  have pre18 : Lead p e below G (T18.setTop (mkF m 32 #[.val (.ref o0)] [])) := fun t k => pre17 t (st18 _ k)
  obtain ⟨fs, hr, hrun, hended, hW, hsame⟩ := Y18.leave (v := none) (fun _ => rfl)
  have preF : Lead p e below (s₁.setTop (entryFrame m #[(.ref o0)] 1)) (T18.setTop (mkF m 32 #[.val (.ref o0)] [])) := by rw [← hG]; exact pre18
  refine ⟨_, _, preF _ ?_, hrun, hended, _, _, rfl, ?_, ⟨_, rfl⟩, hW, hsame.mono (by decide) (by decide)⟩
  · show Steps p.tables e below (T18.setTop (mkF m 32 #[.val (.ref o0)] [])) _
    exact Y18.returnOut hx Bd.returns (hb hby d10_32) hr
  · show Q10 Z o0 ta tA fi sz nl bf gt gT h0 n0 _ T18.heap _
    rw [e18]
    have f20 : Exa Z h18 o0 "com/example/lean_throttle/leanthrottle/TimeRing" := (f19.wr W18)
    have f21 : Fld Z h18 o0 "com/example/lean_throttle/leanthrottle/TimeRing" "times" "[J" (.ref ta) := ((f10.other W13 (Or.inr (slot_ne (Or.inl (hw _ (List.mem_of_getElem? (i := 15) rfl))) (Or.inl (hw _ (List.mem_of_getElem? (i := 41) rfl))) (by decide) (t := (.array .long)) (t' := .int) (by decide) (by decide)))).other W18 (Or.inr (slot_ne (Or.inl (hw _ (List.mem_of_getElem? (i := 15) rfl))) (Or.inl (hw _ (List.mem_of_getElem? (i := 33) rfl))) (by decide) (t := (.array .long)) (t' := .int) (by decide) (by decide))))
    have f22 : Fld Z h18 o0 "com/example/lean_throttle/leanthrottle/TimeRing" "totals" "[J" (.ref tA) := (((P2_F.other W6 (Or.inr (slot_ne (Or.inl (hw _ (List.mem_of_getElem? (i := 17) rfl))) (Or.inl (hw _ (List.mem_of_getElem? (i := 35) rfl))) (by decide) (t := (.array .long)) (t' := .long) (by decide) (by decide)))).other W13 (Or.inr (slot_ne (Or.inl (hw _ (List.mem_of_getElem? (i := 17) rfl))) (Or.inl (hw _ (List.mem_of_getElem? (i := 41) rfl))) (by decide) (t := (.array .long)) (t' := .int) (by decide) (by decide)))).other W18 (Or.inr (slot_ne (Or.inl (hw _ (List.mem_of_getElem? (i := 17) rfl))) (Or.inl (hw _ (List.mem_of_getElem? (i := 33) rfl))) (by decide) (t := (.array .long)) (t' := .int) (by decide) (by decide))))
    have f23 : Fld Z h18 o0 "com/example/lean_throttle/leanthrottle/TimeRing" "first" "I" (.int (AtI fi (1 : Int32) nl)) := (Fw13.other W18 (Or.inr (slot_ne (Or.inl (hw _ (List.mem_of_getElem? (i := 41) rfl))) (Or.inl (hw _ (List.mem_of_getElem? (i := 33) rfl))) (by decide) (t := .int) (t' := .int) (by decide) (by decide))))
    have f24 : Fld Z h18 o0 "com/example/lean_throttle/leanthrottle/TimeRing" "totalBefore" "J" (.long (gT (fi).toNatClampNeg)) := ((Fw6.other W13 (Or.inr (slot_ne (Or.inl (hw _ (List.mem_of_getElem? (i := 35) rfl))) (Or.inl (hw _ (List.mem_of_getElem? (i := 41) rfl))) (by decide) (t := .long) (t' := .int) (by decide) (by decide)))).other W18 (Or.inr (slot_ne (Or.inl (hw _ (List.mem_of_getElem? (i := 35) rfl))) (Or.inl (hw _ (List.mem_of_getElem? (i := 33) rfl))) (by decide) (t := .long) (t' := .int) (by decide) (by decide))))
    exact ⟨rfl, N18, K18, f20, f21, f22, f23, Fw18, f24⟩
theorem d12_0 : decode prog_21_method_2_code 0 = .ok (.aload_n 0, 1) := by decide +kernel
theorem d12_1 : decode prog_21_method_2_code 1 = .ok (.getfield 16, 3) := by decide +kernel
theorem d12_4 : decode prog_21_method_2_code 4 = .ok (.ireturn, 1) := by decide +kernel
theorem ef_12 (m : MethodId) (o0 : Addr) : entryFrame m #[(.ref o0)] 1 = mkF m 0 #[.val (.ref o0)] [] := by first | (simp [entryFrame, mkF, argsToLocals, Value.category]; done) | rfl
def Q12 (Z : State) (o0 : Addr) (sz : Int32) (h0 : Heap) (n0 : Nat) (v : Option Value) (h : Heap) (L : List Loc) : Prop := v = some (.int sz) ∧ Fr n0 L ∧ h = h0
set_option maxRecDepth 65536 in
set_option maxHeartbeats 40000000 in
theorem rm12 (l : Launch) (Z : State) (a0 : Array Value) (hw : ∀ d ∈ tables_1, d.before a0 Z = true) (ws : List Jvm.Cond) (o0 : Addr) (sz : Int32) (h0 : Heap) (n0 : Nat) (Z0 : n0 ≤ h0.size) (P0_F : Fld Z h0 o0 "com/example/lean_throttle/leanthrottle/TimeRing" "size" "I" (.int sz)) :
    MetFree l (⟨"com/example/lean_throttle/leanthrottle/TimeRing", "size", "()I"⟩ : MethodName) (head1 (Jvm.Cond.code (⟨"com/example/lean_throttle/leanthrottle/TimeRing", "size", "()I"⟩ : MethodName) prog_21_method_2_code 1 (some .int) :: ws) ({ frames := 0, cells := 0, slots := 0, locals := 0 } : Room)) (fun a U => a = #[(.ref o0)] ∧ Z.Warmed39 U.vm ∧ U.heap = h0) (fun _ _ _ _ _ => True) (fun _ U o U' => ∃ v L, o = .returned v ∧ Q12 Z o0 sz h0 n0 v U'.heap L ∧ FrameEnd U o U' L ({ frames := 0, cells := 0, slots := 0, locals := 0 } : Room).cells ({ frames := 0, cells := 0, slots := 0, locals := 0 } : Room).slots) := by
  refine MetFree.of_bodySF (plainFor_of_name pn_com_example_lean_throttle_leanthrottle_TimeRing) hisR ?_
  intro p e s m args below meth c s₁ Bd hml0 hP hK
  obtain ⟨rfl, hZ, hh⟩ := hP
  have hx := Bd.exec
  have hby := Bd.bytes
  have hml : c.maxLocals = 1 := hml0
  have hown : s.vm.findClass "com/example/lean_throttle/leanthrottle/TimeRing" = some m.cls := findClass_of_methodNamed Bd.named
  have hnm := (name_of_methodNamed Bd.named Bd.method).1
  have X0 : Stand p l e ({ frames := 0, cells := 0, slots := 0, locals := 0 } : Room) s m #[(.ref o0)] below meth c s₁ [] 0 0 := Stand.of_body Bd
  have e0 : s₁.heap = h0 := by rw [← hh, Bd.state]; rfl
  have N0 := Fr.nil n0
  have K0 : Keep h0 h0 [] := Keep.refl _ _
  obtain ⟨G, hG⟩ : ∃ z, z = s₁.setTop (entryFrame m #[(.ref o0)] 1) := ⟨_, rfl⟩
  have pre0 : Lead p e below G (s₁.setTop (mkF m 0 #[.val (.ref o0)] [])) := fun t k => by rw [hG]; exact castTop (ef_12 m o0) k
  have pre1 : Lead p e below G (s₁.setTop (mkF m 1 #[.val (.ref o0)] [(.ref o0)])) := fun t k => by
    refine pre0 t ?_
    show Steps p.tables e below (s₁.setTop (mkF m 0 #[.val (.ref o0)] [])) _
    refine XS.aloadN X0.here hx rfl (hb hby d12_0) rfl rfl ?_
    exact k
  obtain ⟨T2, X2, e2, st2⟩ := getF X0 hx hZ hown (host := "") (Or.inl (hw _ (List.mem_of_getElem? (i := 32) rfl))) Via.refl e0 P0_F (g := (mkF m 1 #[.val (.ref o0)] [(.ref o0)])) rfl rfl (hb hby d12_1)
  have pre2 : Lead p e below G (T2.setTop (mkF m 4 #[.val (.ref o0)] [(.int sz)])) := fun t k => pre1 t (st2 _ k)
  obtain ⟨fs, hr, hrun, hended, hW, hsame⟩ := X2.leave (v := some (.int sz)) (fun h => by rw [Bd.returns] at h; cases h)
  have preF : Lead p e below (s₁.setTop (entryFrame m #[(.ref o0)] 1)) (T2.setTop (mkF m 4 #[.val (.ref o0)] [(.int sz)])) := by rw [← hG]; exact pre2
  refine ⟨_, _, preF _ ?_, hrun, hended, _, _, rfl, ?_, ⟨_, rfl⟩, hW, hsame.mono (by decide) (by decide)⟩
  · show Steps p.tables e below (T2.setTop (mkF m 4 #[.val (.ref o0)] [(.int sz)])) _
    exact retI X2 hx Bd.returns (hb hby d12_4) hr
  · show Q12 Z o0 sz h0 n0 _ T2.heap _
    rw [e2]
    exact ⟨congrArg (fun z => some (Value.int z)) (show sz = sz from rfl), N0, rfl⟩
theorem d13_0 : decode prog_21_method_6_code 0 = .ok (.aload_n 0, 1) := by decide +kernel
theorem d13_1 : decode prog_21_method_6_code 1 = .ok (.invokevirtual 27, 3) := by decide +kernel
theorem d13_4 : decode prog_21_method_6_code 4 = .ok (.aload_n 0, 1) := by decide +kernel
theorem d13_5 : decode prog_21_method_6_code 5 = .ok (.getfield 31, 3) := by decide +kernel
theorem d13_8 : decode prog_21_method_6_code 8 = .ok (.lsub, 1) := by decide +kernel
theorem d13_9 : decode prog_21_method_6_code 9 = .ok (.lreturn, 1) := by decide +kernel
def F13 (fi : Int32) (sz : Int32) (nl : Int32) (bf : Int64) (gT : Nat → Int64) : Int64 := ((F6 fi sz nl bf gT) - bf)
theorem aux13_5 (o0 : Addr) (ta : Addr) (tA : Addr) (fi : Int32) (sz : Int32) (nl : Int32) (bf : Int64) (gt : Nat → Int64) (gT : Nat → Int64)   : ((F6 fi sz nl bf gT) - bf) = F13 fi sz nl bf gT := by
  skip
  rfl
theorem ef_13 (m : MethodId) (o0 : Addr) : entryFrame m #[(.ref o0)] 1 = mkF m 0 #[.val (.ref o0)] [] := by first | (simp [entryFrame, mkF, argsToLocals, Value.category]; done) | rfl
def Q13 (Z : State) (o0 : Addr) (ta : Addr) (tA : Addr) (fi : Int32) (sz : Int32) (nl : Int32) (bf : Int64) (gt : Nat → Int64) (gT : Nat → Int64) (h0 : Heap) (n0 : Nat) (v : Option Value) (h : Heap) (L : List Loc) : Prop := v = some (.long (F13 fi sz nl bf gT)) ∧ Fr n0 L ∧ h = h0
set_option maxRecDepth 65536 in
set_option maxHeartbeats 40000000 in
theorem rm13 (l : Launch) (Z : State) (a0 : Array Value) (hw : ∀ d ∈ tables_1, d.before a0 Z = true) (ws : List Jvm.Cond) (o0 : Addr) (ta : Addr) (tA : Addr) (fi : Int32) (sz : Int32) (nl : Int32) (bf : Int64) (gt : Nat → Int64) (gT : Nat → Int64) (h0 : Heap) (n0 : Nat) (Z0 : n0 ≤ h0.size) (P0_E : Exa Z h0 o0 "com/example/lean_throttle/leanthrottle/TimeRing") (P1_F : Fld Z h0 o0 "com/example/lean_throttle/leanthrottle/TimeRing" "times" "[J" (.ref ta)) (P2_F : Fld Z h0 o0 "com/example/lean_throttle/leanthrottle/TimeRing" "totals" "[J" (.ref tA)) (P3_F : Fld Z h0 o0 "com/example/lean_throttle/leanthrottle/TimeRing" "first" "I" (.int fi)) (P4_F : Fld Z h0 o0 "com/example/lean_throttle/leanthrottle/TimeRing" "size" "I" (.int sz)) (P5_F : Fld Z h0 o0 "com/example/lean_throttle/leanthrottle/TimeRing" "totalBefore" "J" (.long bf)) (P6_V : JV Value.long Z h0 ta .long nl gt) (P7_V : JV Value.long Z h0 tA .long nl gT) (P8_NE : o0 ≠ ta) (P9_NE : o0 ≠ tA) (P10_NE : ta ≠ tA) (hfi : (0 ≤ fi.toInt ∧ fi.toInt < nl.toInt)) (hsz : (0 ≤ sz.toInt ∧ sz.toInt ≤ nl.toInt)) (hl4 : (nl.toInt ≤ 4)) :
    MetFree l (⟨"com/example/lean_throttle/leanthrottle/TimeRing", "units", "()J"⟩ : MethodName) (head1 (Jvm.Cond.code (⟨"com/example/lean_throttle/leanthrottle/TimeRing", "units", "()J"⟩ : MethodName) prog_21_method_6_code 1 (some .long) :: ws) ({ frames := 2, cells := 0, slots := 0, locals := 27 } : Room)) (fun a U => a = #[(.ref o0)] ∧ Z.Warmed39 U.vm ∧ U.heap = h0) (fun _ _ _ _ _ => True) (fun _ U o U' => ∃ v L, o = .returned v ∧ Q13 Z o0 ta tA fi sz nl bf gt gT h0 n0 v U'.heap L ∧ FrameEnd U o U' L ({ frames := 2, cells := 0, slots := 0, locals := 27 } : Room).cells ({ frames := 2, cells := 0, slots := 0, locals := 27 } : Room).slots) := by
  refine MetFree.of_bodySF (plainFor_of_name pn_com_example_lean_throttle_leanthrottle_TimeRing) hisR ?_
  intro p e s m args below meth c s₁ Bd hml0 hP hK
  obtain ⟨rfl, hZ, hh⟩ := hP
  have hx := Bd.exec
  have hby := Bd.bytes
  have hml : c.maxLocals = 1 := hml0
  have hown : s.vm.findClass "com/example/lean_throttle/leanthrottle/TimeRing" = some m.cls := findClass_of_methodNamed Bd.named
  have hnm := (name_of_methodNamed Bd.named Bd.method).1
  have X0 : Stand p l e ({ frames := 2, cells := 0, slots := 0, locals := 27 } : Room) s m #[(.ref o0)] below meth c s₁ [] 0 0 := Stand.of_body Bd
  have e0 : s₁.heap = h0 := by rw [← hh, Bd.state]; rfl
  have N0 := Fr.nil n0
  have K0 : Keep h0 h0 [] := Keep.refl _ _
  obtain ⟨G, hG⟩ : ∃ z, z = s₁.setTop (entryFrame m #[(.ref o0)] 1) := ⟨_, rfl⟩
  have pre0 : Lead p e below G (s₁.setTop (mkF m 0 #[.val (.ref o0)] [])) := fun t k => by rw [hG]; exact castTop (ef_13 m o0) k
  have pre1 : Lead p e below G (s₁.setTop (mkF m 1 #[.val (.ref o0)] [(.ref o0)])) := fun t k => by
    refine pre0 t ?_
    show Steps p.tables e below (s₁.setTop (mkF m 0 #[.val (.ref o0)] [])) _
    refine XS.aloadN X0.here hx rfl (hb hby d13_0) rfl rfl ?_
    show Steps p.tables e below (s₁.setTop (mkF m 1 #[.val (.ref o0)] [(.ref o0)])) _
    exact k
  obtain ⟨cq2, zq2, zq2'⟩ := P0_E.cell
  obtain ⟨_, _, ⟨T2, L2, k2, n2⟩, -, X2, ⟨Lc2, hQ2, l2, y2, z2⟩, st2⟩ := X0.privateBack hx (y := (⟨"com/example/lean_throttle/leanthrottle/TimeRing", "newestTotal", "()J"⟩ : MethodName)) hown (mvT hZ (hw _ (List.mem_of_getElem? (i := 28) rfl))) (mvT hZ (hw _ (List.mem_of_getElem? (i := 29) rfl))) (own_selp hZ (hw _ (List.mem_of_getElem? (i := 5) rfl)) (hw _ (List.mem_of_getElem? (i := 30) rfl)) (hw _ (List.mem_of_getElem? (i := 29) rfl)) (by decide)) (Cond.privateMethod_at (mvP hZ (hw _ (List.mem_of_getElem? (i := 30) rfl)) (args := #[]))) (mvT hZ (hw _ (List.mem_of_getElem? (i := 31) rfl))) (by decide) (backOf (W := 0) (rm6 l Z a0 hw [] o0 ta tA fi sz nl bf gt gT h0 n0 (Nat.le_trans Z0 K0.1) P0_E P1_F P2_F P3_F P4_F P5_F P6_V P7_V P8_NE P9_NE P10_NE (show 0 ≤ fi.toInt ∧ fi.toInt < nl.toInt from hfi) (show 0 ≤ sz.toInt ∧ sz.toInt ≤ nl.toInt from hsz) (show nl.toInt ≤ 4 from hl4)) hZ (hw _ (List.mem_of_getElem? (i := 31) rfl)) (hw _ (List.mem_of_getElem? (i := 6) rfl)) (by decide) (by decide)) (g := (mkF m 1 #[.val (.ref o0)] [(.ref o0)])) rfl (by rw [hml]; rfl) (Steps.refl _) (a := o0) (by rw [e0]; exact zq2) zq2' (argsL := []) (rest := []) (lenOf pd__28__29_J rfl) rfl (by show 2 * 0 + _ ≤ _; exact Nat.le_of_eq rfl) (hb hby d13_1) (fun _ _ => ⟨rfl, e0, (by decide : 0 + 0 ≤ _), (by decide : 0 + 0 ≤ _)⟩)
  dsimp only [Pt.U, Pt.locs, Pt.cells, Pt.slots] at X2 l2 y2 z2 st2 hQ2
  subst l2 y2 z2
  obtain ⟨rfl, N2q, e2⟩ := hQ2
  have N2 := Fr.app N0 N2q
  obtain ⟨M2, Y2, N2⟩ : ∃ M, Stand p l e ({ frames := 2, cells := 0, slots := 0, locals := 27 } : Room) s m #[(.ref o0)] below meth c T2 M 0 0 ∧ Fr n0 M := ⟨_, X2, N2⟩
  have pre2 : Lead p e below G (T2.setTop (mkF m 4 #[.val (.ref o0)] [(.long (F6 fi sz nl bf gT))])) := fun t k => pre1 t (st2.trans k)
  have pre3 : Lead p e below G (T2.setTop (mkF m 5 #[.val (.ref o0)] [(.ref o0), (.long (F6 fi sz nl bf gT))])) := fun t k => by
    refine pre2 t ?_
    show Steps p.tables e below (T2.setTop (mkF m 4 #[.val (.ref o0)] [(.long (F6 fi sz nl bf gT))])) _
    refine XS.aloadN Y2.here hx rfl (hb hby d13_4) rfl rfl ?_
    exact k
  obtain ⟨T4, X4, e4, st4⟩ := getF Y2 hx hZ hown (host := "") (Or.inl (hw _ (List.mem_of_getElem? (i := 34) rfl))) Via.refl e2 P5_F (g := (mkF m 5 #[.val (.ref o0)] [(.ref o0), (.long (F6 fi sz nl bf gT))])) rfl rfl (hb hby d13_5)
  have pre4 : Lead p e below G (T4.setTop (mkF m 8 #[.val (.ref o0)] [(.long bf), (.long (F6 fi sz nl bf gT))])) := fun t k => pre3 t (st4 _ k)
  obtain ⟨fs, hr, hrun, hended, hW, hsame⟩ := X4.leave (v := some (.long ((F6 fi sz nl bf gT) - bf))) (fun h => by rw [Bd.returns] at h; cases h)
  have preF : Lead p e below (s₁.setTop (entryFrame m #[(.ref o0)] 1)) (T4.setTop (mkF m 8 #[.val (.ref o0)] [(.long bf), (.long (F6 fi sz nl bf gT))])) := by rw [← hG]; exact pre4
  refine ⟨_, _, preF _ ?_, hrun, hended, _, _, rfl, ?_, ⟨_, rfl⟩, hW, hsame.mono (by decide) (by decide)⟩
  · show Steps p.tables e below (T4.setTop (mkF m 8 #[.val (.ref o0)] [(.long bf), (.long (F6 fi sz nl bf gT))])) _
    refine XS.lsub X4.here hx rfl (hb hby d13_8) rfl ?_
    exact retJ X4 hx Bd.returns (hb hby d13_9) hr
  · show Q13 Z o0 ta tA fi sz nl bf gt gT h0 n0 _ T4.heap _
    rw [e4]
    have hv_ : ((F6 fi sz nl bf gT) - bf) = F13 fi sz nl bf gT := (aux13_5 o0 ta tA fi sz nl bf gt gT)
    exact ⟨congrArg (fun z => some (Value.long z)) hv_, N2, rfl⟩
theorem d14_0 : decode prog_21_method_3_code 0 = .ok (.aload_n 0, 1) := by decide +kernel
theorem d14_1 : decode prog_21_method_3_code 1 = .ok (.getfield 7, 3) := by decide +kernel
theorem d14_4 : decode prog_21_method_3_code 4 = .ok (.aload_n 0, 1) := by decide +kernel
theorem d14_5 : decode prog_21_method_3_code 5 = .ok (.getfield 20, 3) := by decide +kernel
theorem d14_8 : decode prog_21_method_3_code 8 = .ok (.laload, 1) := by decide +kernel
theorem d14_9 : decode prog_21_method_3_code 9 = .ok (.lreturn, 1) := by decide +kernel
def F14 (fi : Int32) (gt : Nat → Int64) : Int64 := (gt (fi).toNatClampNeg)
theorem aux14_6 (o0 : Addr) (ta : Addr) (tA : Addr) (fi : Int32) (sz : Int32) (nl : Int32) (bf : Int64) (gt : Nat → Int64) (gT : Nat → Int64)   : (gt (fi).toNatClampNeg) = F14 fi gt := by
  skip
  rfl
theorem ef_14 (m : MethodId) (o0 : Addr) : entryFrame m #[(.ref o0)] 1 = mkF m 0 #[.val (.ref o0)] [] := by first | (simp [entryFrame, mkF, argsToLocals, Value.category]; done) | rfl
def Q14 (Z : State) (o0 : Addr) (ta : Addr) (tA : Addr) (fi : Int32) (sz : Int32) (nl : Int32) (bf : Int64) (gt : Nat → Int64) (gT : Nat → Int64) (h0 : Heap) (n0 : Nat) (v : Option Value) (h : Heap) (L : List Loc) : Prop := v = some (.long (F14 fi gt)) ∧ Fr n0 L ∧ h = h0
set_option maxRecDepth 65536 in
set_option maxHeartbeats 40000000 in
theorem rm14 (l : Launch) (Z : State) (a0 : Array Value) (hw : ∀ d ∈ tables_1, d.before a0 Z = true) (ws : List Jvm.Cond) (o0 : Addr) (ta : Addr) (tA : Addr) (fi : Int32) (sz : Int32) (nl : Int32) (bf : Int64) (gt : Nat → Int64) (gT : Nat → Int64) (h0 : Heap) (n0 : Nat) (Z0 : n0 ≤ h0.size) (P0_E : Exa Z h0 o0 "com/example/lean_throttle/leanthrottle/TimeRing") (P1_F : Fld Z h0 o0 "com/example/lean_throttle/leanthrottle/TimeRing" "times" "[J" (.ref ta)) (P2_F : Fld Z h0 o0 "com/example/lean_throttle/leanthrottle/TimeRing" "totals" "[J" (.ref tA)) (P3_F : Fld Z h0 o0 "com/example/lean_throttle/leanthrottle/TimeRing" "first" "I" (.int fi)) (P4_F : Fld Z h0 o0 "com/example/lean_throttle/leanthrottle/TimeRing" "size" "I" (.int sz)) (P5_F : Fld Z h0 o0 "com/example/lean_throttle/leanthrottle/TimeRing" "totalBefore" "J" (.long bf)) (P6_V : JV Value.long Z h0 ta .long nl gt) (P7_V : JV Value.long Z h0 tA .long nl gT) (P8_NE : o0 ≠ ta) (P9_NE : o0 ≠ tA) (P10_NE : ta ≠ tA) (hfi : (0 ≤ fi.toInt ∧ fi.toInt < nl.toInt)) (hsz : (0 ≤ sz.toInt ∧ sz.toInt ≤ nl.toInt)) (hl4 : (nl.toInt ≤ 4)) :
    MetFree l (⟨"com/example/lean_throttle/leanthrottle/TimeRing", "oldest", "()J"⟩ : MethodName) (head1 (Jvm.Cond.code (⟨"com/example/lean_throttle/leanthrottle/TimeRing", "oldest", "()J"⟩ : MethodName) prog_21_method_3_code 1 (some .long) :: ws) ({ frames := 0, cells := 0, slots := 0, locals := 0 } : Room)) (fun a U => a = #[(.ref o0)] ∧ Z.Warmed39 U.vm ∧ U.heap = h0) (fun _ _ _ _ _ => True) (fun _ U o U' => ∃ v L, o = .returned v ∧ Q14 Z o0 ta tA fi sz nl bf gt gT h0 n0 v U'.heap L ∧ FrameEnd U o U' L ({ frames := 0, cells := 0, slots := 0, locals := 0 } : Room).cells ({ frames := 0, cells := 0, slots := 0, locals := 0 } : Room).slots) := by
  refine MetFree.of_bodySF (plainFor_of_name pn_com_example_lean_throttle_leanthrottle_TimeRing) hisR ?_
  intro p e s m args below meth c s₁ Bd hml0 hP hK
  obtain ⟨rfl, hZ, hh⟩ := hP
  have hx := Bd.exec
  have hby := Bd.bytes
  have hml : c.maxLocals = 1 := hml0
  have hown : s.vm.findClass "com/example/lean_throttle/leanthrottle/TimeRing" = some m.cls := findClass_of_methodNamed Bd.named
  have hnm := (name_of_methodNamed Bd.named Bd.method).1
  have X0 : Stand p l e ({ frames := 0, cells := 0, slots := 0, locals := 0 } : Room) s m #[(.ref o0)] below meth c s₁ [] 0 0 := Stand.of_body Bd
  have e0 : s₁.heap = h0 := by rw [← hh, Bd.state]; rfl
  have N0 := Fr.nil n0
  have K0 : Keep h0 h0 [] := Keep.refl _ _
  obtain ⟨G, hG⟩ : ∃ z, z = s₁.setTop (entryFrame m #[(.ref o0)] 1) := ⟨_, rfl⟩
  have pre0 : Lead p e below G (s₁.setTop (mkF m 0 #[.val (.ref o0)] [])) := fun t k => by rw [hG]; exact castTop (ef_14 m o0) k
  have pre1 : Lead p e below G (s₁.setTop (mkF m 1 #[.val (.ref o0)] [(.ref o0)])) := fun t k => by
    refine pre0 t ?_
    show Steps p.tables e below (s₁.setTop (mkF m 0 #[.val (.ref o0)] [])) _
    refine XS.aloadN X0.here hx rfl (hb hby d14_0) rfl rfl ?_
    show Steps p.tables e below (s₁.setTop (mkF m 1 #[.val (.ref o0)] [(.ref o0)])) _
    exact k
  obtain ⟨T2, X2, e2, st2⟩ := getF X0 hx hZ hown (host := "") (Or.inl (hw _ (List.mem_of_getElem? (i := 14) rfl))) Via.refl e0 P1_F (g := (mkF m 1 #[.val (.ref o0)] [(.ref o0)])) rfl rfl (hb hby d14_1)
  have pre2 : Lead p e below G (T2.setTop (mkF m 4 #[.val (.ref o0)] [(.ref ta)])) := fun t k => pre1 t (st2 _ k)
  have pre3 : Lead p e below G (T2.setTop (mkF m 5 #[.val (.ref o0)] [(.ref o0), (.ref ta)])) := fun t k => by
    refine pre2 t ?_
    show Steps p.tables e below (T2.setTop (mkF m 4 #[.val (.ref o0)] [(.ref ta)])) _
    refine XS.aloadN X2.here hx rfl (hb hby d14_4) rfl rfl ?_
    exact k
  obtain ⟨T4, X4, e4, st4⟩ := getF X2 hx hZ hown (host := "") (Or.inl (hw _ (List.mem_of_getElem? (i := 40) rfl))) Via.refl e2 P3_F (g := (mkF m 5 #[.val (.ref o0)] [(.ref o0), (.ref ta)])) rfl rfl (hb hby d14_5)
  have pre4 : Lead p e below G (T4.setTop (mkF m 8 #[.val (.ref o0)] [(.int fi), (.ref ta)])) := fun t k => pre3 t (st4 _ k)
  obtain ⟨cl5, Ar5, hin5, hat5⟩ := P6_V.in (j := fi) ⟨by rw [Int32.lt_iff_toInt_lt, Int32.toInt_zero]; omega, Int32.lt_iff_toInt_lt.mpr hfi.2⟩
  have st5 := X4.laload hx (j := fi) (v := (.long (gt (fi).toNatClampNeg))) (by rw [e4]; exact Ar5.1) (State.isArrayOf_alike hZ.alike Ar5.2.1) Ar5.2.2 hin5 hat5 (g := (mkF m 8 #[.val (.ref o0)] [(.int fi), (.ref ta)])) rfl rfl (hb hby d14_8)
  have pre5 : Lead p e below G (T4.setTop (mkF m 9 #[.val (.ref o0)] [(.long (gt (fi).toNatClampNeg))])) := fun t k => pre4 t (st5 _ k)
  obtain ⟨fs, hr, hrun, hended, hW, hsame⟩ := X4.leave (v := some (.long (gt (fi).toNatClampNeg))) (fun h => by rw [Bd.returns] at h; cases h)
  have preF : Lead p e below (s₁.setTop (entryFrame m #[(.ref o0)] 1)) (T4.setTop (mkF m 9 #[.val (.ref o0)] [(.long (gt (fi).toNatClampNeg))])) := by rw [← hG]; exact pre5
  refine ⟨_, _, preF _ ?_, hrun, hended, _, _, rfl, ?_, ⟨_, rfl⟩, hW, hsame.mono (by decide) (by decide)⟩
  · show Steps p.tables e below (T4.setTop (mkF m 9 #[.val (.ref o0)] [(.long (gt (fi).toNatClampNeg))])) _
    exact retJ X4 hx Bd.returns (hb hby d14_9) hr
  · show Q14 Z o0 ta tA fi sz nl bf gt gT h0 n0 _ T4.heap _
    rw [e4]
    have hv_ : (gt (fi).toNatClampNeg) = F14 fi gt := (aux14_6 o0 ta tA fi sz nl bf gt gT)
    exact ⟨congrArg (fun z => some (Value.long z)) hv_, N0, rfl⟩
theorem d15_0 : decode prog_21_method_4_code 0 = .ok (.aload_n 0, 1) := by decide +kernel
theorem d15_1 : decode prog_21_method_4_code 1 = .ok (.getfield 7, 3) := by decide +kernel
theorem d15_4 : decode prog_21_method_4_code 4 = .ok (.aload_n 0, 1) := by decide +kernel
theorem d15_5 : decode prog_21_method_4_code 5 = .ok (.aload_n 0, 1) := by decide +kernel
theorem d15_6 : decode prog_21_method_4_code 6 = .ok (.getfield 16, 3) := by decide +kernel
theorem d15_9 : decode prog_21_method_4_code 9 = .ok (.iconst 1, 1) := by decide +kernel
theorem d15_10 : decode prog_21_method_4_code 10 = .ok (.isub, 1) := by decide +kernel
theorem d15_11 : decode prog_21_method_4_code 11 = .ok (.invokevirtual 23, 3) := by decide +kernel
theorem d15_14 : decode prog_21_method_4_code 14 = .ok (.laload, 1) := by decide +kernel
theorem d15_15 : decode prog_21_method_4_code 15 = .ok (.lreturn, 1) := by decide +kernel
def F15 (fi : Int32) (sz : Int32) (nl : Int32) (gt : Nat → Int64) : Int64 := (gt ((AtI fi (sz - (1 : Int32)) nl)).toNatClampNeg)
theorem aux15_8 (o0 : Addr) (ta : Addr) (tA : Addr) (fi : Int32) (sz : Int32) (nl : Int32) (bf : Int64) (gt : Nat → Int64) (gT : Nat → Int64)   : (gt ((AtI fi (sz - (1 : Int32)) nl)).toNatClampNeg) = F15 fi sz nl gt := by
  skip
  rfl
theorem ef_15 (m : MethodId) (o0 : Addr) : entryFrame m #[(.ref o0)] 1 = mkF m 0 #[.val (.ref o0)] [] := by first | (simp [entryFrame, mkF, argsToLocals, Value.category]; done) | rfl
def Q15 (Z : State) (o0 : Addr) (ta : Addr) (tA : Addr) (fi : Int32) (sz : Int32) (nl : Int32) (bf : Int64) (gt : Nat → Int64) (gT : Nat → Int64) (h0 : Heap) (n0 : Nat) (v : Option Value) (h : Heap) (L : List Loc) : Prop := v = some (.long (F15 fi sz nl gt)) ∧ Fr n0 L ∧ h = h0
set_option maxRecDepth 65536 in
set_option maxHeartbeats 40000000 in
theorem rm15 (l : Launch) (Z : State) (a0 : Array Value) (hw : ∀ d ∈ tables_1, d.before a0 Z = true) (ws : List Jvm.Cond) (o0 : Addr) (ta : Addr) (tA : Addr) (fi : Int32) (sz : Int32) (nl : Int32) (bf : Int64) (gt : Nat → Int64) (gT : Nat → Int64) (h0 : Heap) (n0 : Nat) (Z0 : n0 ≤ h0.size) (P0_E : Exa Z h0 o0 "com/example/lean_throttle/leanthrottle/TimeRing") (P1_F : Fld Z h0 o0 "com/example/lean_throttle/leanthrottle/TimeRing" "times" "[J" (.ref ta)) (P2_F : Fld Z h0 o0 "com/example/lean_throttle/leanthrottle/TimeRing" "totals" "[J" (.ref tA)) (P3_F : Fld Z h0 o0 "com/example/lean_throttle/leanthrottle/TimeRing" "first" "I" (.int fi)) (P4_F : Fld Z h0 o0 "com/example/lean_throttle/leanthrottle/TimeRing" "size" "I" (.int sz)) (P5_F : Fld Z h0 o0 "com/example/lean_throttle/leanthrottle/TimeRing" "totalBefore" "J" (.long bf)) (P6_V : JV Value.long Z h0 ta .long nl gt) (P7_V : JV Value.long Z h0 tA .long nl gT) (P8_NE : o0 ≠ ta) (P9_NE : o0 ≠ tA) (P10_NE : ta ≠ tA) (hfi : (0 ≤ fi.toInt ∧ fi.toInt < nl.toInt)) (hsz : (0 ≤ sz.toInt ∧ sz.toInt ≤ nl.toInt)) (hl4 : (nl.toInt ≤ 4)) (hpos : ((0 : Int32) < sz)) :
    MetFree l (⟨"com/example/lean_throttle/leanthrottle/TimeRing", "newest", "()J"⟩ : MethodName) (head1 (Jvm.Cond.code (⟨"com/example/lean_throttle/leanthrottle/TimeRing", "newest", "()J"⟩ : MethodName) prog_21_method_4_code 1 (some .long) :: ws) ({ frames := 1, cells := 0, slots := 0, locals := 15 } : Room)) (fun a U => a = #[(.ref o0)] ∧ Z.Warmed39 U.vm ∧ U.heap = h0) (fun _ _ _ _ _ => True) (fun _ U o U' => ∃ v L, o = .returned v ∧ Q15 Z o0 ta tA fi sz nl bf gt gT h0 n0 v U'.heap L ∧ FrameEnd U o U' L ({ frames := 1, cells := 0, slots := 0, locals := 15 } : Room).cells ({ frames := 1, cells := 0, slots := 0, locals := 15 } : Room).slots) := by
  refine MetFree.of_bodySF (plainFor_of_name pn_com_example_lean_throttle_leanthrottle_TimeRing) hisR ?_
  intro p e s m args below meth c s₁ Bd hml0 hP hK
  obtain ⟨rfl, hZ, hh⟩ := hP
  have hx := Bd.exec
  have hby := Bd.bytes
  have hml : c.maxLocals = 1 := hml0
  have hown : s.vm.findClass "com/example/lean_throttle/leanthrottle/TimeRing" = some m.cls := findClass_of_methodNamed Bd.named
  have hnm := (name_of_methodNamed Bd.named Bd.method).1
  have X0 : Stand p l e ({ frames := 1, cells := 0, slots := 0, locals := 15 } : Room) s m #[(.ref o0)] below meth c s₁ [] 0 0 := Stand.of_body Bd
  have e0 : s₁.heap = h0 := by rw [← hh, Bd.state]; rfl
  have N0 := Fr.nil n0
  have K0 : Keep h0 h0 [] := Keep.refl _ _
  obtain ⟨G, hG⟩ : ∃ z, z = s₁.setTop (entryFrame m #[(.ref o0)] 1) := ⟨_, rfl⟩
  have pre0 : Lead p e below G (s₁.setTop (mkF m 0 #[.val (.ref o0)] [])) := fun t k => by rw [hG]; exact castTop (ef_15 m o0) k
  have pre1 : Lead p e below G (s₁.setTop (mkF m 1 #[.val (.ref o0)] [(.ref o0)])) := fun t k => by
    refine pre0 t ?_
    show Steps p.tables e below (s₁.setTop (mkF m 0 #[.val (.ref o0)] [])) _
    refine XS.aloadN X0.here hx rfl (hb hby d15_0) rfl rfl ?_
    exact k
  obtain ⟨T2, X2, e2, st2⟩ := getF X0 hx hZ hown (host := "") (Or.inl (hw _ (List.mem_of_getElem? (i := 14) rfl))) Via.refl e0 P1_F (g := (mkF m 1 #[.val (.ref o0)] [(.ref o0)])) rfl rfl (hb hby d15_1)
  have pre2 : Lead p e below G (T2.setTop (mkF m 4 #[.val (.ref o0)] [(.ref ta)])) := fun t k => pre1 t (st2 _ k)
  have pre3 : Lead p e below G (T2.setTop (mkF m 6 #[.val (.ref o0)] [(.ref o0), (.ref o0), (.ref ta)])) := fun t k => by
    refine pre2 t ?_
    show Steps p.tables e below (T2.setTop (mkF m 4 #[.val (.ref o0)] [(.ref ta)])) _
    refine XS.aloadN X2.here hx rfl (hb hby d15_4) rfl rfl ?_
    show Steps p.tables e below (T2.setTop (mkF m 5 #[.val (.ref o0)] [(.ref o0), (.ref ta)])) _
    refine XS.aloadN X2.here hx rfl (hb hby d15_5) rfl rfl ?_
    exact k
  obtain ⟨T4, X4, e4, st4⟩ := getF X2 hx hZ hown (host := "") (Or.inl (hw _ (List.mem_of_getElem? (i := 32) rfl))) Via.refl e2 P4_F (g := (mkF m 6 #[.val (.ref o0)] [(.ref o0), (.ref o0), (.ref ta)])) rfl rfl (hb hby d15_6)
  have pre4 : Lead p e below G (T4.setTop (mkF m 9 #[.val (.ref o0)] [(.int sz), (.ref o0), (.ref ta)])) := fun t k => pre3 t (st4 _ k)
  have pre5 : Lead p e below G (T4.setTop (mkF m 11 #[.val (.ref o0)] [(.int (sz - (1 : Int32))), (.ref o0), (.ref ta)])) := fun t k => by
    refine pre4 t ?_
    show Steps p.tables e below (T4.setTop (mkF m 9 #[.val (.ref o0)] [(.int sz), (.ref o0), (.ref ta)])) _
    refine XS.iconst X4.here hx rfl (hb hby d15_9) ?_
    refine XS.isub X4.here hx rfl (hb hby d15_10) rfl ?_
    show Steps p.tables e below (T4.setTop (mkF m 11 #[.val (.ref o0)] [(.int (sz - (1 : Int32))), (.ref o0), (.ref ta)])) _
    exact k
  obtain ⟨cq6, zq6, zq6'⟩ := P0_E.cell
  obtain ⟨_, _, ⟨T6, L6, k6, n6⟩, -, X6, ⟨Lc6, hQ6, l6, y6, z6⟩, st6⟩ := X4.privateBack hx (y := (⟨"com/example/lean_throttle/leanthrottle/TimeRing", "at", "(I)I"⟩ : MethodName)) hown (mvT hZ (hw _ (List.mem_of_getElem? (i := 36) rfl))) (mvT hZ (hw _ (List.mem_of_getElem? (i := 37) rfl))) (own_selp hZ (hw _ (List.mem_of_getElem? (i := 5) rfl)) (hw _ (List.mem_of_getElem? (i := 38) rfl)) (hw _ (List.mem_of_getElem? (i := 37) rfl)) (by decide)) (Cond.privateMethod_at (mvP hZ (hw _ (List.mem_of_getElem? (i := 38) rfl)) (args := #[]))) (mvT hZ (hw _ (List.mem_of_getElem? (i := 39) rfl))) (by decide) (backOf (W := 1) (rm7 l Z a0 hw [] o0 (sz - (1 : Int32)) fi ta nl gt h0 n0 (Nat.le_trans Z0 K0.1) P3_F P1_F P6_V) hZ (hw _ (List.mem_of_getElem? (i := 39) rfl)) (hw _ (List.mem_of_getElem? (i := 6) rfl)) (by decide) (by decide)) (g := (mkF m 11 #[.val (.ref o0)] [(.int (sz - (1 : Int32))), (.ref o0), (.ref ta)])) rfl (by rw [hml]; rfl) (Steps.refl _) (a := o0) (by rw [e4]; exact zq6) zq6' (argsL := [(.int (sz - (1 : Int32)))]) (rest := [(.ref ta)]) (lenOf pd__28_I_29_I rfl) rfl (by show 2 * 0 + _ ≤ _; exact Nat.le_of_eq rfl) (hb hby d15_11) (fun _ _ => ⟨rfl, e4, (by decide : 0 + 0 ≤ _), (by decide : 0 + 0 ≤ _)⟩)
  dsimp only [Pt.U, Pt.locs, Pt.cells, Pt.slots] at X6 l6 y6 z6 st6 hQ6
  subst l6 y6 z6
  obtain ⟨rfl, N6q, e6⟩ := hQ6
  have N6 := Fr.app N0 N6q
  obtain ⟨M6, Y6, N6⟩ : ∃ M, Stand p l e ({ frames := 1, cells := 0, slots := 0, locals := 15 } : Room) s m #[(.ref o0)] below meth c T6 M 0 0 ∧ Fr n0 M := ⟨_, X6, N6⟩
  have pre6 : Lead p e below G (T6.setTop (mkF m 14 #[.val (.ref o0)] [(.int (AtI fi (sz - (1 : Int32)) nl)), (.ref ta)])) := fun t k => pre5 t (st6.trans k)
  obtain ⟨cl7, Ar7, hin7, hat7⟩ := P6_V.in (j := (AtI fi (sz - (1 : Int32)) nl)) (by skip; exact (own_pb hfi hsz hl4 hpos))
  have st7 := Y6.laload hx (j := (AtI fi (sz - (1 : Int32)) nl)) (v := (.long (gt ((AtI fi (sz - (1 : Int32)) nl)).toNatClampNeg))) (by rw [e6]; exact Ar7.1) (State.isArrayOf_alike hZ.alike Ar7.2.1) Ar7.2.2 hin7 hat7 (g := (mkF m 14 #[.val (.ref o0)] [(.int (AtI fi (sz - (1 : Int32)) nl)), (.ref ta)])) rfl rfl (hb hby d15_14)
  have pre7 : Lead p e below G (T6.setTop (mkF m 15 #[.val (.ref o0)] [(.long (gt ((AtI fi (sz - (1 : Int32)) nl)).toNatClampNeg))])) := fun t k => pre6 t (st7 _ k)
  obtain ⟨fs, hr, hrun, hended, hW, hsame⟩ := Y6.leave (v := some (.long (gt ((AtI fi (sz - (1 : Int32)) nl)).toNatClampNeg))) (fun h => by rw [Bd.returns] at h; cases h)
  have preF : Lead p e below (s₁.setTop (entryFrame m #[(.ref o0)] 1)) (T6.setTop (mkF m 15 #[.val (.ref o0)] [(.long (gt ((AtI fi (sz - (1 : Int32)) nl)).toNatClampNeg))])) := by rw [← hG]; exact pre7
  refine ⟨_, _, preF _ ?_, hrun, hended, _, _, rfl, ?_, ⟨_, rfl⟩, hW, hsame.mono (by decide) (by decide)⟩
  · show Steps p.tables e below (T6.setTop (mkF m 15 #[.val (.ref o0)] [(.long (gt ((AtI fi (sz - (1 : Int32)) nl)).toNatClampNeg))])) _
    exact retJ Y6 hx Bd.returns (hb hby d15_15) hr
  · show Q15 Z o0 ta tA fi sz nl bf gt gT h0 n0 _ T6.heap _
    rw [e6]
    have hv_ : (gt ((AtI fi (sz - (1 : Int32)) nl)).toNatClampNeg) = F15 fi sz nl gt := (aux15_8 o0 ta tA fi sz nl bf gt gT)
    exact ⟨congrArg (fun z => some (Value.long z)) hv_, N6, rfl⟩
theorem d16_0 : decode prog_21_method_7_code 0 = .ok (.iload_n 1, 1) := by decide +kernel
theorem d16_1 : decode prog_21_method_7_code 1 = .ok (.ifCond .ne 10, 3) := by decide +kernel
theorem d16_4 : decode prog_21_method_7_code 4 = .ok (.aload_n 0, 1) := by decide +kernel
theorem d16_5 : decode prog_21_method_7_code 5 = .ok (.getfield 31, 3) := by decide +kernel
theorem d16_8 : decode prog_21_method_7_code 8 = .ok (.goto 15, 3) := by decide +kernel
theorem d16_23 : decode prog_21_method_7_code 23 = .ok (.lstore_n 2, 1) := by decide +kernel
theorem d16_24 : decode prog_21_method_7_code 24 = .ok (.aload_n 0, 1) := by decide +kernel
theorem d16_25 : decode prog_21_method_7_code 25 = .ok (.getfield 13, 3) := by decide +kernel
theorem d16_28 : decode prog_21_method_7_code 28 = .ok (.aload_n 0, 1) := by decide +kernel
theorem d16_29 : decode prog_21_method_7_code 29 = .ok (.iload_n 1, 1) := by decide +kernel
theorem d16_30 : decode prog_21_method_7_code 30 = .ok (.invokevirtual 23, 3) := by decide +kernel
theorem d16_33 : decode prog_21_method_7_code 33 = .ok (.laload, 1) := by decide +kernel
theorem d16_34 : decode prog_21_method_7_code 34 = .ok (.lload_n 2, 1) := by decide +kernel
theorem d16_35 : decode prog_21_method_7_code 35 = .ok (.lsub, 1) := by decide +kernel
theorem d16_36 : decode prog_21_method_7_code 36 = .ok (.lreturn, 1) := by decide +kernel
def F16 (fi : Int32) (nl : Int32) (bf : Int64) (gT : Nat → Int64) : Int64 := ((gT ((AtI fi (0 : Int32) nl)).toNatClampNeg) - bf)
theorem aux16_9 (o0 : Addr) (ta : Addr) (tA : Addr) (fi : Int32) (sz : Int32) (nl : Int32) (bf : Int64) (gt : Nat → Int64) (gT : Nat → Int64)   : ((gT ((AtI fi (0 : Int32) nl)).toNatClampNeg) - bf) = F16 fi nl bf gT := by
  skip
  rfl
theorem ef_16 (m : MethodId) (o0 : Addr) : entryFrame m #[(.ref o0), (.int (0 : Int32))] 4 = mkF m 0 #[.val (.ref o0), .val (.int (0 : Int32)), .unset, .unset] [] := by first | (simp [entryFrame, mkF, argsToLocals, Value.category]; done) | rfl
def Q16 (Z : State) (o0 : Addr) (ta : Addr) (tA : Addr) (fi : Int32) (sz : Int32) (nl : Int32) (bf : Int64) (gt : Nat → Int64) (gT : Nat → Int64) (h0 : Heap) (n0 : Nat) (v : Option Value) (h : Heap) (L : List Loc) : Prop := v = some (.long (F16 fi nl bf gT)) ∧ Fr n0 L ∧ h = h0
set_option maxRecDepth 65536 in
set_option maxHeartbeats 40000000 in
theorem rm16 (l : Launch) (Z : State) (a0 : Array Value) (hw : ∀ d ∈ tables_1, d.before a0 Z = true) (ws : List Jvm.Cond) (o0 : Addr) (ta : Addr) (tA : Addr) (fi : Int32) (sz : Int32) (nl : Int32) (bf : Int64) (gt : Nat → Int64) (gT : Nat → Int64) (h0 : Heap) (n0 : Nat) (Z0 : n0 ≤ h0.size) (P0_E : Exa Z h0 o0 "com/example/lean_throttle/leanthrottle/TimeRing") (P1_F : Fld Z h0 o0 "com/example/lean_throttle/leanthrottle/TimeRing" "times" "[J" (.ref ta)) (P2_F : Fld Z h0 o0 "com/example/lean_throttle/leanthrottle/TimeRing" "totals" "[J" (.ref tA)) (P3_F : Fld Z h0 o0 "com/example/lean_throttle/leanthrottle/TimeRing" "first" "I" (.int fi)) (P4_F : Fld Z h0 o0 "com/example/lean_throttle/leanthrottle/TimeRing" "size" "I" (.int sz)) (P5_F : Fld Z h0 o0 "com/example/lean_throttle/leanthrottle/TimeRing" "totalBefore" "J" (.long bf)) (P6_V : JV Value.long Z h0 ta .long nl gt) (P7_V : JV Value.long Z h0 tA .long nl gT) (P8_NE : o0 ≠ ta) (P9_NE : o0 ≠ tA) (P10_NE : ta ≠ tA) (hfi : (0 ≤ fi.toInt ∧ fi.toInt < nl.toInt)) (hsz : (0 ≤ sz.toInt ∧ sz.toInt ≤ nl.toInt)) (hl4 : (nl.toInt ≤ 4)) :
    MetFree l (⟨"com/example/lean_throttle/leanthrottle/TimeRing", "unitsOf", "(I)J"⟩ : MethodName) (head1 (Jvm.Cond.code (⟨"com/example/lean_throttle/leanthrottle/TimeRing", "unitsOf", "(I)J"⟩ : MethodName) prog_21_method_7_code 4 (some .long) :: ws) ({ frames := 1, cells := 0, slots := 0, locals := 15 } : Room)) (fun a U => a = #[(.ref o0), (.int (0 : Int32))] ∧ Z.Warmed39 U.vm ∧ U.heap = h0) (fun _ _ _ _ _ => True) (fun _ U o U' => ∃ v L, o = .returned v ∧ Q16 Z o0 ta tA fi sz nl bf gt gT h0 n0 v U'.heap L ∧ FrameEnd U o U' L ({ frames := 1, cells := 0, slots := 0, locals := 15 } : Room).cells ({ frames := 1, cells := 0, slots := 0, locals := 15 } : Room).slots) := by
  refine MetFree.of_bodySF (plainFor_of_name pn_com_example_lean_throttle_leanthrottle_TimeRing) hisR ?_
  intro p e s m args below meth c s₁ Bd hml0 hP hK
  obtain ⟨rfl, hZ, hh⟩ := hP
  have hx := Bd.exec
  have hby := Bd.bytes
  have hml : c.maxLocals = 4 := hml0
  have hown : s.vm.findClass "com/example/lean_throttle/leanthrottle/TimeRing" = some m.cls := findClass_of_methodNamed Bd.named
  have hnm := (name_of_methodNamed Bd.named Bd.method).1
  have X0 : Stand p l e ({ frames := 1, cells := 0, slots := 0, locals := 15 } : Room) s m #[(.ref o0), (.int (0 : Int32))] below meth c s₁ [] 0 0 := Stand.of_body Bd
  have e0 : s₁.heap = h0 := by rw [← hh, Bd.state]; rfl
  have N0 := Fr.nil n0
  have K0 : Keep h0 h0 [] := Keep.refl _ _
  obtain ⟨G, hG⟩ : ∃ z, z = s₁.setTop (entryFrame m #[(.ref o0), (.int (0 : Int32))] 4) := ⟨_, rfl⟩
  have pre0 : Lead p e below G (s₁.setTop (mkF m 0 #[.val (.ref o0), .val (.int (0 : Int32)), .unset, .unset] [])) := fun t k => by rw [hG]; exact castTop (ef_16 m o0) k
  have hf1 : (0 : Int32) = (0 : Int32) := (by decide)
  have pre2 : Lead p e below G (s₁.setTop (mkF m 5 #[.val (.ref o0), .val (.int (0 : Int32)), .unset, .unset] [(.ref o0)])) := fun t k => by
    refine pre0 t ?_
    show Steps p.tables e below (s₁.setTop (mkF m 0 #[.val (.ref o0), .val (.int (0 : Int32)), .unset, .unset] [])) _
    refine XS.iloadN X0.here hx rfl (hb hby d16_0) rfl ?_
    refine XS.ifNo X0.here hx rfl (hb hby d16_1) rfl ((if0 _ _).trans (teq hf1).2) ?_
    refine XS.aloadN X0.here hx rfl (hb hby d16_4) rfl rfl ?_
    show Steps p.tables e below (s₁.setTop (mkF m 5 #[.val (.ref o0), .val (.int (0 : Int32)), .unset, .unset] [(.ref o0)])) _
    exact k
  obtain ⟨T3, X3, e3, st3⟩ := getF X0 hx hZ hown (host := "") (Or.inl (hw _ (List.mem_of_getElem? (i := 34) rfl))) Via.refl e0 P5_F (g := (mkF m 5 #[.val (.ref o0), .val (.int (0 : Int32)), .unset, .unset] [(.ref o0)])) rfl rfl (hb hby d16_5)
  have pre3 : Lead p e below G (T3.setTop (mkF m 8 #[.val (.ref o0), .val (.int (0 : Int32)), .unset, .unset] [(.long bf)])) := fun t k => pre2 t (st3 _ k)
  have pre4 : Lead p e below G (T3.setTop (mkF m 25 #[.val (.ref o0), .val (.int (0 : Int32)), .val (.long bf), .second] [(.ref o0)])) := fun t k => by
    refine pre3 t ?_
    show Steps p.tables e below (T3.setTop (mkF m 8 #[.val (.ref o0), .val (.int (0 : Int32)), .unset, .unset] [(.long bf)])) _
    refine XS.goto X3.here hx rfl (pc0 := 8) (pc' := 23) rfl (hb hby d16_8) (by decide) (by decide) ?_
    refine XS.lstoreN X3.here hx rfl (hb hby d16_23) rfl (l' := #[.val (.ref o0), .val (.int (0 : Int32)), .val (.long bf), .second]) rfl ?_
    refine XS.aloadN X3.here hx rfl (hb hby d16_24) rfl rfl ?_
    show Steps p.tables e below (T3.setTop (mkF m 25 #[.val (.ref o0), .val (.int (0 : Int32)), .val (.long bf), .second] [(.ref o0)])) _
    exact k
  obtain ⟨T5, X5, e5, st5⟩ := getF X3 hx hZ hown (host := "") (Or.inl (hw _ (List.mem_of_getElem? (i := 16) rfl))) Via.refl e3 P2_F (g := (mkF m 25 #[.val (.ref o0), .val (.int (0 : Int32)), .val (.long bf), .second] [(.ref o0)])) rfl rfl (hb hby d16_25)
  have pre5 : Lead p e below G (T5.setTop (mkF m 28 #[.val (.ref o0), .val (.int (0 : Int32)), .val (.long bf), .second] [(.ref tA)])) := fun t k => pre4 t (st5 _ k)
  have pre6 : Lead p e below G (T5.setTop (mkF m 30 #[.val (.ref o0), .val (.int (0 : Int32)), .val (.long bf), .second] [(.int (0 : Int32)), (.ref o0), (.ref tA)])) := fun t k => by
    refine pre5 t ?_
    show Steps p.tables e below (T5.setTop (mkF m 28 #[.val (.ref o0), .val (.int (0 : Int32)), .val (.long bf), .second] [(.ref tA)])) _
    refine XS.aloadN X5.here hx rfl (hb hby d16_28) rfl rfl ?_
    refine XS.iloadN X5.here hx rfl (hb hby d16_29) rfl ?_
    exact k
  obtain ⟨cq7, zq7, zq7'⟩ := P0_E.cell
  obtain ⟨_, _, ⟨T7, L7, k7, n7⟩, -, X7, ⟨Lc7, hQ7, l7, y7, z7⟩, st7⟩ := X5.privateBack hx (y := (⟨"com/example/lean_throttle/leanthrottle/TimeRing", "at", "(I)I"⟩ : MethodName)) hown (mvT hZ (hw _ (List.mem_of_getElem? (i := 36) rfl))) (mvT hZ (hw _ (List.mem_of_getElem? (i := 37) rfl))) (own_selp hZ (hw _ (List.mem_of_getElem? (i := 5) rfl)) (hw _ (List.mem_of_getElem? (i := 38) rfl)) (hw _ (List.mem_of_getElem? (i := 37) rfl)) (by decide)) (Cond.privateMethod_at (mvP hZ (hw _ (List.mem_of_getElem? (i := 38) rfl)) (args := #[]))) (mvT hZ (hw _ (List.mem_of_getElem? (i := 39) rfl))) (by decide) (backOf (W := 1) (rm7 l Z a0 hw [] o0 (0 : Int32) fi ta nl gt h0 n0 (Nat.le_trans Z0 K0.1) P3_F P1_F P6_V) hZ (hw _ (List.mem_of_getElem? (i := 39) rfl)) (hw _ (List.mem_of_getElem? (i := 6) rfl)) (by decide) (by decide)) (g := (mkF m 30 #[.val (.ref o0), .val (.int (0 : Int32)), .val (.long bf), .second] [(.int (0 : Int32)), (.ref o0), (.ref tA)])) rfl (by rw [hml]; rfl) (Steps.refl _) (a := o0) (by rw [e5]; exact zq7) zq7' (argsL := [(.int (0 : Int32))]) (rest := [(.ref tA)]) (lenOf pd__28_I_29_I rfl) rfl (by show 2 * 0 + _ ≤ _; exact Nat.le_of_eq rfl) (hb hby d16_30) (fun _ _ => ⟨rfl, e5, (by decide : 0 + 0 ≤ _), (by decide : 0 + 0 ≤ _)⟩)
  dsimp only [Pt.U, Pt.locs, Pt.cells, Pt.slots] at X7 l7 y7 z7 st7 hQ7
  subst l7 y7 z7
  obtain ⟨rfl, N7q, e7⟩ := hQ7
  have N7 := Fr.app N0 N7q
  obtain ⟨M7, Y7, N7⟩ : ∃ M, Stand p l e ({ frames := 1, cells := 0, slots := 0, locals := 15 } : Room) s m #[(.ref o0), (.int (0 : Int32))] below meth c T7 M 0 0 ∧ Fr n0 M := ⟨_, X7, N7⟩
  have pre7 : Lead p e below G (T7.setTop (mkF m 33 #[.val (.ref o0), .val (.int (0 : Int32)), .val (.long bf), .second] [(.int (AtI fi (0 : Int32) nl)), (.ref tA)])) := fun t k => pre6 t (st7.trans k)
  obtain ⟨cl8, Ar8, hin8, hat8⟩ := P7_V.in (j := (AtI fi (0 : Int32) nl)) (by skip; exact (own_nb hfi ⟨by decide, by have z : (0 : Int32).toInt = 0 := (by decide); omega⟩ hl4))
  have st8 := Y7.laload hx (j := (AtI fi (0 : Int32) nl)) (v := (.long (gT ((AtI fi (0 : Int32) nl)).toNatClampNeg))) (by rw [e7]; exact Ar8.1) (State.isArrayOf_alike hZ.alike Ar8.2.1) Ar8.2.2 hin8 hat8 (g := (mkF m 33 #[.val (.ref o0), .val (.int (0 : Int32)), .val (.long bf), .second] [(.int (AtI fi (0 : Int32) nl)), (.ref tA)])) rfl rfl (hb hby d16_33)
  have pre8 : Lead p e below G (T7.setTop (mkF m 34 #[.val (.ref o0), .val (.int (0 : Int32)), .val (.long bf), .second] [(.long (gT ((AtI fi (0 : Int32) nl)).toNatClampNeg))])) := fun t k => pre7 t (st8 _ k)
  obtain ⟨fs, hr, hrun, hended, hW, hsame⟩ := Y7.leave (v := some (.long ((gT ((AtI fi (0 : Int32) nl)).toNatClampNeg) - bf))) (fun h => by rw [Bd.returns] at h; cases h)
  have preF : Lead p e below (s₁.setTop (entryFrame m #[(.ref o0), (.int (0 : Int32))] 4)) (T7.setTop (mkF m 34 #[.val (.ref o0), .val (.int (0 : Int32)), .val (.long bf), .second] [(.long (gT ((AtI fi (0 : Int32) nl)).toNatClampNeg))])) := by rw [← hG]; exact pre8
  refine ⟨_, _, preF _ ?_, hrun, hended, _, _, rfl, ?_, ⟨_, rfl⟩, hW, hsame.mono (by decide) (by decide)⟩
  · show Steps p.tables e below (T7.setTop (mkF m 34 #[.val (.ref o0), .val (.int (0 : Int32)), .val (.long bf), .second] [(.long (gT ((AtI fi (0 : Int32) nl)).toNatClampNeg))])) _
    refine XS.lloadN Y7.here hx rfl (hb hby d16_34) rfl ?_
    show Steps p.tables e below (T7.setTop (mkF m 35 #[.val (.ref o0), .val (.int (0 : Int32)), .val (.long bf), .second] [(.long bf), (.long (gT ((AtI fi (0 : Int32) nl)).toNatClampNeg))])) _
    refine XS.lsub Y7.here hx rfl (hb hby d16_35) rfl ?_
    exact retJ Y7 hx Bd.returns (hb hby d16_36) hr
  · show Q16 Z o0 ta tA fi sz nl bf gt gT h0 n0 _ T7.heap _
    rw [e7]
    have hv_ : ((gT ((AtI fi (0 : Int32) nl)).toNatClampNeg) - bf) = F16 fi nl bf gT := (aux16_9 o0 ta tA fi sz nl bf gt gT)
    exact ⟨congrArg (fun z => some (Value.long z)) hv_, N7, rfl⟩
theorem d4_0 : decode method_2_code 0 = .ok (.iload_n 0, 1) := by decide +kernel
theorem d4_1 : decode method_2_code 1 = .ok (.iconst 1, 1) := by decide +kernel
theorem d4_2 : decode method_2_code 2 = .ok (.iand, 1) := by decide +kernel
theorem d4_3 : decode method_2_code 3 = .ok (.ifCond .ne 7, 3) := by decide +kernel
theorem d4_6 : decode method_2_code 6 = .ok (.lload_n 1, 1) := by decide +kernel
theorem d4_7 : decode method_2_code 7 = .ok (.goto 4, 3) := by decide +kernel
theorem d4_10 : decode method_2_code 10 = .ok (.lload_n 3, 1) := by decide +kernel
theorem d4_11 : decode method_2_code 11 = .ok (.lstore 5, 2) := by decide +kernel
theorem d4_13 : decode method_2_code 13 = .ok (.lload 5, 2) := by decide +kernel
theorem d4_15 : decode method_2_code 15 = .ok (.iload_n 0, 1) := by decide +kernel
theorem d4_16 : decode method_2_code 16 = .ok (.iconst 1, 1) := by decide +kernel
theorem d4_17 : decode method_2_code 17 = .ok (.iushr, 1) := by decide +kernel
theorem d4_18 : decode method_2_code 18 = .ok (.lushr, 1) := by decide +kernel
theorem d4_19 : decode method_2_code 19 = .ok (.ldc2_w 7, 3) := by decide +kernel
theorem d4_22 : decode method_2_code 22 = .ok (.land, 1) := by decide +kernel
theorem d4_23 : decode method_2_code 23 = .ok (.lconst 1, 1) := by decide +kernel
theorem d4_24 : decode method_2_code 24 = .ok (.ladd, 1) := by decide +kernel
theorem d4_25 : decode method_2_code 25 = .ok (.lreturn, 1) := by decide +kernel
def F4 (p0 : Int32) (q1 : Int64) (q2 : Int64) : Int64 := (((((if (p0 &&& (1 : Int32)) = (0 : Int32) then q1 else q2).toUInt64 >>> (((p0.toUInt32 >>> ((1 : Int32) &&& 31).toUInt32).toInt32) &&& 0x3f).toInt64.toUInt64).toInt64) &&& (1152921504606846975 : Int64)) + (1 : Int64))
theorem aux4_3 (p0 : Int32) (q1 : Int64) (q2 : Int64)   : (((((if (p0 &&& (1 : Int32)) = (0 : Int32) then q1 else q2).toUInt64 >>> (((p0.toUInt32 >>> ((1 : Int32) &&& 31).toUInt32).toInt32) &&& 0x3f).toInt64.toUInt64).toInt64) &&& (1152921504606846975 : Int64)) + (1 : Int64)) = F4 p0 q1 q2 := by
  skip
  rfl
theorem pn_com_example_lean_throttle_leanthrottle_TimeRingDropOldestPinLaw : plainName "com/example/lean_throttle/leanthrottle/TimeRingDropOldestPinLaw" = true := by first | (simp [plainName, overriddenIn]; done) | decide +kernel
theorem ef_4 (m : MethodId) (p0 : Int32) (q1 : Int64) (q2 : Int64) : entryFrame m #[(.int p0), (.long q1), (.long q2)] 7 = mkF m 0 #[.val (.int p0), .val (.long q1), .second, .val (.long q2), .second, .unset, .unset] [] := by first | (simp [entryFrame, mkF, argsToLocals, Value.category]; done) | rfl
def Q4 (Z : State) (p0 : Int32) (q1 : Int64) (q2 : Int64)  (h0 : Heap) (n0 : Nat) (v : Option Value) (h : Heap) (L : List Loc) : Prop := v = some (.long (F4 p0 q1 q2)) ∧ Fr n0 L ∧ h = h0
set_option maxRecDepth 65536 in
set_option maxHeartbeats 40000000 in
theorem rm4 (l : Launch) (Z : State) (a0 : Array Value) (hw : ∀ d ∈ tables_1, d.before a0 Z = true) (ws : List Jvm.Cond) (p0 : Int32) (q1 : Int64) (q2 : Int64)  (h0 : Heap) (n0 : Nat) (Z0 : n0 ≤ h0.size)  :
    MetFree l (⟨"com/example/lean_throttle/leanthrottle/TimeRingDropOldestPinLaw", "u", "(IJJ)J"⟩ : MethodName) (head1 (Jvm.Cond.code (⟨"com/example/lean_throttle/leanthrottle/TimeRingDropOldestPinLaw", "u", "(IJJ)J"⟩ : MethodName) method_2_code 7 (some .long) :: ws) ({ frames := 0, cells := 0, slots := 0, locals := 0 } : Room)) (fun a U => a = #[(.int p0), (.long q1), (.long q2)] ∧ Z.Warmed39 U.vm ∧ U.heap = h0) (fun _ _ _ _ _ => True) (fun _ U o U' => ∃ v L, o = .returned v ∧ Q4 Z p0 q1 q2 h0 n0 v U'.heap L ∧ FrameEnd U o U' L ({ frames := 0, cells := 0, slots := 0, locals := 0 } : Room).cells ({ frames := 0, cells := 0, slots := 0, locals := 0 } : Room).slots) := by
  refine MetFree.of_bodySF (plainFor_of_name pn_com_example_lean_throttle_leanthrottle_TimeRingDropOldestPinLaw) hisR ?_
  intro p e s m args below meth c s₁ Bd hml0 hP hK
  obtain ⟨rfl, hZ, hh⟩ := hP
  have hx := Bd.exec
  have hby := Bd.bytes
  have hml : c.maxLocals = 7 := hml0
  have hown : s.vm.findClass "com/example/lean_throttle/leanthrottle/TimeRingDropOldestPinLaw" = some m.cls := findClass_of_methodNamed Bd.named
  have hnm := (name_of_methodNamed Bd.named Bd.method).1
  have X0 : Stand p l e ({ frames := 0, cells := 0, slots := 0, locals := 0 } : Room) s m #[(.int p0), (.long q1), (.long q2)] below meth c s₁ [] 0 0 := Stand.of_body Bd
  have e0 : s₁.heap = h0 := by rw [← hh, Bd.state]; rfl
  have N0 := Fr.nil n0
  have K0 : Keep h0 h0 [] := Keep.refl _ _
  obtain ⟨G, hG⟩ : ∃ z, z = s₁.setTop (entryFrame m #[(.int p0), (.long q1), (.long q2)] 7) := ⟨_, rfl⟩
  have pre0 : Lead p e below G (s₁.setTop (mkF m 0 #[.val (.int p0), .val (.long q1), .second, .val (.long q2), .second, .unset, .unset] [])) := fun t k => by rw [hG]; exact castTop (ef_4 m p0 q1 q2) k
  obtain ⟨fs, hr, hrun, hended, hW, hsame⟩ := X0.leave (v := some (.long (((((if (p0 &&& (1 : Int32)) = (0 : Int32) then q1 else q2).toUInt64 >>> (((p0.toUInt32 >>> ((1 : Int32) &&& 31).toUInt32).toInt32) &&& 0x3f).toInt64.toUInt64).toInt64) &&& (1152921504606846975 : Int64)) + (1 : Int64)))) (fun h => by rw [Bd.returns] at h; cases h)
  have preF : Lead p e below (s₁.setTop (entryFrame m #[(.int p0), (.long q1), (.long q2)] 7)) (s₁.setTop (mkF m 0 #[.val (.int p0), .val (.long q1), .second, .val (.long q2), .second, .unset, .unset] [])) := by rw [← hG]; exact pre0
  refine ⟨_, _, preF _ ?_, hrun, hended, _, _, rfl, ?_, ⟨_, rfl⟩, hW, hsame.mono (by decide) (by decide)⟩
  · show Steps p.tables e below (s₁.setTop (mkF m 0 #[.val (.int p0), .val (.long q1), .second, .val (.long q2), .second, .unset, .unset] [])) _
    refine XS.iloadN X0.here hx rfl (hb hby d4_0) rfl ?_
    refine XS.iconst X0.here hx rfl (hb hby d4_1) ?_
    show Steps p.tables e below (s₁.setTop (mkF m 2 #[.val (.int p0), .val (.long q1), .second, .val (.long q2), .second, .unset, .unset] [(.int (1 : Int32)), (.int p0)])) _
    refine XS.iand X0.here hx rfl (hb hby d4_2) rfl ?_
    show Steps p.tables e below (s₁.setTop (mkF m 3 #[.val (.int p0), .val (.long q1), .second, .val (.long q2), .second, .unset, .unset] [(.int (p0 &&& (1 : Int32)))])) _
    have j2 : ∀ t, Steps p.tables e below (s₁.setTop (mkF m 11 #[.val (.int p0), .val (.long q1), .second, .val (.long q2), .second, .unset, .unset] [(.long (if (p0 &&& (1 : Int32)) = (0 : Int32) then q1 else q2))])) t → Steps p.tables e below (s₁.setTop (mkF m 3 #[.val (.int p0), .val (.long q1), .second, .val (.long q2), .second, .unset, .unset] [(.int (p0 &&& (1 : Int32)))])) t := fun t k => by
      by_cases hc3_1 : (p0 &&& (1 : Int32)) = (0 : Int32)
      · simp only [if_pos hc3_1] at k
        refine XS.ifNo X0.here hx rfl (hb hby d4_3) rfl ((if0 _ _).trans (teq hc3_1).2) ?_
        refine XS.lloadN X0.here hx rfl (hb hby d4_6) rfl ?_
        refine XS.goto X0.here hx rfl (pc0 := 7) (pc' := 11) rfl (hb hby d4_7) (by decide) (by decide) ?_
        show Steps p.tables e below (s₁.setTop (mkF m 11 #[.val (.int p0), .val (.long q1), .second, .val (.long q2), .second, .unset, .unset] [(.long q1)])) _
        exact k
      · simp only [if_neg hc3_1] at k
        refine XS.ifYes X0.here hx rfl (pc0 := 3) (pc' := 10) rfl (hb hby d4_3) rfl ((if0 _ _).trans (feq hc3_1).2) (by decide) (by decide) ?_
        refine XS.lloadN X0.here hx rfl (hb hby d4_10) rfl ?_
        exact k
    refine j2 _ ?_
    show Steps p.tables e below (s₁.setTop (mkF m 11 #[.val (.int p0), .val (.long q1), .second, .val (.long q2), .second, .unset, .unset] [(.long (if (p0 &&& (1 : Int32)) = (0 : Int32) then q1 else q2))])) _
    refine XS.lstore X0.here hx rfl (hb hby d4_11) rfl (l' := #[.val (.int p0), .val (.long q1), .second, .val (.long q2), .second, .val (.long (if (p0 &&& (1 : Int32)) = (0 : Int32) then q1 else q2)), .second]) rfl ?_
    show Steps p.tables e below (s₁.setTop (mkF m 13 #[.val (.int p0), .val (.long q1), .second, .val (.long q2), .second, .val (.long (if (p0 &&& (1 : Int32)) = (0 : Int32) then q1 else q2)), .second] [])) _
    refine XS.lload X0.here hx rfl (hb hby d4_13) rfl ?_
    refine XS.iloadN X0.here hx rfl (hb hby d4_15) rfl ?_
    refine XS.iconst X0.here hx rfl (hb hby d4_16) ?_
    show Steps p.tables e below (s₁.setTop (mkF m 17 #[.val (.int p0), .val (.long q1), .second, .val (.long q2), .second, .val (.long (if (p0 &&& (1 : Int32)) = (0 : Int32) then q1 else q2)), .second] [(.int (1 : Int32)), (.int p0), (.long (if (p0 &&& (1 : Int32)) = (0 : Int32) then q1 else q2))])) _
    refine XS.iushr X0.here hx rfl (hb hby d4_17) rfl ?_
    refine XS.lushr X0.here hx rfl (hb hby d4_18) rfl ?_
    refine X0.ldc2Long hx hown (mvT hZ (hw _ (List.mem_of_getElem? (i := 22) rfl))) (g := (mkF m 19 #[.val (.int p0), .val (.long q1), .second, .val (.long q2), .second, .val (.long (if (p0 &&& (1 : Int32)) = (0 : Int32) then q1 else q2)), .second] [(.long (((if (p0 &&& (1 : Int32)) = (0 : Int32) then q1 else q2).toUInt64 >>> (((p0.toUInt32 >>> ((1 : Int32) &&& 31).toUInt32).toInt32) &&& 0x3f).toInt64.toUInt64).toInt64))])) rfl (hb hby d4_19) _ ?_
    show Steps p.tables e below (s₁.setTop (mkF m 22 #[.val (.int p0), .val (.long q1), .second, .val (.long q2), .second, .val (.long (if (p0 &&& (1 : Int32)) = (0 : Int32) then q1 else q2)), .second] [(.long (1152921504606846975 : Int64)), (.long (((if (p0 &&& (1 : Int32)) = (0 : Int32) then q1 else q2).toUInt64 >>> (((p0.toUInt32 >>> ((1 : Int32) &&& 31).toUInt32).toInt32) &&& 0x3f).toInt64.toUInt64).toInt64))])) _
    refine XS.land X0.here hx rfl (hb hby d4_22) rfl ?_
    show Steps p.tables e below (s₁.setTop (mkF m 23 #[.val (.int p0), .val (.long q1), .second, .val (.long q2), .second, .val (.long (if (p0 &&& (1 : Int32)) = (0 : Int32) then q1 else q2)), .second] [(.long ((((if (p0 &&& (1 : Int32)) = (0 : Int32) then q1 else q2).toUInt64 >>> (((p0.toUInt32 >>> ((1 : Int32) &&& 31).toUInt32).toInt32) &&& 0x3f).toInt64.toUInt64).toInt64) &&& (1152921504606846975 : Int64)))])) _
    refine XS.lconst X0.here hx rfl (hb hby d4_23) ?_
    refine XS.ladd X0.here hx rfl (hb hby d4_24) rfl ?_
    exact retJ X0 hx Bd.returns (hb hby d4_25) hr
  · show Q4 Z p0 q1 q2 h0 n0 _ s₁.heap _
    rw [e0]
    have hv_ : (((((if (p0 &&& (1 : Int32)) = (0 : Int32) then q1 else q2).toUInt64 >>> (((p0.toUInt32 >>> ((1 : Int32) &&& 31).toUInt32).toInt32) &&& 0x3f).toInt64.toUInt64).toInt64) &&& (1152921504606846975 : Int64)) + (1 : Int64)) = F4 p0 q1 q2 := (aux4_3 p0 q1 q2)
    exact ⟨congrArg (fun z => some (Value.long z)) hv_, N0, rfl⟩
theorem pd__28_IJJ_29_J : parseMethodDescriptor "(IJJ)J" = some ⟨[.int, .long, .long], some .long⟩ := by decide +kernel
theorem d11_0 : decode method_3_code 0 = .ok (.iload_n 0, 1) := by decide +kernel
theorem d11_1 : decode method_3_code 1 = .ok (.iload_n 1, 1) := by decide +kernel
theorem d11_2 : decode method_3_code 2 = .ok (.if_icmp .lt 18, 3) := by decide +kernel
theorem d11_5 : decode method_3_code 5 = .ok (.iload_n 0, 1) := by decide +kernel
theorem d11_6 : decode method_3_code 6 = .ok (.iload_n 2, 1) := by decide +kernel
theorem d11_7 : decode method_3_code 7 = .ok (.if_icmp .ge 13, 3) := by decide +kernel
theorem d11_10 : decode method_3_code 10 = .ok (.iload_n 0, 1) := by decide +kernel
theorem d11_11 : decode method_3_code 11 = .ok (.lload_n 3, 1) := by decide +kernel
theorem d11_12 : decode method_3_code 12 = .ok (.lload 5, 2) := by decide +kernel
theorem d11_14 : decode method_3_code 14 = .ok (.invokestatic 9, 3) := by decide +kernel
theorem d11_17 : decode method_3_code 17 = .ok (.goto 4, 3) := by decide +kernel
theorem d11_20 : decode method_3_code 20 = .ok (.lconst 0, 1) := by decide +kernel
theorem d11_21 : decode method_3_code 21 = .ok (.lreturn, 1) := by decide +kernel
def F11 (p0 : Int32) (p1 : Int32) (p2 : Int32) (q3 : Int64) (q4 : Int64) : Int64 := if p0 < p1 then ((0 : Int64)) else (if p0 < p2 then ((F4 p0 q3 q4)) else ((0 : Int64)))
theorem aux11_5 (p0 : Int32) (p1 : Int32) (p2 : Int32) (q3 : Int64) (q4 : Int64)  (hs2_4 : p0 < p1) : (0 : Int64) = F11 p0 p1 p2 q3 q4 := by
  skip
  refine Eq.symm ?_; unfold F11; refine Eq.trans (if_pos hs2_4) ?_; rfl
theorem aux11_11 (p0 : Int32) (p1 : Int32) (p2 : Int32) (q3 : Int64) (q4 : Int64)  (hs2_4 : ¬ (p0 < p1)) (hs7_8 : p0 < p2) : (F4 p0 q3 q4) = F11 p0 p1 p2 q3 q4 := by
  skip
  refine Eq.symm ?_; unfold F11; refine Eq.trans (if_neg hs2_4) ?_; refine Eq.trans (if_pos hs7_8) ?_; rfl
theorem aux11_12 (p0 : Int32) (p1 : Int32) (p2 : Int32) (q3 : Int64) (q4 : Int64)  (hs2_4 : ¬ (p0 < p1)) (hs7_8 : ¬ (p0 < p2)) : (0 : Int64) = F11 p0 p1 p2 q3 q4 := by
  skip
  refine Eq.symm ?_; unfold F11; refine Eq.trans (if_neg hs2_4) ?_; refine Eq.trans (if_neg hs7_8) ?_; rfl
theorem ef_11 (m : MethodId) (p0 : Int32) (p1 : Int32) (p2 : Int32) (q3 : Int64) (q4 : Int64) : entryFrame m #[(.int p0), (.int p1), (.int p2), (.long q3), (.long q4)] 7 = mkF m 0 #[.val (.int p0), .val (.int p1), .val (.int p2), .val (.long q3), .second, .val (.long q4), .second] [] := by first | (simp [entryFrame, mkF, argsToLocals, Value.category]; done) | rfl
def Q11 (Z : State) (p0 : Int32) (p1 : Int32) (p2 : Int32) (q3 : Int64) (q4 : Int64)  (h0 : Heap) (n0 : Nat) (v : Option Value) (h : Heap) (L : List Loc) : Prop := v = some (.long (F11 p0 p1 p2 q3 q4)) ∧ Fr n0 L ∧ h = h0
set_option maxRecDepth 65536 in
set_option maxHeartbeats 40000000 in
theorem rm11 (l : Launch) (Z : State) (a0 : Array Value) (hw : ∀ d ∈ tables_1, d.before a0 Z = true) (ws : List Jvm.Cond) (p0 : Int32) (p1 : Int32) (p2 : Int32) (q3 : Int64) (q4 : Int64)  (h0 : Heap) (n0 : Nat) (Z0 : n0 ≤ h0.size)  :
    MetFree l (⟨"com/example/lean_throttle/leanthrottle/TimeRingDropOldestPinLaw", "part", "(IIIJJ)J"⟩ : MethodName) (head1 (Jvm.Cond.code (⟨"com/example/lean_throttle/leanthrottle/TimeRingDropOldestPinLaw", "part", "(IIIJJ)J"⟩ : MethodName) method_3_code 7 (some .long) :: ws) ({ frames := 1, cells := 0, slots := 0, locals := 18 } : Room)) (fun a U => a = #[(.int p0), (.int p1), (.int p2), (.long q3), (.long q4)] ∧ Z.Warmed39 U.vm ∧ U.heap = h0) (fun _ _ _ _ _ => True) (fun _ U o U' => ∃ v L, o = .returned v ∧ Q11 Z p0 p1 p2 q3 q4 h0 n0 v U'.heap L ∧ FrameEnd U o U' L ({ frames := 1, cells := 0, slots := 0, locals := 18 } : Room).cells ({ frames := 1, cells := 0, slots := 0, locals := 18 } : Room).slots) := by
  refine MetFree.of_bodySF (plainFor_of_name pn_com_example_lean_throttle_leanthrottle_TimeRingDropOldestPinLaw) hisR ?_
  intro p e s m args below meth c s₁ Bd hml0 hP hK
  obtain ⟨rfl, hZ, hh⟩ := hP
  have hx := Bd.exec
  have hby := Bd.bytes
  have hml : c.maxLocals = 7 := hml0
  have hown : s.vm.findClass "com/example/lean_throttle/leanthrottle/TimeRingDropOldestPinLaw" = some m.cls := findClass_of_methodNamed Bd.named
  have hnm := (name_of_methodNamed Bd.named Bd.method).1
  have X0 : Stand p l e ({ frames := 1, cells := 0, slots := 0, locals := 18 } : Room) s m #[(.int p0), (.int p1), (.int p2), (.long q3), (.long q4)] below meth c s₁ [] 0 0 := Stand.of_body Bd
  have e0 : s₁.heap = h0 := by rw [← hh, Bd.state]; rfl
  have N0 := Fr.nil n0
  have K0 : Keep h0 h0 [] := Keep.refl _ _
  obtain ⟨G, hG⟩ : ∃ z, z = s₁.setTop (entryFrame m #[(.int p0), (.int p1), (.int p2), (.long q3), (.long q4)] 7) := ⟨_, rfl⟩
  have pre0 : Lead p e below G (s₁.setTop (mkF m 0 #[.val (.int p0), .val (.int p1), .val (.int p2), .val (.long q3), .second, .val (.long q4), .second] [])) := fun t k => by rw [hG]; exact castTop (ef_11 m p0 p1 p2 q3 q4) k
  have pre3 : Lead p e below G (s₁.setTop (mkF m 2 #[.val (.int p0), .val (.int p1), .val (.int p2), .val (.long q3), .second, .val (.long q4), .second] [(.int p1), (.int p0)])) := fun t k => by
    refine pre0 t ?_
    show Steps p.tables e below (s₁.setTop (mkF m 0 #[.val (.int p0), .val (.int p1), .val (.int p2), .val (.long q3), .second, .val (.long q4), .second] [])) _
    refine XS.iloadN X0.here hx rfl (hb hby d11_0) rfl ?_
    show Steps p.tables e below (s₁.setTop (mkF m 1 #[.val (.int p0), .val (.int p1), .val (.int p2), .val (.long q3), .second, .val (.long q4), .second] [(.int p0)])) _
    refine XS.iloadN X0.here hx rfl (hb hby d11_1) rfl ?_
    exact k
  by_cases hs2_4 : p0 < p1
  · obtain ⟨fs, hr, hrun, hended, hW, hsame⟩ := X0.leave (v := some (.long (0 : Int64))) (fun h => by rw [Bd.returns] at h; cases h)
    have preF : Lead p e below (s₁.setTop (entryFrame m #[(.int p0), (.int p1), (.int p2), (.long q3), (.long q4)] 7)) (s₁.setTop (mkF m 2 #[.val (.int p0), .val (.int p1), .val (.int p2), .val (.long q3), .second, .val (.long q4), .second] [(.int p1), (.int p0)])) := by rw [← hG]; exact pre3
    refine ⟨_, _, preF _ ?_, hrun, hended, _, _, rfl, ?_, ⟨_, rfl⟩, hW, hsame.mono (by decide) (by decide)⟩
    · show Steps p.tables e below (s₁.setTop (mkF m 2 #[.val (.int p0), .val (.int p1), .val (.int p2), .val (.long q3), .second, .val (.long q4), .second] [(.int p1), (.int p0)])) _
      refine XS.icmpYes X0.here hx rfl (pc0 := 2) (pc' := 20) rfl (hb hby d11_2) rfl (tlt hs2_4).1 (by decide) (by decide) ?_
      refine XS.lconst X0.here hx rfl (hb hby d11_20) ?_
      show Steps p.tables e below (s₁.setTop (mkF m 21 #[.val (.int p0), .val (.int p1), .val (.int p2), .val (.long q3), .second, .val (.long q4), .second] [(.long (0 : Int64))])) _
      exact retJ X0 hx Bd.returns (hb hby d11_21) hr
    · show Q11 Z p0 p1 p2 q3 q4 h0 n0 _ s₁.heap _
      rw [e0]
      have hv_ : (0 : Int64) = F11 p0 p1 p2 q3 q4 := (aux11_5 p0 p1 p2 q3 q4 hs2_4)
      exact ⟨congrArg (fun z => some (Value.long z)) hv_, N0, rfl⟩
  · have pre7 : Lead p e below G (s₁.setTop (mkF m 7 #[.val (.int p0), .val (.int p1), .val (.int p2), .val (.long q3), .second, .val (.long q4), .second] [(.int p2), (.int p0)])) := fun t k => by
      refine pre3 t ?_
      show Steps p.tables e below (s₁.setTop (mkF m 2 #[.val (.int p0), .val (.int p1), .val (.int p2), .val (.long q3), .second, .val (.long q4), .second] [(.int p1), (.int p0)])) _
      refine XS.icmpNo X0.here hx rfl (hb hby d11_2) rfl (flt hs2_4).1 ?_
      refine XS.iloadN X0.here hx rfl (hb hby d11_5) rfl ?_
      refine XS.iloadN X0.here hx rfl (hb hby d11_6) rfl ?_
      show Steps p.tables e below (s₁.setTop (mkF m 7 #[.val (.int p0), .val (.int p1), .val (.int p2), .val (.long q3), .second, .val (.long q4), .second] [(.int p2), (.int p0)])) _
      exact k
    by_cases hs7_8 : p0 < p2
    · have pre9 : Lead p e below G (s₁.setTop (mkF m 14 #[.val (.int p0), .val (.int p1), .val (.int p2), .val (.long q3), .second, .val (.long q4), .second] [(.long q4), (.long q3), (.int p0)])) := fun t k => by
        refine pre7 t ?_
        show Steps p.tables e below (s₁.setTop (mkF m 7 #[.val (.int p0), .val (.int p1), .val (.int p2), .val (.long q3), .second, .val (.long q4), .second] [(.int p2), (.int p0)])) _
        refine XS.icmpNo X0.here hx rfl (hb hby d11_7) rfl (tlt hs7_8).2.1 ?_
        refine XS.iloadN X0.here hx rfl (hb hby d11_10) rfl ?_
        refine XS.lloadN X0.here hx rfl (hb hby d11_11) rfl ?_
        show Steps p.tables e below (s₁.setTop (mkF m 12 #[.val (.int p0), .val (.int p1), .val (.int p2), .val (.long q3), .second, .val (.long q4), .second] [(.long q3), (.int p0)])) _
        refine XS.lload X0.here hx rfl (hb hby d11_12) rfl ?_
        exact k
      obtain ⟨_, _, ⟨T10, L10, k10, n10⟩, -, X10, ⟨Lc10, hQ10, l10, y10, z10⟩, st10⟩ := Jvm.LawKit.callS X0 hx (y := (⟨"com/example/lean_throttle/leanthrottle/TimeRingDropOldestPinLaw", "u", "(IJJ)J"⟩ : MethodName)) hown (mvT hZ (hw _ (List.mem_of_getElem? (i := 18) rfl))) (mvT hZ (hw _ (List.mem_of_getElem? (i := 19) rfl))) (mvT hZ (hw _ (List.mem_of_getElem? (i := 20) rfl))) (mvT hZ (hw _ (List.mem_of_getElem? (i := 21) rfl))) (by decide) (backOf (W := 0) (rm4 l Z a0 hw [] p0 q3 q4  h0 n0 (Nat.le_trans Z0 K0.1) ) hZ (hw _ (List.mem_of_getElem? (i := 21) rfl)) (hw _ (List.mem_of_getElem? (i := 20) rfl)) (by decide) (by decide)) (g := (mkF m 14 #[.val (.int p0), .val (.int p1), .val (.int p2), .val (.long q3), .second, .val (.long q4), .second] [(.long q4), (.long q3), (.int p0)])) rfl (by rw [hml]; rfl) (argsL := [(.int p0), (.long q3), (.long q4)]) (rest := []) (lenOf pd__28_IJJ_29_J rfl) rfl (by show 2 * 0 + _ ≤ _; exact Nat.le_of_eq rfl) (hb hby d11_14) (fun _ _ => ⟨rfl, e0, (by decide : 0 + 0 ≤ _), (by decide : 0 + 0 ≤ _)⟩)
      dsimp only [Pt.U, Pt.locs, Pt.cells, Pt.slots] at X10 l10 y10 z10 st10 hQ10
      subst l10 y10 z10
      obtain ⟨rfl, N10q, e10⟩ := hQ10
      have N10 := Fr.app N0 N10q
      obtain ⟨M10, Y10, N10⟩ : ∃ M, Stand p l e ({ frames := 1, cells := 0, slots := 0, locals := 18 } : Room) s m #[(.int p0), (.int p1), (.int p2), (.long q3), (.long q4)] below meth c T10 M 0 0 ∧ Fr n0 M := ⟨_, X10, N10⟩
      have pre10 : Lead p e below G (T10.setTop (mkF m 17 #[.val (.int p0), .val (.int p1), .val (.int p2), .val (.long q3), .second, .val (.long q4), .second] [(.long (F4 p0 q3 q4))])) := fun t k => pre9 t (st10 _ k)
      obtain ⟨fs, hr, hrun, hended, hW, hsame⟩ := Y10.leave (v := some (.long (F4 p0 q3 q4))) (fun h => by rw [Bd.returns] at h; cases h)
      have preF : Lead p e below (s₁.setTop (entryFrame m #[(.int p0), (.int p1), (.int p2), (.long q3), (.long q4)] 7)) (T10.setTop (mkF m 17 #[.val (.int p0), .val (.int p1), .val (.int p2), .val (.long q3), .second, .val (.long q4), .second] [(.long (F4 p0 q3 q4))])) := by rw [← hG]; exact pre10
      refine ⟨_, _, preF _ ?_, hrun, hended, _, _, rfl, ?_, ⟨_, rfl⟩, hW, hsame.mono (by decide) (by decide)⟩
      · show Steps p.tables e below (T10.setTop (mkF m 17 #[.val (.int p0), .val (.int p1), .val (.int p2), .val (.long q3), .second, .val (.long q4), .second] [(.long (F4 p0 q3 q4))])) _
        refine XS.goto Y10.here hx rfl (pc0 := 17) (pc' := 21) rfl (hb hby d11_17) (by decide) (by decide) ?_
        exact retJ Y10 hx Bd.returns (hb hby d11_21) hr
      · show Q11 Z p0 p1 p2 q3 q4 h0 n0 _ T10.heap _
        rw [e10]
        have hv_ : (F4 p0 q3 q4) = F11 p0 p1 p2 q3 q4 := (aux11_11 p0 p1 p2 q3 q4 hs2_4 hs7_8)
        exact ⟨congrArg (fun z => some (Value.long z)) hv_, N10, rfl⟩
    · obtain ⟨fs, hr, hrun, hended, hW, hsame⟩ := X0.leave (v := some (.long (0 : Int64))) (fun h => by rw [Bd.returns] at h; cases h)
      have preF : Lead p e below (s₁.setTop (entryFrame m #[(.int p0), (.int p1), (.int p2), (.long q3), (.long q4)] 7)) (s₁.setTop (mkF m 7 #[.val (.int p0), .val (.int p1), .val (.int p2), .val (.long q3), .second, .val (.long q4), .second] [(.int p2), (.int p0)])) := by rw [← hG]; exact pre7
      refine ⟨_, _, preF _ ?_, hrun, hended, _, _, rfl, ?_, ⟨_, rfl⟩, hW, hsame.mono (by decide) (by decide)⟩
      · show Steps p.tables e below (s₁.setTop (mkF m 7 #[.val (.int p0), .val (.int p1), .val (.int p2), .val (.long q3), .second, .val (.long q4), .second] [(.int p2), (.int p0)])) _
        refine XS.icmpYes X0.here hx rfl (pc0 := 7) (pc' := 20) rfl (hb hby d11_7) rfl (flt hs7_8).2.1 (by decide) (by decide) ?_
        show Steps p.tables e below (s₁.setTop (mkF m 20 #[.val (.int p0), .val (.int p1), .val (.int p2), .val (.long q3), .second, .val (.long q4), .second] [])) _
        refine XS.lconst X0.here hx rfl (hb hby d11_20) ?_
        exact retJ X0 hx Bd.returns (hb hby d11_21) hr
      · show Q11 Z p0 p1 p2 q3 q4 h0 n0 _ s₁.heap _
        rw [e0]
        have hv_ : (0 : Int64) = F11 p0 p1 p2 q3 q4 := (aux11_12 p0 p1 p2 q3 q4 hs2_4 hs7_8)
        exact ⟨congrArg (fun z => some (Value.long z)) hv_, N0, rfl⟩
def SU (eu : Nat → Int64) (lo : Nat) : Nat → Int64
  | 0 => 0
  | k + 1 => SU eu lo k + eu (lo + k)
theorem own_suc (eu : Nat → Int64) (lo : Nat) : ∀ k, SU eu lo (k + 1) = eu lo + SU eu (lo + 1) k
  | 0 => by show 0 + eu (lo + 0) = eu lo + 0; rw [Int64.zero_add, Int64.add_zero, Nat.add_zero]
  | k + 1 => by
    show SU eu lo (k + 1) + eu (lo + (k + 1)) = eu lo + (SU eu (lo + 1) k + eu (lo + 1 + k))
    rw [own_suc eu lo k, Int64.add_assoc, show lo + 1 + k = lo + (k + 1) by omega]
def RR (f n l : Int32) (gt gT : Nat → Int64) (b : Int64) (et eu : Nat → Int64) (lo hi : Nat) : Prop :=
  (l.toInt = 1 ∨ l.toInt = 2 ∨ l.toInt = 4) ∧ (0 ≤ f.toInt ∧ f.toInt < l.toInt) ∧ (n.toInt = (hi : Int) - lo ∧ lo ≤ hi ∧ n.toInt ≤ l.toInt) ∧
  ∀ i : Nat, i < hi - lo → gt (AtI f (Int32.ofNat i) l).toNatClampNeg = et (lo + i) ∧ gT (AtI f (Int32.ofNat i) l).toNatClampNeg = b + SU eu lo (i + 1)
theorem own_at {f l : Int32} (i : Nat) (hf : 0 ≤ f.toInt ∧ f.toInt < l.toInt) (hl : l.toInt ≤ 4) (hi : i ≤ 4) : (AtI f (Int32.ofNat i) l).toNatClampNeg = if f.toInt.toNat + i < l.toInt.toNat then f.toInt.toNat + i else f.toInt.toNat + i - l.toInt.toNat := by
  have e : (Int32.ofNat i).toInt = i := Int32.toInt_ofNat_small (by omega)
  have a : (f + Int32.ofNat i).toInt = f.toInt + i := by rw [Jvm.Kit.i32_add (by omega) (by omega), e]
  unfold AtI
  by_cases h : f + Int32.ofNat i < l
  · rw [if_pos h]; rw [Int32.lt_iff_toInt_lt, a] at h
    rw [if_pos (by omega)]
    show (f + Int32.ofNat i).toInt.toNat = _
    omega
  · rw [if_neg h]; rw [Int32.lt_iff_toInt_lt, a] at h
    rw [if_neg (by omega)]
    show (f + Int32.ofNat i - l).toInt.toNat = _
    rw [Jvm.Kit.i32_sub (by omega) (by omega), a]; omega
theorem own_of {n : Int32} {k : Nat} (h : n.toInt = k) : n = Int32.ofNat k := by
  have b := Int32.toInt_lt n
  exact Int32.toInt_inj.mp (by rw [Int32.toInt_ofNat_small (by omega), h])
theorem own_hfi {f n l : Int32} {gt gT : Nat → Int64} {b : Int64} {et eu : Nat → Int64} {lo hi : Nat} (r : RR f n l gt gT b et eu lo hi) : 0 ≤ f.toInt ∧ f.toInt < l.toInt := r.2.1
theorem own_hsz {f n l : Int32} {gt gT : Nat → Int64} {b : Int64} {et eu : Nat → Int64} {lo hi : Nat} (r : RR f n l gt gT b et eu lo hi) : 0 ≤ n.toInt ∧ n.toInt ≤ l.toInt := by obtain ⟨-, -, ⟨h1, h2, h3⟩, -⟩ := r; omega
theorem own_hl4 {f n l : Int32} {gt gT : Nat → Int64} {b : Int64} {et eu : Nat → Int64} {lo hi : Nat} (r : RR f n l gt gT b et eu lo hi) : l.toInt ≤ 4 := by obtain ⟨h, -⟩ := r; omega
theorem own_hlen {f n l : Int32} {gt gT : Nat → Int64} {b : Int64} {et eu : Nat → Int64} {lo hi : Nat} (r : RR f n l gt gT b et eu lo hi) : l.toInt = 1 ∨ l.toInt = 2 ∨ l.toInt = 4 := r.1
theorem own_hlt {f n l : Int32} {gt gT : Nat → Int64} {b : Int64} {et eu : Nat → Int64} {lo hi : Nat} (r : RR f n l gt gT b et eu lo hi) (h : hi - lo < 4) : n.toInt < 4 := by obtain ⟨-, -, ⟨h1, h2, h3⟩, -⟩ := r; omega
/-- the newest total -/
theorem own_nt {f n l : Int32} {gt gT : Nat → Int64} {b : Int64} {et eu : Nat → Int64} {lo hi : Nat} (r : RR f n l gt gT b et eu lo hi) : F6 f n l b gT = b + SU eu lo (hi - lo) := by
  obtain ⟨h0, h1, ⟨h2, h3, h4⟩, h5⟩ := r
  unfold F6
  by_cases q : (0 : Int32) < n
  · rw [if_pos q]
    have p := own_pred q
    rw [Int32.lt_iff_toInt_lt, Int32.toInt_zero] at q
    have e : n - 1 = Int32.ofNat (hi - lo - 1) := own_of (by rw [p]; omega)
    rw [e, (h5 (hi - lo - 1) (by omega)).2, show hi - lo - 1 + 1 = hi - lo by omega]
  · rw [if_neg q]
    rw [Int32.lt_iff_toInt_lt, Int32.toInt_zero] at q
    rw [show hi - lo = 0 by omega]
    show b = b + 0
    rw [Int64.add_zero]
theorem own_succ {n l : Int32} (h : 0 ≤ n.toInt ∧ n.toInt ≤ l.toInt) (hl : l.toInt ≤ 4) : (n + 1).toInt = n.toInt + 1 := by
  have c1 : (1 : Int32).toInt = 1 := by decide
  rw [Jvm.Kit.i32_add (by omega) (by omega), c1]
theorem own_add {f n l : Int32} {gt gT : Nat → Int64} {b t u : Int64} {et eu : Nat → Int64} {lo hi : Nat} {f2 l2 : Int32} {g1 g2 : Nat → Int64} (r : RR f n l gt gT b et eu lo hi) (h4 : hi - lo < 4) (a : AddRel f n l gt gT b t u f2 l2 g1 g2) (ht : t = et hi) (hu : u = eu hi) : RR f2 (n + 1) l2 g1 g2 b et eu lo (hi + 1) := by
  have nt := own_nt r
  have s0 := own_hsz r
  have l4 := own_hl4 r
  obtain ⟨r0, r1, ⟨r2, r3, r4⟩, r5⟩ := r
  have sc := own_succ s0 l4
  have en : n = Int32.ofNat (hi - lo) := own_of (by omega)
  have top : b + SU eu lo (hi - lo) + u = b + SU eu lo (hi - lo + 1) := by
    show _ = b + (SU eu lo (hi - lo) + eu (lo + (hi - lo)))
    rw [hu, show lo + (hi - lo) = hi by omega, Int64.add_assoc]
  rcases a with ⟨hne, rfl, rfl, rfl, rfl⟩ | ⟨heq, rfl, rfl, e1, e2, p1, p2, rfl, rfl⟩
  · have hn := own_nei hne
    refine ⟨r0, r1, ⟨by omega, by omega, by omega⟩, fun i hi' => ?_⟩
    unfold updF
    by_cases q : i < hi - lo
    · have ne : ¬ (AtI f2 (Int32.ofNat i) l2).toNatClampNeg = (AtI f2 n l2).toNatClampNeg := by
        rw [en, own_at i r1 l4 (by omega), own_at (hi - lo) r1 l4 (by omega)]
        split <;> split <;> omega
      rw [if_neg ne, if_neg ne]; exact r5 i q
    · have e : i = hi - lo := by omega
      rw [e, ← en, if_pos rfl, if_pos rfl, nt]
      exact ⟨by rw [ht, show lo + (hi - lo) = hi by omega], top⟩
  · have hn := own_eqi heq
    have gl := own_gl r0 (by omega)
    have z : (0 : Int32).toInt = 0 := by decide
    have f0 : 0 ≤ (0 : Int32).toInt ∧ (0 : Int32).toInt < (GL l).toInt := by omega
    refine ⟨by omega, f0, ⟨by omega, by omega, by omega⟩, fun i hi' => ?_⟩
    have ai : (AtI 0 (Int32.ofNat i) (GL l)).toNatClampNeg = i := by
      rw [own_at i f0 (by omega) (by omega), z, if_pos (by omega)]; omega
    have an : (AtI 0 n (GL l)).toNatClampNeg = hi - lo := by
      rw [en, own_at (hi - lo) f0 (by omega) (by omega), z, if_pos (by omega)]; omega
    unfold updF
    rw [ai, an]
    by_cases q : i < hi - lo
    · rw [if_neg (by omega), if_neg (by omega), p1 i (by omega), p2 i (by omega)]; exact r5 i q
    · have e : i = hi - lo := by omega
      rw [e, if_pos rfl, if_pos rfl, nt]
      exact ⟨by rw [ht, show lo + (hi - lo) = hi by omega], top⟩
theorem own_first {t u : Int64} {et eu : Nat → Int64} {f2 l2 : Int32} {g1 g2 : Nat → Int64} (a : AddRel 0 0 1 (fun _ => 0) (fun _ => 0) 0 t u f2 l2 g1 g2) (ht : t = et 0) (hu : u = eu 0) : RR f2 1 l2 g1 g2 0 et eu 0 1 := by
  have r : RR 0 0 1 (fun _ => 0) (fun _ => 0) 0 et eu 0 0 := ⟨by decide, by decide, by decide, fun i hi => absurd hi (by omega)⟩
  exact own_add r (by omega) a ht hu
theorem own_drop {f n l : Int32} {gt gT : Nat → Int64} {b : Int64} {et eu : Nat → Int64} {lo hi : Nat} (r : RR f n l gt gT b et eu lo hi) (h : lo < hi) : RR (AtI f 1 l) (n - 1) l gt gT (gT f.toNatClampNeg) et eu (lo + 1) hi := by
  have l4 := own_hl4 r
  obtain ⟨r0, r1, ⟨r2, r3, r4⟩, r5⟩ := r
  have c1 : (1 : Int32).toInt = 1 := by decide
  have np : (n - 1).toInt = n.toInt - 1 := by rw [Jvm.Kit.i32_sub (by omega) (by omega), c1]
  have a1 : (AtI f 1 l).toNatClampNeg = if f.toInt.toNat + 1 < l.toInt.toNat then f.toInt.toNat + 1 else f.toInt.toNat + 1 - l.toInt.toNat := own_at 1 r1 l4 (by omega)
  have nn : ¬ AtI f 1 l < 0 := by
    have q : 1 < l.toInt ∨ l.toInt = 1 := by omega
    rcases q with q | q
    · exact (own_nb r1 ⟨by decide, by rw [c1]; exact q⟩ l4).1
    · have ff : f.toInt = 0 := by omega
      have e1 : f = 0 := Int32.toInt_inj.mp (by rw [ff]; decide)
      have e2 : l = 1 := Int32.toInt_inj.mp (by rw [q]; decide)
      rw [e1, e2]; decide
  have aI : (AtI f 1 l).toInt = ((AtI f 1 l).toNatClampNeg : Int) := by
    rw [Int32.lt_iff_toInt_lt, Int32.toInt_zero] at nn
    show _ = ((AtI f 1 l).toInt.toNat : Int)
    omega
  have ffit : 0 ≤ (AtI f 1 l).toInt ∧ (AtI f 1 l).toInt < l.toInt := by
    rw [aI, a1]; split <;> omega
  have b0 : gT f.toNatClampNeg = b + eu lo := by
    have q := (r5 0 (by omega)).2
    have e : (AtI f (Int32.ofNat 0) l).toNatClampNeg = f.toNatClampNeg := by
      rw [own_at 0 r1 l4 (by omega), if_pos (by omega)]; rfl
    rw [e] at q
    rw [q]
    show b + (0 + eu (lo + 0)) = b + eu lo
    rw [Int64.zero_add, Nat.add_zero]
  refine ⟨r0, ffit, ⟨by omega, by omega, by omega⟩, fun i hi' => ?_⟩
  have e : (AtI (AtI f 1 l) (Int32.ofNat i) l).toNatClampNeg = (AtI f (Int32.ofNat (i + 1)) l).toNatClampNeg := by
    rw [own_at i ffit l4 (by omega), own_at (i + 1) r1 l4 (by omega)]
    have : (AtI f 1 l).toInt.toNat = (AtI f 1 l).toNatClampNeg := rfl
    rw [this, a1]
    split <;> split <;> split <;> omega
  rw [e]
  have q := r5 (i + 1) (by omega)
  refine ⟨by rw [q.1, show lo + (i + 1) = lo + 1 + i by omega], ?_⟩
  rw [q.2, b0, own_suc eu lo (i + 1), Int64.add_assoc]
theorem own_units {f n l : Int32} {gt gT : Nat → Int64} {b : Int64} {et eu : Nat → Int64} {lo hi : Nat} (r : RR f n l gt gT b et eu lo hi) : F13 f n l b gT = SU eu lo (hi - lo) := by
  unfold F13
  rw [own_nt r, Int64.add_comm, Int64.add_sub_cancel]
theorem own_at0 {f l : Int32} (h : 0 ≤ f.toInt ∧ f.toInt < l.toInt) (hl : l.toInt ≤ 4) : (AtI f (Int32.ofNat 0) l).toNatClampNeg = f.toNatClampNeg := by
  rw [own_at 0 h hl (by omega), if_pos (by omega)]; rfl
theorem own_oldest {f n l : Int32} {gt gT : Nat → Int64} {b : Int64} {et eu : Nat → Int64} {lo hi : Nat} (r : RR f n l gt gT b et eu lo hi) (h : lo < hi) : F14 f gt = et lo := by
  have q := (r.2.2.2 0 (by omega)).1
  rw [own_at0 r.2.1 (own_hl4 r)] at q
  exact q
theorem own_newest {f n l : Int32} {gt gT : Nat → Int64} {b : Int64} {et eu : Nat → Int64} {lo hi : Nat} (r : RR f n l gt gT b et eu lo hi) (h : lo < hi) : F15 f n l gt = et (hi - 1) := by
  obtain ⟨r0, r1, ⟨r2, r3, r4⟩, r5⟩ := r
  have c1 : (1 : Int32).toInt = 1 := by decide
  have np : (n - 1).toInt = n.toInt - 1 := by rw [Jvm.Kit.i32_sub (by omega) (by omega), c1]
  have e : n - 1 = Int32.ofNat (hi - lo - 1) := own_of (by omega)
  unfold F15
  rw [e, (r5 (hi - lo - 1) (by omega)).1, show lo + (hi - lo - 1) = hi - 1 by omega]
theorem own_unit0 {f n l : Int32} {gt gT : Nat → Int64} {b : Int64} {et eu : Nat → Int64} {lo hi : Nat} (r : RR f n l gt gT b et eu lo hi) (h : lo < hi) : F16 f l b gT = eu lo := by
  have q := (r.2.2.2 0 (by omega)).2
  unfold F16
  have e : (AtI f (0 : Int32) l) = AtI f (Int32.ofNat 0) l := rfl
  rw [e, q]
  show b + (0 + eu (lo + 0)) - b = eu lo
  rw [Int64.zero_add, Nat.add_zero, Int64.add_comm, Int64.add_sub_cancel]

def ET (q0 : Int64) (i : Nat) : Int64 := q0 + Int64.ofNat i
def EU (q1 q2 : Int64) (i : Nat) : Int64 := F4 (Int32.ofNat i) q1 q2
def NPQ (n p q : Int32) : Prop := (1 ≤ n.toInt ∧ n.toInt ≤ 4) ∧ (0 ≤ p.toInt ∧ p.toInt ≤ 3 ∧ p.toInt ≤ n.toInt - 1) ∧ (0 ≤ q.toInt ∧ q.toInt ≤ 3 ∧ q.toInt ≤ 4 - (n.toInt - p.toInt))
theorem own_min (a b : Int32) : (F1 a b).toInt = if b.toInt < a.toInt then b.toInt else a.toInt := by
  unfold F1
  by_cases h : b < a
  · rw [if_pos h, if_pos (Int32.lt_iff_toInt_lt.mp h)]
  · rw [if_neg h, if_neg (fun z => h (Int32.lt_iff_toInt_lt.mpr z))]
theorem own_and3 (x : Int32) : 0 ≤ (x &&& (3 : Int32)).toInt ∧ (x &&& (3 : Int32)).toInt ≤ 3 := by
  have h := Jvm.Kit.i32_mask x 3 (k := 2) (by decide) (by decide)
  omega
theorem own_npq (p3 : Int32) : NPQ ((1 : Int32) + (p3 &&& (3 : Int32))) (F1 (((p3.toUInt32 >>> ((2 : Int32) &&& 31).toUInt32).toInt32) &&& (3 : Int32)) (((1 : Int32) + (p3 &&& (3 : Int32))) - (1 : Int32))) (F1 (((p3.toUInt32 >>> ((4 : Int32) &&& 31).toUInt32).toInt32) &&& (3 : Int32)) ((4 : Int32) - (((1 : Int32) + (p3 &&& (3 : Int32))) - (F1 (((p3.toUInt32 >>> ((2 : Int32) &&& 31).toUInt32).toInt32) &&& (3 : Int32)) (((1 : Int32) + (p3 &&& (3 : Int32))) - (1 : Int32)))))) := by
  have a := own_and3 p3
  have b := own_and3 ((p3.toUInt32 >>> ((2 : Int32) &&& 31).toUInt32).toInt32)
  have c := own_and3 ((p3.toUInt32 >>> ((4 : Int32) &&& 31).toUInt32).toInt32)
  have c1 : (1 : Int32).toInt = 1 := by decide
  have c4 : (4 : Int32).toInt = 4 := by decide
  obtain ⟨n, en⟩ : ∃ z, z = (1 : Int32) + (p3 &&& (3 : Int32)) := ⟨_, rfl⟩
  have hn : n.toInt = 1 + (p3 &&& (3 : Int32)).toInt := by rw [en, Jvm.Kit.i32_add (by omega) (by omega), c1]
  rw [← en]
  have n1 : (n - 1).toInt = n.toInt - 1 := by rw [Jvm.Kit.i32_sub (by omega) (by omega), c1]
  obtain ⟨p, ep⟩ : ∃ z, z = F1 (((p3.toUInt32 >>> ((2 : Int32) &&& 31).toUInt32).toInt32) &&& (3 : Int32)) (n - 1) := ⟨_, rfl⟩
  have hp := own_min (((p3.toUInt32 >>> ((2 : Int32) &&& 31).toUInt32).toInt32) &&& (3 : Int32)) (n - 1)
  rw [← ep] at hp ⊢
  have pv : 0 ≤ p.toInt ∧ p.toInt ≤ 3 ∧ p.toInt ≤ n.toInt - 1 := by split at hp <;> omega
  have np : (n - p).toInt = n.toInt - p.toInt := Jvm.Kit.i32_sub (by omega) (by omega)
  have n4 : ((4 : Int32) - (n - p)).toInt = 4 - (n.toInt - p.toInt) := by rw [Jvm.Kit.i32_sub (by omega) (by omega), c4, np]
  have hq := own_min (((p3.toUInt32 >>> ((4 : Int32) &&& 31).toUInt32).toInt32) &&& (3 : Int32)) ((4 : Int32) - (n - p))
  refine ⟨by omega, pv, ?_⟩
  split at hq <;> omega
theorem own_e0 (q0 : Int64) : q0 = ET q0 0 := by unfold ET; show q0 = q0 + 0; rw [Int64.add_zero]
theorem own_eu0 (q1 q2 : Int64) : F4 0 q1 q2 = EU q1 q2 0 := rfl
theorem own_n1 {n p q : Int32} (h : NPQ n p q) : ((1 : Nat) : Int) = (if n.toInt < 1 then n.toInt else 1) := by obtain ⟨h1, -⟩ := h; split <;> omega
theorem own_p1 {n p q : Int32} (h : NPQ n p q) : ((0 : Nat) : Int) = (if p.toInt < 0 then p.toInt else 0) := by obtain ⟨-, h1, -⟩ := h; split <;> omega
theorem own_end {n p q : Int32} {hi : Nat} (h : NPQ n p q) (e : (hi : Int) = (if n.toInt < 4 then n.toInt else 4)) : (hi : Int) = n.toInt := by obtain ⟨h1, -⟩ := h; split at e <;> omega
theorem own_lend {n p q : Int32} {lo : Nat} (h : NPQ n p q) (e : (lo : Int) = (if p.toInt < 3 then p.toInt else 3)) : (lo : Int) = p.toInt := by obtain ⟨-, h1, -⟩ := h; split at e <;> omega
theorem own_q1 {n p q : Int32} {hi : Nat} (h : NPQ n p q) (e : (hi : Int) = n.toInt) : (hi : Int) = n.toInt + (if q.toInt < 0 then q.toInt else 0) := by obtain ⟨-, -, h1⟩ := h; split <;> omega
theorem own_len1 {x k : Int} {hi : Nat} (h : (hi : Int) = (if x < k then x else k)) (hk : k ≤ 3) : hi - 0 < 4 := by split at h <;> omega
theorem own_t3 (q0 : Int64) {x : Int32} {hi : Nat} (h : x.toInt = (hi : Int)) : q0 + x.toInt64 = ET q0 hi := by
  have b := Int32.toInt_lt x
  have e : x.toInt64 = Int64.ofNat hi := Int64.toInt_inj.mp (by rw [Int32.toInt_toInt64, h, Int64.toInt_ofNat_of_lt (by omega)])
  unfold ET; rw [e]
theorem own_u3 (q1 q2 : Int64) {x : Int32} {hi : Nat} (h : x.toInt = (hi : Int)) : F4 x q1 q2 = EU q1 q2 hi := by
  unfold EU; rw [← own_of h]
theorem own_x1 {n p q : Int32} {hi : Nat} (h : NPQ n p q) (e : (hi : Int) = n.toInt + (if q.toInt < 0 then q.toInt else 0)) (c : ¬ q.toInt < 1) : n.toInt = (hi : Int) := by split at e <;> omega
theorem own_x2 {n p q : Int32} {hi : Nat} (h : NPQ n p q) (e : (hi : Int) = n.toInt + (if q.toInt < 1 then q.toInt else 1)) (c : ¬ q.toInt < 2) : (n + 1).toInt = (hi : Int) := by
  have c1 : (1 : Int32).toInt = 1 := by decide
  obtain ⟨h1, -⟩ := h
  rw [Jvm.Kit.i32_add (by omega) (by omega), c1]; split at e <;> omega
theorem own_x3 {n p q : Int32} {hi : Nat} (h : NPQ n p q) (e : (hi : Int) = n.toInt + (if q.toInt < 2 then q.toInt else 2)) (c : ¬ q.toInt < 3) : (n + 2).toInt = (hi : Int) := by
  have c1 : (2 : Int32).toInt = 2 := by decide
  obtain ⟨h1, -⟩ := h
  rw [Jvm.Kit.i32_add (by omega) (by omega), c1]; split at e <;> omega
theorem own_dl2 {n p q : Int32} {lo hi : Nat} (h : NPQ n p q) (el : (lo : Int) = p.toInt) (e : (hi : Int) = n.toInt + (if q.toInt < 3 then q.toInt else 3)) : lo < hi := by obtain ⟨h1, h2, h3⟩ := h; split at e <;> omega
theorem own_sums {n p q : Int32} {lo hi : Nat} (h : NPQ n p q) (el : (lo : Int) = p.toInt) (e : (hi : Int) = n.toInt + (if q.toInt < 3 then q.toInt else 3)) : (p + 1).toInt = ((lo + 1 : Nat) : Int) ∧ (n + q).toInt = (hi : Int) ∧ ((n + q) - (p + 1)).toInt = (hi : Int) - ((lo + 1 : Nat) : Int) ∧ lo + 1 ≤ hi ∧ hi ≤ 7 ∧ lo + 1 ≤ 4 ∧ hi - (lo + 1) ≤ 3 := by
  have c1 : (1 : Int32).toInt = 1 := by decide
  obtain ⟨h1, h2, h3⟩ := h
  have a1 : (p + 1).toInt = p.toInt + 1 := by rw [Jvm.Kit.i32_add (by omega) (by omega), c1]
  have a2 : (n + q).toInt = n.toInt + q.toInt := Jvm.Kit.i32_add (by omega) (by omega)
  have a3 : ((n + q) - (p + 1)).toInt = n.toInt + q.toInt - (p.toInt + 1) := by rw [Jvm.Kit.i32_sub (by omega) (by omega), a1, a2]
  rw [a1, a2, a3]
  split at e <;> omega
theorem own_szeq {f n' l : Int32} {gt gT : Nat → Int64} {b : Int64} {et eu : Nat → Int64} {lo hi : Nat} (r : RR f n' l gt gT b et eu (lo + 1) hi) {n p q : Int32} (h : NPQ n p q) (el : (lo : Int) = p.toInt) (e : (hi : Int) = n.toInt + (if q.toInt < 3 then q.toInt else 3)) : n' = (n + q) - (p + 1) := by
  have s := own_sums h el e
  obtain ⟨-, -, ⟨r2, r3, r4⟩, -⟩ := r
  exact Int32.toInt_inj.mp (by omega)
theorem own_part (q1 q2 : Int64) (i : Nat) (I a b : Int32) (A B : Nat) (hI : I.toInt = (i : Int)) (ha : a.toInt = (A : Int)) (hb : b.toInt = (B : Int)) : F11 I a b q1 q2 = if i < A then 0 else if i < B then EU q1 q2 i else 0 := by
  unfold F11
  by_cases c : I < a
  · have c' := Int32.lt_iff_toInt_lt.mp c
    rw [if_pos c, if_pos (show i < A by omega)]
  · have c' : ¬ I.toInt < a.toInt := fun z => c (Int32.lt_iff_toInt_lt.mpr z)
    rw [if_neg c, if_neg (show ¬ i < A by omega)]
    by_cases d : I < b
    · have d' := Int32.lt_iff_toInt_lt.mp d
      rw [if_pos d, if_pos (show i < B by omega)]
      exact own_u3 q1 q2 hI
    · have d' : ¬ I.toInt < b.toInt := fun z => d (Int32.lt_iff_toInt_lt.mpr z)
      rw [if_neg d, if_neg (show ¬ i < B by omega)]
theorem own_ueq (q1 q2 : Int64) {n p q : Int32} {lo hi : Nat} (h : NPQ n p q) (el : (lo : Int) = p.toInt) (e : (hi : Int) = n.toInt + (if q.toInt < 3 then q.toInt else 3)) :
    SU (EU q1 q2) (lo + 1) (hi - (lo + 1)) = F11 0 (p + 1) (n + q) q1 q2 + F11 1 (p + 1) (n + q) q1 q2 + F11 2 (p + 1) (n + q) q1 q2 + F11 3 (p + 1) (n + q) q1 q2 + F11 4 (p + 1) (n + q) q1 q2 + F11 5 (p + 1) (n + q) q1 q2 + F11 6 (p + 1) (n + q) q1 q2 := by
  obtain ⟨s1, s2, -, s4, s5, s6, s7⟩ := own_sums h el e
  rw [own_part q1 q2 0 0 _ _ (lo + 1) hi (by decide) s1 s2, own_part q1 q2 1 1 _ _ (lo + 1) hi (by decide) s1 s2, own_part q1 q2 2 2 _ _ (lo + 1) hi (by decide) s1 s2, own_part q1 q2 3 3 _ _ (lo + 1) hi (by decide) s1 s2, own_part q1 q2 4 4 _ _ (lo + 1) hi (by decide) s1 s2, own_part q1 q2 5 5 _ _ (lo + 1) hi (by decide) s1 s2, own_part q1 q2 6 6 _ _ (lo + 1) hi (by decide) s1 s2]
  generalize EU q1 q2 = eu
  generalize lo + 1 = A at *
  obtain ⟨d, hd⟩ : ∃ d, d = hi - A := ⟨_, rfl⟩
  have hh : hi = A + d := by omega
  rw [← hd]
  subst hh
  have hA : A = 0 ∨ A = 1 ∨ A = 2 ∨ A = 3 ∨ A = 4 := by omega
  have hD : d = 0 ∨ d = 1 ∨ d = 2 ∨ d = 3 := by omega
  rcases hA with rfl | rfl | rfl | rfl | rfl <;> rcases hD with rfl | rfl | rfl | rfl <;> simp [SU, Int64.add_assoc]
theorem own_nl {n p q : Int32} {lo hi : Nat} (h : NPQ n p q) (el : (lo : Int) = p.toInt) (e : (hi : Int) = n.toInt + (if q.toInt < 3 then q.toInt else 3)) (c : ¬ ((n + q) - (p + 1)) < 1) : lo + 1 < hi := by
  have s := own_sums h el e
  have c1 : (1 : Int32).toInt = 1 := by decide
  rw [Int32.lt_iff_toInt_lt, c1] at c; omega
theorem own_pos {f n l : Int32} {gt gT : Nat → Int64} {b : Int64} {et eu : Nat → Int64} {lo hi : Nat} (r : RR f n l gt gT b et eu lo hi) (h : lo < hi) : (0 : Int32) < n := by
  obtain ⟨-, -, ⟨r2, r3, r4⟩, -⟩ := r
  rw [Int32.lt_iff_toInt_lt, Int32.toInt_zero]; omega
theorem own_old {f n' l : Int32} {gt gT : Nat → Int64} {b : Int64} {eu : Nat → Int64} {lo hi : Nat} {q0 : Int64} (r : RR f n' l gt gT b (ET q0) eu (lo + 1) hi) {n p q : Int32} (h : NPQ n p q) (el : (lo : Int) = p.toInt) (e : (hi : Int) = n.toInt + (if q.toInt < 3 then q.toInt else 3)) (c : ¬ ((n + q) - (p + 1)) < 1) : F14 f gt = q0 + (p + 1).toInt64 := by
  rw [own_oldest r (own_nl h el e c), own_t3 q0 (own_sums h el e).1]
theorem own_new {f n' l : Int32} {gt gT : Nat → Int64} {b : Int64} {eu : Nat → Int64} {lo hi : Nat} {q0 : Int64} (r : RR f n' l gt gT b (ET q0) eu (lo + 1) hi) {n p q : Int32} (h : NPQ n p q) (el : (lo : Int) = p.toInt) (e : (hi : Int) = n.toInt + (if q.toInt < 3 then q.toInt else 3)) (c : ¬ ((n + q) - (p + 1)) < 1) : F15 f n' l gt = q0 + ((n + q) - 1).toInt64 := by
  have k := own_nl h el e c
  have s := own_sums h el e
  have c1 : (1 : Int32).toInt = 1 := by decide
  rw [own_newest r k, own_t3 q0 (show ((n + q) - 1).toInt = ((hi - 1 : Nat) : Int) by rw [Jvm.Kit.i32_sub (by omega) (by omega), c1]; omega)]
theorem own_u0 {f n' l : Int32} {gt gT : Nat → Int64} {b : Int64} {et : Nat → Int64} {lo hi : Nat} {q1 q2 : Int64} (r : RR f n' l gt gT b et (EU q1 q2) (lo + 1) hi) {n p q : Int32} (h : NPQ n p q) (el : (lo : Int) = p.toInt) (e : (hi : Int) = n.toInt + (if q.toInt < 3 then q.toInt else 3)) (c : ¬ ((n + q) - (p + 1)) < 1) : F16 f l b gT = F4 (p + 1) q1 q2 := by
  rw [own_unit0 r (own_nl h el e c), own_u3 q1 q2 (own_sums h el e).1]
theorem own_c1 {v : Int32} (h : ¬ v < (1 : Int32)) : ¬ v.toInt < 1 := fun z => h (Int32.lt_iff_toInt_lt.mpr (by rw [show (1 : Int32).toInt = 1 by decide]; exact z))
theorem own_c1' {v : Int32} (h : v < (1 : Int32)) : v.toInt < 1 := by have q := Int32.lt_iff_toInt_lt.mp h; rw [show (1 : Int32).toInt = 1 by decide] at q; exact q
theorem own_m1_1 {x : Int} {hi : Nat} (h : (hi : Int) = (if x < 0 then x else 0)) (q : x < 1) : (hi : Int) = (if x < 1 then x else 1) := by split at h <;> split <;> omega
theorem own_m2_1 {x : Int} {hi : Nat} (h : (hi : Int) = (if x < 0 then x else 0)) (q : ¬ x < 1) : ((hi + 1 : Nat) : Int) = (if x < 1 then x else 1) := by split at h <;> split <;> omega
theorem own_m13_1 {n x : Int} {hi : Nat} (h : (hi : Int) = n + (if x < 0 then x else 0)) (q : x < 1) : (hi : Int) = n + (if x < 1 then x else 1) := by split at h <;> split <;> omega
theorem own_m23_1 {n x : Int} {hi : Nat} (h : (hi : Int) = n + (if x < 0 then x else 0)) (q : ¬ x < 1) : ((hi + 1 : Nat) : Int) = n + (if x < 1 then x else 1) := by split at h <;> split <;> omega
theorem own_hk_1 {x : Int} {hi : Nat} (h : (hi : Int) = (if x < 0 then x else 0)) (q : ¬ x < 1) : hi = 0 := by split at h <;> omega
theorem own_dl_1 {n p q : Int32} {lo hi : Nat} (h : NPQ n p q) (eh : (hi : Int) = n.toInt) (el : (lo : Int) = (if p.toInt < 0 then p.toInt else 0)) (c : ¬ p.toInt < 1) : lo < hi := by obtain ⟨h1, h2, h3⟩ := h; split at el <;> omega
theorem own_len3_1 {n p q : Int32} {lo hi : Nat} (h : NPQ n p q) (el : (lo : Int) = p.toInt) (eh : (hi : Int) = n.toInt + (if q.toInt < 0 then q.toInt else 0)) (c : ¬ q.toInt < 1) : hi - lo < 4 := by obtain ⟨h1, h2, h3⟩ := h; split at eh <;> omega
theorem own_tl1 (q0 : Int64) {hi : Nat} (h : hi = 1) : q0 + (1 : Int64) = ET q0 hi := by subst h; rfl
theorem own_ul1 (q1 q2 : Int64) {hi : Nat} (h : hi = 1) : F4 (1 : Int32) q1 q2 = EU q1 q2 hi := by subst h; rfl
theorem own_c2 {v : Int32} (h : ¬ v < (2 : Int32)) : ¬ v.toInt < 2 := fun z => h (Int32.lt_iff_toInt_lt.mpr (by rw [show (2 : Int32).toInt = 2 by decide]; exact z))
theorem own_c2' {v : Int32} (h : v < (2 : Int32)) : v.toInt < 2 := by have q := Int32.lt_iff_toInt_lt.mp h; rw [show (2 : Int32).toInt = 2 by decide] at q; exact q
theorem own_m1_2 {x : Int} {hi : Nat} (h : (hi : Int) = (if x < 1 then x else 1)) (q : x < 2) : (hi : Int) = (if x < 2 then x else 2) := by split at h <;> split <;> omega
theorem own_m2_2 {x : Int} {hi : Nat} (h : (hi : Int) = (if x < 1 then x else 1)) (q : ¬ x < 2) : ((hi + 1 : Nat) : Int) = (if x < 2 then x else 2) := by split at h <;> split <;> omega
theorem own_m13_2 {n x : Int} {hi : Nat} (h : (hi : Int) = n + (if x < 1 then x else 1)) (q : x < 2) : (hi : Int) = n + (if x < 2 then x else 2) := by split at h <;> split <;> omega
theorem own_m23_2 {n x : Int} {hi : Nat} (h : (hi : Int) = n + (if x < 1 then x else 1)) (q : ¬ x < 2) : ((hi + 1 : Nat) : Int) = n + (if x < 2 then x else 2) := by split at h <;> split <;> omega
theorem own_hk_2 {x : Int} {hi : Nat} (h : (hi : Int) = (if x < 1 then x else 1)) (q : ¬ x < 2) : hi = 1 := by split at h <;> omega
theorem own_dl_2 {n p q : Int32} {lo hi : Nat} (h : NPQ n p q) (eh : (hi : Int) = n.toInt) (el : (lo : Int) = (if p.toInt < 1 then p.toInt else 1)) (c : ¬ p.toInt < 2) : lo < hi := by obtain ⟨h1, h2, h3⟩ := h; split at el <;> omega
theorem own_len3_2 {n p q : Int32} {lo hi : Nat} (h : NPQ n p q) (el : (lo : Int) = p.toInt) (eh : (hi : Int) = n.toInt + (if q.toInt < 1 then q.toInt else 1)) (c : ¬ q.toInt < 2) : hi - lo < 4 := by obtain ⟨h1, h2, h3⟩ := h; split at eh <;> omega
theorem own_tl2 (q0 : Int64) {hi : Nat} (h : hi = 2) : q0 + (2 : Int64) = ET q0 hi := by subst h; rfl
theorem own_ul2 (q1 q2 : Int64) {hi : Nat} (h : hi = 2) : F4 (2 : Int32) q1 q2 = EU q1 q2 hi := by subst h; rfl
theorem own_c3 {v : Int32} (h : ¬ v < (3 : Int32)) : ¬ v.toInt < 3 := fun z => h (Int32.lt_iff_toInt_lt.mpr (by rw [show (3 : Int32).toInt = 3 by decide]; exact z))
theorem own_c3' {v : Int32} (h : v < (3 : Int32)) : v.toInt < 3 := by have q := Int32.lt_iff_toInt_lt.mp h; rw [show (3 : Int32).toInt = 3 by decide] at q; exact q
theorem own_m1_3 {x : Int} {hi : Nat} (h : (hi : Int) = (if x < 2 then x else 2)) (q : x < 3) : (hi : Int) = (if x < 3 then x else 3) := by split at h <;> split <;> omega
theorem own_m2_3 {x : Int} {hi : Nat} (h : (hi : Int) = (if x < 2 then x else 2)) (q : ¬ x < 3) : ((hi + 1 : Nat) : Int) = (if x < 3 then x else 3) := by split at h <;> split <;> omega
theorem own_m13_3 {n x : Int} {hi : Nat} (h : (hi : Int) = n + (if x < 2 then x else 2)) (q : x < 3) : (hi : Int) = n + (if x < 3 then x else 3) := by split at h <;> split <;> omega
theorem own_m23_3 {n x : Int} {hi : Nat} (h : (hi : Int) = n + (if x < 2 then x else 2)) (q : ¬ x < 3) : ((hi + 1 : Nat) : Int) = n + (if x < 3 then x else 3) := by split at h <;> split <;> omega
theorem own_hk_3 {x : Int} {hi : Nat} (h : (hi : Int) = (if x < 2 then x else 2)) (q : ¬ x < 3) : hi = 2 := by split at h <;> omega
theorem own_dl_3 {n p q : Int32} {lo hi : Nat} (h : NPQ n p q) (eh : (hi : Int) = n.toInt) (el : (lo : Int) = (if p.toInt < 2 then p.toInt else 2)) (c : ¬ p.toInt < 3) : lo < hi := by obtain ⟨h1, h2, h3⟩ := h; split at el <;> omega
theorem own_len3_3 {n p q : Int32} {lo hi : Nat} (h : NPQ n p q) (el : (lo : Int) = p.toInt) (eh : (hi : Int) = n.toInt + (if q.toInt < 2 then q.toInt else 2)) (c : ¬ q.toInt < 3) : hi - lo < 4 := by obtain ⟨h1, h2, h3⟩ := h; split at eh <;> omega
theorem own_tl3 (q0 : Int64) {hi : Nat} (h : hi = 3) : q0 + (3 : Int64) = ET q0 hi := by subst h; rfl
theorem own_ul3 (q1 q2 : Int64) {hi : Nat} (h : hi = 3) : F4 (3 : Int32) q1 q2 = EU q1 q2 hi := by subst h; rfl
theorem own_c4 {v : Int32} (h : ¬ v < (4 : Int32)) : ¬ v.toInt < 4 := fun z => h (Int32.lt_iff_toInt_lt.mpr (by rw [show (4 : Int32).toInt = 4 by decide]; exact z))
theorem own_c4' {v : Int32} (h : v < (4 : Int32)) : v.toInt < 4 := by have q := Int32.lt_iff_toInt_lt.mp h; rw [show (4 : Int32).toInt = 4 by decide] at q; exact q
theorem own_m1_4 {x : Int} {hi : Nat} (h : (hi : Int) = (if x < 3 then x else 3)) (q : x < 4) : (hi : Int) = (if x < 4 then x else 4) := by split at h <;> split <;> omega
theorem own_m2_4 {x : Int} {hi : Nat} (h : (hi : Int) = (if x < 3 then x else 3)) (q : ¬ x < 4) : ((hi + 1 : Nat) : Int) = (if x < 4 then x else 4) := by split at h <;> split <;> omega
theorem own_m13_4 {n x : Int} {hi : Nat} (h : (hi : Int) = n + (if x < 3 then x else 3)) (q : x < 4) : (hi : Int) = n + (if x < 4 then x else 4) := by split at h <;> split <;> omega
theorem own_m23_4 {n x : Int} {hi : Nat} (h : (hi : Int) = n + (if x < 3 then x else 3)) (q : ¬ x < 4) : ((hi + 1 : Nat) : Int) = n + (if x < 4 then x else 4) := by split at h <;> split <;> omega
theorem own_hk_4 {x : Int} {hi : Nat} (h : (hi : Int) = (if x < 3 then x else 3)) (q : ¬ x < 4) : hi = 3 := by split at h <;> omega
theorem own_dl_4 {n p q : Int32} {lo hi : Nat} (h : NPQ n p q) (eh : (hi : Int) = n.toInt) (el : (lo : Int) = (if p.toInt < 3 then p.toInt else 3)) (c : ¬ p.toInt < 4) : lo < hi := by obtain ⟨h1, h2, h3⟩ := h; split at el <;> omega
theorem own_len3_4 {n p q : Int32} {lo hi : Nat} (h : NPQ n p q) (el : (lo : Int) = p.toInt) (eh : (hi : Int) = n.toInt + (if q.toInt < 3 then q.toInt else 3)) (c : ¬ q.toInt < 4) : hi - lo < 4 := by obtain ⟨h1, h2, h3⟩ := h; split at eh <;> omega

theorem pd__28_II_29_I : parseMethodDescriptor "(II)I" = some ⟨[.int, .int], some .int⟩ := by decide +kernel
theorem pd__28__29_V : parseMethodDescriptor "()V" = some ⟨[], none⟩ := by decide +kernel
theorem pd__28_JJI_29_V : parseMethodDescriptor "(JJI)V" = some ⟨[.long, .long, .int], none⟩ := by decide +kernel
theorem pd__28_IIIJJ_29_J : parseMethodDescriptor "(IIIJJ)J" = some ⟨[.int, .int, .int, .long, .long], some .long⟩ := by decide +kernel
theorem pd__28__29_I : parseMethodDescriptor "()I" = some ⟨[], some .int⟩ := by decide +kernel
theorem pd__28_I_29_J : parseMethodDescriptor "(I)J" = some ⟨[.int], some .long⟩ := by decide +kernel

theorem ef_0 (m : MethodId) (q0 : Int64) (q1 : Int64) (q2 : Int64) (p3 : Int32) : entryFrame m #[(.long q0), (.long q1), (.long q2), (.int p3)] maxLocals = mkF m 0 #[.val (.long q0), .second, .val (.long q1), .second, .val (.long q2), .second, .val (.int p3), .unset, .unset, .unset, .unset, .unset, .unset, .unset, .unset, .unset, .unset] [] := by first | (simp [entryFrame, mkF, argsToLocals, Value.category, maxLocals]; done) | rfl
def Q0 (Z : State) (q0 : Int64) (q1 : Int64) (q2 : Int64) (p3 : Int32)  (h0 : Heap) (n0 : Nat) (v : Option Value) (h : Heap) (L : List Loc) : Prop := v = some (.int (1 : Int32)) ∧ Fr n0 L
set_option maxRecDepth 65536 in
set_option maxHeartbeats 40000000 in
theorem rm0 (l : Launch) (Z : State) (a0 : Array Value) (hw : ∀ d ∈ tables_1, d.before a0 Z = true) (ws : List Jvm.Cond) (q0 : Int64) (q1 : Int64) (q2 : Int64) (p3 : Int32)  (h0 : Heap) (n0 : Nat) (Z0 : n0 ≤ h0.size)  :
    MetFree l x (head1 (Jvm.Cond.code x code maxLocals ret :: ws) room_1) (fun a U => a = #[(.long q0), (.long q1), (.long q2), (.int p3)] ∧ Z.Warmed39 U.vm ∧ U.heap = h0) (fun _ _ _ _ _ => True) (fun _ U o U' => ∃ v L, o = .returned v ∧ Q0 Z q0 q1 q2 p3 h0 n0 v U'.heap L ∧ FrameEnd U o U' L room_1.cells room_1.slots) := by
  refine MetFree.of_bodySF (plainFor_of_name pn_com_example_lean_throttle_leanthrottle_TimeRingDropOldestPinLaw) hisR ?_
  intro p e s m args below meth c s₁ Bd hml0 hP hK
  obtain ⟨rfl, hZ, hh⟩ := hP
  have hx := Bd.exec
  have hby := Bd.bytes
  have hml : c.maxLocals = 17 := hml0
  have hown : s.vm.findClass "com/example/lean_throttle/leanthrottle/TimeRingDropOldestPinLaw" = some m.cls := findClass_of_methodNamed Bd.named
  have hnm := (name_of_methodNamed Bd.named Bd.method).1
  have X0 : Stand p l e room_1 s m #[(.long q0), (.long q1), (.long q2), (.int p3)] below meth c s₁ [] 0 0 := Stand.of_body Bd
  have e0 : s₁.heap = h0 := by rw [← hh, Bd.state]; rfl
  have N0 := Fr.nil n0
  have K0 : (h0.size ≤ h0.size ∧ True) := ⟨Nat.le_refl _, trivial⟩
  obtain ⟨G, hG⟩ : ∃ z, z = s₁.setTop (entryFrame m #[(.long q0), (.long q1), (.long q2), (.int p3)] maxLocals) := ⟨_, rfl⟩
  have pre0 : Lead p e below G (s₁.setTop (mkF m 0 #[.val (.long q0), .second, .val (.long q1), .second, .val (.long q2), .second, .val (.int p3), .unset, .unset, .unset, .unset, .unset, .unset, .unset, .unset, .unset, .unset] [])) := fun t k => by rw [hG]; exact castTop (ef_0 m q0 q1 q2 p3) k
  have pre1 : Lead p e below G (s₁.setTop (mkF m 8 #[.val (.long q0), .second, .val (.long q1), .second, .val (.long q2), .second, .val (.int p3), .val (.int ((1 : Int32) + (p3 &&& (3 : Int32)))), .unset, .unset, .unset, .unset, .unset, .unset, .unset, .unset, .unset] [])) := fun t k => by
    refine pre0 t ?_
    show Steps p.tables e below (s₁.setTop (mkF m 0 #[.val (.long q0), .second, .val (.long q1), .second, .val (.long q2), .second, .val (.int p3), .unset, .unset, .unset, .unset, .unset, .unset, .unset, .unset, .unset, .unset] [])) _
    refine XS.iconst X0.here hx rfl (hb hby at_0) ?_
    refine XS.iload X0.here hx rfl (hb hby at_1) rfl ?_
    show Steps p.tables e below (s₁.setTop (mkF m 3 #[.val (.long q0), .second, .val (.long q1), .second, .val (.long q2), .second, .val (.int p3), .unset, .unset, .unset, .unset, .unset, .unset, .unset, .unset, .unset, .unset] [(.int p3), (.int (1 : Int32))])) _
    refine XS.iconst X0.here hx rfl (hb hby at_3) ?_
    refine XS.iand X0.here hx rfl (hb hby at_4) rfl ?_
    refine XS.iadd X0.here hx rfl (hb hby at_5) rfl ?_
    show Steps p.tables e below (s₁.setTop (mkF m 6 #[.val (.long q0), .second, .val (.long q1), .second, .val (.long q2), .second, .val (.int p3), .unset, .unset, .unset, .unset, .unset, .unset, .unset, .unset, .unset, .unset] [(.int ((1 : Int32) + (p3 &&& (3 : Int32))))])) _
    refine XS.istore X0.here hx rfl (hb hby at_6) rfl (l' := #[.val (.long q0), .second, .val (.long q1), .second, .val (.long q2), .second, .val (.int p3), .val (.int ((1 : Int32) + (p3 &&& (3 : Int32)))), .unset, .unset, .unset, .unset, .unset, .unset, .unset, .unset, .unset]) rfl ?_
    exact k
  obtain ⟨v2, hv2⟩ : ∃ z : Int32, z = ((1 : Int32) + (p3 &&& (3 : Int32))) := ⟨_, rfl⟩
  have pre2 : Lead p e below G (s₁.setTop (mkF m 8 #[.val (.long q0), .second, .val (.long q1), .second, .val (.long q2), .second, .val (.int p3), .val (.int v2), .unset, .unset, .unset, .unset, .unset, .unset, .unset, .unset, .unset] [])) := by rw [hv2]; exact pre1
  have pre3 : Lead p e below G (s₁.setTop (mkF m 18 #[.val (.long q0), .second, .val (.long q1), .second, .val (.long q2), .second, .val (.int p3), .val (.int v2), .unset, .unset, .unset, .unset, .unset, .unset, .unset, .unset, .unset] [(.int (v2 - (1 : Int32))), (.int (((p3.toUInt32 >>> ((2 : Int32) &&& 31).toUInt32).toInt32) &&& (3 : Int32)))])) := fun t k => by
    refine pre2 t ?_
    show Steps p.tables e below (s₁.setTop (mkF m 8 #[.val (.long q0), .second, .val (.long q1), .second, .val (.long q2), .second, .val (.int p3), .val (.int v2), .unset, .unset, .unset, .unset, .unset, .unset, .unset, .unset, .unset] [])) _
    refine XS.iload X0.here hx rfl (hb hby at_8) rfl ?_
    refine XS.iconst X0.here hx rfl (hb hby at_10) ?_
    show Steps p.tables e below (s₁.setTop (mkF m 11 #[.val (.long q0), .second, .val (.long q1), .second, .val (.long q2), .second, .val (.int p3), .val (.int v2), .unset, .unset, .unset, .unset, .unset, .unset, .unset, .unset, .unset] [(.int (2 : Int32)), (.int p3)])) _
    refine XS.iushr X0.here hx rfl (hb hby at_11) rfl ?_
    refine XS.iconst X0.here hx rfl (hb hby at_12) ?_
    refine XS.iand X0.here hx rfl (hb hby at_13) rfl ?_
    show Steps p.tables e below (s₁.setTop (mkF m 14 #[.val (.long q0), .second, .val (.long q1), .second, .val (.long q2), .second, .val (.int p3), .val (.int v2), .unset, .unset, .unset, .unset, .unset, .unset, .unset, .unset, .unset] [(.int (((p3.toUInt32 >>> ((2 : Int32) &&& 31).toUInt32).toInt32) &&& (3 : Int32)))])) _
    refine XS.iload X0.here hx rfl (hb hby at_14) rfl ?_
    refine XS.iconst X0.here hx rfl (hb hby at_16) ?_
    refine XS.isub X0.here hx rfl (hb hby at_17) rfl ?_
    show Steps p.tables e below (s₁.setTop (mkF m 18 #[.val (.long q0), .second, .val (.long q1), .second, .val (.long q2), .second, .val (.int p3), .val (.int v2), .unset, .unset, .unset, .unset, .unset, .unset, .unset, .unset, .unset] [(.int (v2 - (1 : Int32))), (.int (((p3.toUInt32 >>> ((2 : Int32) &&& 31).toUInt32).toInt32) &&& (3 : Int32)))])) _
    exact k
  obtain ⟨v4, hv4⟩ : ∃ z : Int32, z = (((p3.toUInt32 >>> ((2 : Int32) &&& 31).toUInt32).toInt32) &&& (3 : Int32)) := ⟨_, rfl⟩
  have pre4 : Lead p e below G (s₁.setTop (mkF m 18 #[.val (.long q0), .second, .val (.long q1), .second, .val (.long q2), .second, .val (.int p3), .val (.int v2), .unset, .unset, .unset, .unset, .unset, .unset, .unset, .unset, .unset] [(.int (v2 - (1 : Int32))), (.int v4)])) := by rw [hv4]; exact pre3
  obtain ⟨_, _, ⟨T5, L5, k5, n5⟩, -, X5, ⟨Lc5, hQ5, l5, y5, z5⟩, st5⟩ := Jvm.LawKit.callS X0 hx (y := (⟨"java/lang/Math", "min", "(II)I"⟩ : MethodName)) hown (mvT hZ (hw _ (List.mem_of_getElem? (i := 0) rfl))) (mvT hZ (hw _ (List.mem_of_getElem? (i := 1) rfl))) (mvT hZ (hw _ (List.mem_of_getElem? (i := 2) rfl))) (mvT hZ (hw _ (List.mem_of_getElem? (i := 3) rfl))) (by decide) (backOf (W := 0) (rm1 l Z a0 hw [] v4 (v2 - (1 : Int32))  h0 n0 (Nat.le_trans Z0 K0.1) ) hZ (hw _ (List.mem_of_getElem? (i := 3) rfl)) (hw _ (List.mem_of_getElem? (i := 2) rfl)) (by decide) (by decide)) (g := (mkF m 18 #[.val (.long q0), .second, .val (.long q1), .second, .val (.long q2), .second, .val (.int p3), .val (.int v2), .unset, .unset, .unset, .unset, .unset, .unset, .unset, .unset, .unset] [(.int (v2 - (1 : Int32))), (.int v4)])) rfl (by rw [hml]; rfl) (argsL := [(.int v4), (.int (v2 - (1 : Int32)))]) (rest := []) (lenOf pd__28_II_29_I rfl) rfl (by show 2 * 0 + _ ≤ _; exact Nat.le_of_eq rfl) (hb hby at_18) (fun _ _ => ⟨rfl, e0, (by decide : 0 + 0 ≤ _), (by decide : 0 + 0 ≤ _)⟩)
  dsimp only [Pt.U, Pt.locs, Pt.cells, Pt.slots] at X5 l5 y5 z5 st5 hQ5
  subst l5 y5 z5
  obtain ⟨rfl, N5q, e5⟩ := hQ5
  have N5 := Fr.app N0 N5q
  obtain ⟨M5, Y5, N5⟩ : ∃ M, Stand p l e room_1 s m #[(.long q0), (.long q1), (.long q2), (.int p3)] below meth c T5 M 0 0 ∧ Fr n0 M := ⟨_, X5, N5⟩
  have pre5 : Lead p e below G (T5.setTop (mkF m 21 #[.val (.long q0), .second, .val (.long q1), .second, .val (.long q2), .second, .val (.int p3), .val (.int v2), .unset, .unset, .unset, .unset, .unset, .unset, .unset, .unset, .unset] [(.int (F1 v4 (v2 - (1 : Int32))))])) := fun t k => pre4 t (st5 _ k)
  have pre6 : Lead p e below G (T5.setTop (mkF m 23 #[.val (.long q0), .second, .val (.long q1), .second, .val (.long q2), .second, .val (.int p3), .val (.int v2), .val (.int (F1 v4 (v2 - (1 : Int32)))), .unset, .unset, .unset, .unset, .unset, .unset, .unset, .unset] [])) := fun t k => by
    refine pre5 t ?_
    show Steps p.tables e below (T5.setTop (mkF m 21 #[.val (.long q0), .second, .val (.long q1), .second, .val (.long q2), .second, .val (.int p3), .val (.int v2), .unset, .unset, .unset, .unset, .unset, .unset, .unset, .unset, .unset] [(.int (F1 v4 (v2 - (1 : Int32))))])) _
    refine XS.istore Y5.here hx rfl (hb hby at_21) rfl (l' := #[.val (.long q0), .second, .val (.long q1), .second, .val (.long q2), .second, .val (.int p3), .val (.int v2), .val (.int (F1 v4 (v2 - (1 : Int32)))), .unset, .unset, .unset, .unset, .unset, .unset, .unset, .unset]) rfl ?_
    exact k
  obtain ⟨v7, hv7⟩ : ∃ z : Int32, z = (F1 v4 (v2 - (1 : Int32))) := ⟨_, rfl⟩
  have pre7 : Lead p e below G (T5.setTop (mkF m 23 #[.val (.long q0), .second, .val (.long q1), .second, .val (.long q2), .second, .val (.int p3), .val (.int v2), .val (.int v7), .unset, .unset, .unset, .unset, .unset, .unset, .unset, .unset] [])) := by rw [hv7]; exact pre6
  have pre8 : Lead p e below G (T5.setTop (mkF m 36 #[.val (.long q0), .second, .val (.long q1), .second, .val (.long q2), .second, .val (.int p3), .val (.int v2), .val (.int v7), .unset, .unset, .unset, .unset, .unset, .unset, .unset, .unset] [(.int ((4 : Int32) - (v2 - v7))), (.int (((p3.toUInt32 >>> ((4 : Int32) &&& 31).toUInt32).toInt32) &&& (3 : Int32)))])) := fun t k => by
    refine pre7 t ?_
    show Steps p.tables e below (T5.setTop (mkF m 23 #[.val (.long q0), .second, .val (.long q1), .second, .val (.long q2), .second, .val (.int p3), .val (.int v2), .val (.int v7), .unset, .unset, .unset, .unset, .unset, .unset, .unset, .unset] [])) _
    refine XS.iload Y5.here hx rfl (hb hby at_23) rfl ?_
    refine XS.iconst Y5.here hx rfl (hb hby at_25) ?_
    show Steps p.tables e below (T5.setTop (mkF m 26 #[.val (.long q0), .second, .val (.long q1), .second, .val (.long q2), .second, .val (.int p3), .val (.int v2), .val (.int v7), .unset, .unset, .unset, .unset, .unset, .unset, .unset, .unset] [(.int (4 : Int32)), (.int p3)])) _
    refine XS.iushr Y5.here hx rfl (hb hby at_26) rfl ?_
    refine XS.iconst Y5.here hx rfl (hb hby at_27) ?_
    refine XS.iand Y5.here hx rfl (hb hby at_28) rfl ?_
    show Steps p.tables e below (T5.setTop (mkF m 29 #[.val (.long q0), .second, .val (.long q1), .second, .val (.long q2), .second, .val (.int p3), .val (.int v2), .val (.int v7), .unset, .unset, .unset, .unset, .unset, .unset, .unset, .unset] [(.int (((p3.toUInt32 >>> ((4 : Int32) &&& 31).toUInt32).toInt32) &&& (3 : Int32)))])) _
    refine XS.iconst Y5.here hx rfl (hb hby at_29) ?_
    refine XS.iload Y5.here hx rfl (hb hby at_30) rfl ?_
    refine XS.iload Y5.here hx rfl (hb hby at_32) rfl ?_
    show Steps p.tables e below (T5.setTop (mkF m 34 #[.val (.long q0), .second, .val (.long q1), .second, .val (.long q2), .second, .val (.int p3), .val (.int v2), .val (.int v7), .unset, .unset, .unset, .unset, .unset, .unset, .unset, .unset] [(.int v7), (.int v2), (.int (4 : Int32)), (.int (((p3.toUInt32 >>> ((4 : Int32) &&& 31).toUInt32).toInt32) &&& (3 : Int32)))])) _
    refine XS.isub Y5.here hx rfl (hb hby at_34) rfl ?_
    refine XS.isub Y5.here hx rfl (hb hby at_35) rfl ?_
    exact k
  obtain ⟨v9, hv9⟩ : ∃ z : Int32, z = (((p3.toUInt32 >>> ((4 : Int32) &&& 31).toUInt32).toInt32) &&& (3 : Int32)) := ⟨_, rfl⟩
  have pre9 : Lead p e below G (T5.setTop (mkF m 36 #[.val (.long q0), .second, .val (.long q1), .second, .val (.long q2), .second, .val (.int p3), .val (.int v2), .val (.int v7), .unset, .unset, .unset, .unset, .unset, .unset, .unset, .unset] [(.int ((4 : Int32) - (v2 - v7))), (.int v9)])) := by rw [hv9]; exact pre8
  obtain ⟨_, _, ⟨T10, L10, k10, n10⟩, -, X10, ⟨Lc10, hQ10, l10, y10, z10⟩, st10⟩ := Jvm.LawKit.callS Y5 hx (y := (⟨"java/lang/Math", "min", "(II)I"⟩ : MethodName)) hown (mvT hZ (hw _ (List.mem_of_getElem? (i := 0) rfl))) (mvT hZ (hw _ (List.mem_of_getElem? (i := 1) rfl))) (mvT hZ (hw _ (List.mem_of_getElem? (i := 2) rfl))) (mvT hZ (hw _ (List.mem_of_getElem? (i := 3) rfl))) (by decide) (backOf (W := 0) (rm1 l Z a0 hw [] v9 ((4 : Int32) - (v2 - v7))  h0 n0 (Nat.le_trans Z0 K0.1) ) hZ (hw _ (List.mem_of_getElem? (i := 3) rfl)) (hw _ (List.mem_of_getElem? (i := 2) rfl)) (by decide) (by decide)) (g := (mkF m 36 #[.val (.long q0), .second, .val (.long q1), .second, .val (.long q2), .second, .val (.int p3), .val (.int v2), .val (.int v7), .unset, .unset, .unset, .unset, .unset, .unset, .unset, .unset] [(.int ((4 : Int32) - (v2 - v7))), (.int v9)])) rfl (by rw [hml]; rfl) (argsL := [(.int v9), (.int ((4 : Int32) - (v2 - v7)))]) (rest := []) (lenOf pd__28_II_29_I rfl) rfl (by show 2 * 0 + _ ≤ _; exact Nat.le_of_eq rfl) (hb hby at_36) (fun _ _ => ⟨rfl, e5, (by decide : 0 + 0 ≤ _), (by decide : 0 + 0 ≤ _)⟩)
  dsimp only [Pt.U, Pt.locs, Pt.cells, Pt.slots] at X10 l10 y10 z10 st10 hQ10
  subst l10 y10 z10
  obtain ⟨rfl, N10q, e10⟩ := hQ10
  have N10 := Fr.app N5 N10q
  obtain ⟨M10, Y10, N10⟩ : ∃ M, Stand p l e room_1 s m #[(.long q0), (.long q1), (.long q2), (.int p3)] below meth c T10 M 0 0 ∧ Fr n0 M := ⟨_, X10, N10⟩
  have pre10 : Lead p e below G (T10.setTop (mkF m 39 #[.val (.long q0), .second, .val (.long q1), .second, .val (.long q2), .second, .val (.int p3), .val (.int v2), .val (.int v7), .unset, .unset, .unset, .unset, .unset, .unset, .unset, .unset] [(.int (F1 v9 ((4 : Int32) - (v2 - v7))))])) := fun t k => pre9 t (st10 _ k)
  have pre11 : Lead p e below G (T10.setTop (mkF m 41 #[.val (.long q0), .second, .val (.long q1), .second, .val (.long q2), .second, .val (.int p3), .val (.int v2), .val (.int v7), .val (.int (F1 v9 ((4 : Int32) - (v2 - v7)))), .unset, .unset, .unset, .unset, .unset, .unset, .unset] [])) := fun t k => by
    refine pre10 t ?_
    show Steps p.tables e below (T10.setTop (mkF m 39 #[.val (.long q0), .second, .val (.long q1), .second, .val (.long q2), .second, .val (.int p3), .val (.int v2), .val (.int v7), .unset, .unset, .unset, .unset, .unset, .unset, .unset, .unset] [(.int (F1 v9 ((4 : Int32) - (v2 - v7))))])) _
    refine XS.istore Y10.here hx rfl (hb hby at_39) rfl (l' := #[.val (.long q0), .second, .val (.long q1), .second, .val (.long q2), .second, .val (.int p3), .val (.int v2), .val (.int v7), .val (.int (F1 v9 ((4 : Int32) - (v2 - v7)))), .unset, .unset, .unset, .unset, .unset, .unset, .unset]) rfl ?_
    show Steps p.tables e below (T10.setTop (mkF m 41 #[.val (.long q0), .second, .val (.long q1), .second, .val (.long q2), .second, .val (.int p3), .val (.int v2), .val (.int v7), .val (.int (F1 v9 ((4 : Int32) - (v2 - v7)))), .unset, .unset, .unset, .unset, .unset, .unset, .unset] [])) _
    exact k
  obtain ⟨v12, hv12⟩ : ∃ z : Int32, z = (F1 v9 ((4 : Int32) - (v2 - v7))) := ⟨_, rfl⟩
  have pre12 : Lead p e below G (T10.setTop (mkF m 41 #[.val (.long q0), .second, .val (.long q1), .second, .val (.long q2), .second, .val (.int p3), .val (.int v2), .val (.int v7), .val (.int v12), .unset, .unset, .unset, .unset, .unset, .unset, .unset] [])) := by rw [hv12]; exact pre11
  have hnpq : NPQ v2 v7 v12 := (by subst hv12 hv9 hv7 hv4 hv2; exact own_npq p3)
  obtain ⟨T13, h13, X13, e13, E13, A13, D13, -, st13⟩ := newO Y10 hx hZ hown (hw _ (List.mem_of_getElem? (i := 4) rfl)) (hw _ (List.mem_of_getElem? (i := 5) rfl)) (hw _ (List.mem_of_getElem? (i := 6) rfl)) e10 (g := (mkF m 41 #[.val (.long q0), .second, .val (.long q1), .second, .val (.long q2), .second, .val (.int p3), .val (.int v2), .val (.int v7), .val (.int v12), .unset, .unset, .unset, .unset, .unset, .unset, .unset] [])) rfl (hb hby at_41) (by decide) (by decide)
  obtain ⟨b13, g13⟩ : ∃ z, z = h0.size := ⟨_, rfl⟩
  rw [← g13] at A13 D13 st13
  have sz13 : h0.size ≤ b13 := Nat.le_trans K0.1 (Nat.le_of_eq g13.symm)
  have ge13 : n0 ≤ b13 := Nat.le_trans Z0 sz13
  have K13 : h0.size ≤ h13.size ∧ True := ⟨Nat.le_trans K0.1 E13.1, trivial⟩
  have F13_times : Fld Z h13 b13 "com/example/lean_throttle/leanthrottle/TimeRing" "times" "[J" .null := D13 (Or.inl (hw _ (List.mem_of_getElem? (i := 15) rfl))) (ty := (.array .long)) (by decide)
  have F13_totals : Fld Z h13 b13 "com/example/lean_throttle/leanthrottle/TimeRing" "totals" "[J" .null := D13 (Or.inl (hw _ (List.mem_of_getElem? (i := 17) rfl))) (ty := (.array .long)) (by decide)
  have F13_size : Fld Z h13 b13 "com/example/lean_throttle/leanthrottle/TimeRing" "size" "I" (.int (0 : Int32)) := D13 (Or.inl (hw _ (List.mem_of_getElem? (i := 33) rfl))) (ty := .int) (by decide)
  have F13_totalBefore : Fld Z h13 b13 "com/example/lean_throttle/leanthrottle/TimeRing" "totalBefore" "J" (.long (0 : Int64)) := D13 (Or.inl (hw _ (List.mem_of_getElem? (i := 35) rfl))) (ty := .long) (by decide)
  have F13_first : Fld Z h13 b13 "com/example/lean_throttle/leanthrottle/TimeRing" "first" "I" (.int (0 : Int32)) := D13 (Or.inl (hw _ (List.mem_of_getElem? (i := 41) rfl))) (ty := .int) (by decide)
  have pre13 : Lead p e below G (T13.setTop (mkF m 44 #[.val (.long q0), .second, .val (.long q1), .second, .val (.long q2), .second, .val (.int p3), .val (.int v2), .val (.int v7), .val (.int v12), .unset, .unset, .unset, .unset, .unset, .unset, .unset] [(.ref b13)])) := fun t k => pre12 t (st13 _ k)
  have pre14 : Lead p e below G (T13.setTop (mkF m 45 #[.val (.long q0), .second, .val (.long q1), .second, .val (.long q2), .second, .val (.int p3), .val (.int v2), .val (.int v7), .val (.int v12), .unset, .unset, .unset, .unset, .unset, .unset, .unset] [(.ref b13), (.ref b13)])) := fun t k => by
    refine pre13 t ?_
    show Steps p.tables e below (T13.setTop (mkF m 44 #[.val (.long q0), .second, .val (.long q1), .second, .val (.long q2), .second, .val (.int p3), .val (.int v2), .val (.int v7), .val (.int v12), .unset, .unset, .unset, .unset, .unset, .unset, .unset] [(.ref b13)])) _
    refine XS.dup X13.here hx rfl (hb hby at_44) rfl rfl ?_
    exact k
  obtain ⟨_, _, ⟨T15, L15, k15, n15⟩, -, X15, ⟨Lc15, hQ15, l15, y15, z15⟩, st15⟩ := X13.specialBack hx (y := (⟨"com/example/lean_throttle/leanthrottle/TimeRing", "<init>", "()V"⟩ : MethodName)) rfl hown (mvT hZ (hw _ (List.mem_of_getElem? (i := 7) rfl))) (mvT hZ (hw _ (List.mem_of_getElem? (i := 8) rfl))) (mvT hZ (hw _ (List.mem_of_getElem? (i := 9) rfl))) (by decide) (backOf (W := 1) (rm2 l Z a0 hw [] b13  h13 n0 (Nat.le_trans Z0 K13.1) A13 ge13 F13_times F13_totals F13_first F13_size F13_totalBefore) hZ (hw _ (List.mem_of_getElem? (i := 9) rfl)) (hw _ (List.mem_of_getElem? (i := 6) rfl)) (by decide) (by decide)) (g := (mkF m 45 #[.val (.long q0), .second, .val (.long q1), .second, .val (.long q2), .second, .val (.int p3), .val (.int v2), .val (.int v7), .val (.int v12), .unset, .unset, .unset, .unset, .unset, .unset, .unset] [(.ref b13), (.ref b13)])) rfl (by rw [hml]; rfl) (Steps.refl _) (a := b13) (argsL := []) (rest := [(.ref b13)]) (lenOf pd__28__29_V rfl) rfl (by show 2 * 0 + _ ≤ _; exact Nat.le_of_eq rfl) (hb hby at_45) (fun _ _ => ⟨rfl, e13, (by decide : 1 + 2 ≤ _), (by decide : 5 + 2 ≤ _)⟩)
  dsimp only [Pt.U, Pt.locs, Pt.cells, Pt.slots] at X15 l15 y15 z15 st15 hQ15
  subst l15 y15 z15
  obtain ⟨n1_15, n2_15, rfl, N15q, K15c, c15_0, c15_1, c15_2, c15_3, c15_4, c15_5, c15_6, c15_7, c15_8, c15_9, c15_10⟩ := hQ15
  have N15 := Fr.app N10 N15q
  have ne15_b13_n1_15 : b13 ≠ n1_15 := Nat.ne_of_lt (Nat.lt_of_lt_of_le A13.lt c15_6)
  have szn1_15 : h0.size ≤ n1_15 := Nat.le_trans K13.1 c15_6
  have gen1_15 : n0 ≤ n1_15 := Nat.le_trans Z0 szn1_15
  have ne15_b13_n2_15 : b13 ≠ n2_15 := Nat.ne_of_lt (Nat.lt_of_lt_of_le A13.lt c15_7)
  have szn2_15 : h0.size ≤ n2_15 := Nat.le_trans K13.1 c15_7
  have gen2_15 : n0 ≤ n2_15 := Nat.le_trans Z0 szn2_15
  have K15 : h0.size ≤ T15.heap.size ∧ True := ⟨Nat.le_trans K13.1 K15c.1, trivial⟩
  obtain ⟨M15, Y15, N15⟩ : ∃ M, Stand p l e room_1 s m #[(.long q0), (.long q1), (.long q2), (.int p3)] below meth c T15 M 3 7 ∧ Fr n0 M := ⟨_, X15, N15⟩
  have pre15 : Lead p e below G (T15.setTop (mkF m 48 #[.val (.long q0), .second, .val (.long q1), .second, .val (.long q2), .second, .val (.int p3), .val (.int v2), .val (.int v7), .val (.int v12), .unset, .unset, .unset, .unset, .unset, .unset, .unset] [(.ref b13)])) := fun t k => pre14 t (st15.trans k)
  have pre16 : Lead p e below G (T15.setTop (mkF m 57 #[.val (.long q0), .second, .val (.long q1), .second, .val (.long q2), .second, .val (.int p3), .val (.int v2), .val (.int v7), .val (.int v12), .val (.ref b13), .unset, .unset, .unset, .unset, .unset, .unset] [(.long q2), (.long q1), (.int (0 : Int32)), (.long q0), (.ref b13)])) := fun t k => by
    refine pre15 t ?_
    show Steps p.tables e below (T15.setTop (mkF m 48 #[.val (.long q0), .second, .val (.long q1), .second, .val (.long q2), .second, .val (.int p3), .val (.int v2), .val (.int v7), .val (.int v12), .unset, .unset, .unset, .unset, .unset, .unset, .unset] [(.ref b13)])) _
    refine XS.astore Y15.here hx rfl (hb hby at_48) rfl rfl (l' := #[.val (.long q0), .second, .val (.long q1), .second, .val (.long q2), .second, .val (.int p3), .val (.int v2), .val (.int v7), .val (.int v12), .val (.ref b13), .unset, .unset, .unset, .unset, .unset, .unset]) rfl ?_
    refine XS.aload Y15.here hx rfl (hb hby at_50) rfl rfl ?_
    show Steps p.tables e below (T15.setTop (mkF m 52 #[.val (.long q0), .second, .val (.long q1), .second, .val (.long q2), .second, .val (.int p3), .val (.int v2), .val (.int v7), .val (.int v12), .val (.ref b13), .unset, .unset, .unset, .unset, .unset, .unset] [(.ref b13)])) _
    refine XS.lloadN Y15.here hx rfl (hb hby at_52) rfl ?_
    refine XS.iconst Y15.here hx rfl (hb hby at_53) ?_
    refine XS.lloadN Y15.here hx rfl (hb hby at_54) rfl ?_
    show Steps p.tables e below (T15.setTop (mkF m 55 #[.val (.long q0), .second, .val (.long q1), .second, .val (.long q2), .second, .val (.int p3), .val (.int v2), .val (.int v7), .val (.int v12), .val (.ref b13), .unset, .unset, .unset, .unset, .unset, .unset] [(.long q1), (.int (0 : Int32)), (.long q0), (.ref b13)])) _
    refine XS.lload Y15.here hx rfl (hb hby at_55) rfl ?_
    exact k
  obtain ⟨_, _, ⟨T17, L17, k17, n17⟩, -, X17, ⟨Lc17, hQ17, l17, y17, z17⟩, st17⟩ := Jvm.LawKit.callS Y15 hx (y := (⟨"com/example/lean_throttle/leanthrottle/TimeRingDropOldestPinLaw", "u", "(IJJ)J"⟩ : MethodName)) hown (mvT hZ (hw _ (List.mem_of_getElem? (i := 18) rfl))) (mvT hZ (hw _ (List.mem_of_getElem? (i := 19) rfl))) (mvT hZ (hw _ (List.mem_of_getElem? (i := 20) rfl))) (mvT hZ (hw _ (List.mem_of_getElem? (i := 21) rfl))) (by decide) (backOf (W := 3) (rm4 l Z a0 hw [] (0 : Int32) q1 q2  T15.heap n0 (Nat.le_trans Z0 K15.1) ) hZ (hw _ (List.mem_of_getElem? (i := 21) rfl)) (hw _ (List.mem_of_getElem? (i := 20) rfl)) (by decide) (by decide)) (g := (mkF m 57 #[.val (.long q0), .second, .val (.long q1), .second, .val (.long q2), .second, .val (.int p3), .val (.int v2), .val (.int v7), .val (.int v12), .val (.ref b13), .unset, .unset, .unset, .unset, .unset, .unset] [(.long q2), (.long q1), (.int (0 : Int32)), (.long q0), (.ref b13)])) rfl (by rw [hml]; rfl) (argsL := [(.int (0 : Int32)), (.long q1), (.long q2)]) (rest := [(.long q0), (.ref b13)]) (lenOf pd__28_IJJ_29_J rfl) rfl (by show 2 * 0 + _ ≤ _; exact Nat.le_of_eq rfl) (hb hby at_57) (fun _ _ => ⟨rfl, rfl, (by decide : 3 + 0 ≤ _), (by decide : 7 + 0 ≤ _)⟩)
  dsimp only [Pt.U, Pt.locs, Pt.cells, Pt.slots] at X17 l17 y17 z17 st17 hQ17
  subst l17 y17 z17
  obtain ⟨rfl, N17q, e17⟩ := hQ17
  have N17 := Fr.app N15 N17q
  obtain ⟨M17, Y17, N17⟩ : ∃ M, Stand p l e room_1 s m #[(.long q0), (.long q1), (.long q2), (.int p3)] below meth c T17 M 3 7 ∧ Fr n0 M := ⟨_, X17, N17⟩
  have pre17 : Lead p e below G (T17.setTop (mkF m 60 #[.val (.long q0), .second, .val (.long q1), .second, .val (.long q2), .second, .val (.int p3), .val (.int v2), .val (.int v7), .val (.int v12), .val (.ref b13), .unset, .unset, .unset, .unset, .unset, .unset] [(.long (F4 (0 : Int32) q1 q2)), (.long q0), (.ref b13)])) := fun t k => pre16 t (st17 _ k)
  have pre18 : Lead p e below G (T17.setTop (mkF m 61 #[.val (.long q0), .second, .val (.long q1), .second, .val (.long q2), .second, .val (.int p3), .val (.int v2), .val (.int v7), .val (.int v12), .val (.ref b13), .unset, .unset, .unset, .unset, .unset, .unset] [(.int (4 : Int32)), (.long (F4 (0 : Int32) q1 q2)), (.long q0), (.ref b13)])) := fun t k => by
    refine pre17 t ?_
    show Steps p.tables e below (T17.setTop (mkF m 60 #[.val (.long q0), .second, .val (.long q1), .second, .val (.long q2), .second, .val (.int p3), .val (.int v2), .val (.int v7), .val (.int v12), .val (.ref b13), .unset, .unset, .unset, .unset, .unset, .unset] [(.long (F4 (0 : Int32) q1 q2)), (.long q0), (.ref b13)])) _
    refine XS.iconst Y17.here hx rfl (hb hby at_60) ?_
    exact k
  obtain ⟨cq19, kq19, q19a, q19b, q19c⟩ := isOf hZ e17 c15_0
  obtain ⟨_, _, ⟨T19, L19, k19, n19⟩, -, X19, ⟨Lc19, hQ19, l19, y19, z19⟩, st19⟩ := Y17.virtualBack hx (y := (⟨"com/example/lean_throttle/leanthrottle/TimeRing", "add", "(JJI)V"⟩ : MethodName)) (z := (⟨"com/example/lean_throttle/leanthrottle/TimeRing", "add", "(JJI)V"⟩ : MethodName)) hown (mvT hZ (hw _ (List.mem_of_getElem? (i := 23) rfl))) (mvT hZ (hw _ (List.mem_of_getElem? (i := 24) rfl))) (notFace_of_selects (args := #[]) (mvT hZ (hw _ (List.mem_of_getElem? (i := 26) rfl)))) (mvT hZ (hw _ (List.mem_of_getElem? (i := 26) rfl))) (mvT hZ (hw _ (List.mem_of_getElem? (i := 25) rfl))) (by decide) (backOf (W := 0) (rm5 l Z a0 hw [] b13 q0 (F4 (0 : Int32) q1 q2) n1_15 n2_15 (0 : Int32) (0 : Int32) (1 : Int32) (0 : Int64) (fun _ => (0 : Int64)) (fun _ => (0 : Int64)) T15.heap n0 (Nat.le_trans Z0 K15.1) c15_0 c15_1 c15_2 c15_3 c15_4 c15_5 c15_9 c15_10 ne15_b13_n1_15 ne15_b13_n2_15 c15_8 (show 0 ≤ (0 : Int32).toInt ∧ (0 : Int32).toInt < (1 : Int32).toInt from (by decide)) (show 0 ≤ (0 : Int32).toInt ∧ (0 : Int32).toInt ≤ (1 : Int32).toInt from (by decide)) (show (1 : Int32).toInt ≤ 4 from (by decide)) (show (1 : Int32).toInt = 1 ∨ (1 : Int32).toInt = 2 ∨ (1 : Int32).toInt = 4 from (by decide)) (show (0 : Int32).toInt < 4 from (by decide)) ge13 gen1_15 gen2_15) hZ (hw _ (List.mem_of_getElem? (i := 27) rfl)) (hw _ (List.mem_of_getElem? (i := 6) rfl)) (by decide) (by decide)) q19a q19c (g := (mkF m 61 #[.val (.long q0), .second, .val (.long q1), .second, .val (.long q2), .second, .val (.int p3), .val (.int v2), .val (.int v7), .val (.int v12), .val (.ref b13), .unset, .unset, .unset, .unset, .unset, .unset] [(.int (4 : Int32)), (.long (F4 (0 : Int32) q1 q2)), (.long q0), (.ref b13)])) rfl (by rw [hml]; rfl) (Steps.refl _) (argsL := [(.long q0), (.long (F4 (0 : Int32) q1 q2)), (.int (4 : Int32))]) (rest := []) (lenOf pd__28_JJI_29_V rfl) rfl (by show 2 * 0 + _ ≤ _; exact Nat.le_of_eq rfl) (hb hby at_61) (fun _ _ => ⟨rfl, e17, (by decide : 3 + 2 ≤ _), (by decide : 7 + 8 ≤ _)⟩)
  dsimp only [Pt.U, Pt.locs, Pt.cells, Pt.slots] at X19 l19 y19 z19 st19 hQ19
  subst l19 y19 z19
  obtain ⟨n1_19, n2_19, f2_19, l2_19, g1_19, g2_19, rfl, N19q, K19c, c19_0, c19_1, c19_2, c19_3, c19_4, c19_5, c19_6, c19_7, c19_8, c19_9, c19_10, c19_11, c19_12, c19_13⟩ := hQ19
  have N19 := Fr.app N17 N19q
  have K19 : h0.size ≤ T19.heap.size ∧ True := ⟨Nat.le_trans K15.1 K19c.1, trivial⟩
  obtain ⟨M19, Y19, N19⟩ : ∃ M, Stand p l e room_1 s m #[(.long q0), (.long q1), (.long q2), (.int p3)] below meth c T19 M 5 15 ∧ Fr n0 M := ⟨_, X19, N19⟩
  have pre19 : Lead p e below G (T19.setTop (mkF m 64 #[.val (.long q0), .second, .val (.long q1), .second, .val (.long q2), .second, .val (.int p3), .val (.int v2), .val (.int v7), .val (.int v12), .val (.ref b13), .unset, .unset, .unset, .unset, .unset, .unset] [])) := fun t k => pre18 t (st19.trans k)
  have pre20 : Lead p e below G (T19.setTop (mkF m 67 #[.val (.long q0), .second, .val (.long q1), .second, .val (.long q2), .second, .val (.int p3), .val (.int v2), .val (.int v7), .val (.int v12), .val (.ref b13), .unset, .unset, .unset, .unset, .unset, .unset] [(.int (2 : Int32)), (.int v2)])) := fun t k => by
    refine pre19 t ?_
    show Steps p.tables e below (T19.setTop (mkF m 64 #[.val (.long q0), .second, .val (.long q1), .second, .val (.long q2), .second, .val (.int p3), .val (.int v2), .val (.int v7), .val (.int v12), .val (.ref b13), .unset, .unset, .unset, .unset, .unset, .unset] [])) _
    refine XS.iload Y19.here hx rfl (hb hby at_64) rfl ?_
    show Steps p.tables e below (T19.setTop (mkF m 66 #[.val (.long q0), .second, .val (.long q1), .second, .val (.long q2), .second, .val (.int p3), .val (.int v2), .val (.int v7), .val (.int v12), .val (.ref b13), .unset, .unset, .unset, .unset, .unset, .unset] [(.int v2)])) _
    refine XS.iconst Y19.here hx rfl (hb hby at_66) ?_
    exact k
  obtain ⟨ra_21, rA_21, rf_21, rs_21, rl_21, rb_21, r1_21, r2_21, hi_21, T21, M21, h21, q21_0, q21_1, Y21, e21, N21, K21, f21_0, f21_1, f21_2, f21_3, f21_4, f21_5, f21_6, f21_7, w21_0, w21_1, w21_2, w21_3, w21_4, pre21⟩ : ∃ (ra_21 : Addr) (rA_21 : Addr) (rf_21 : Int32) (rs_21 : Int32) (rl_21 : Int32) (rb_21 : Int64) (r1_21 : Nat → Int64) (r2_21 : Nat → Int64) (hi_21 : Nat) (T21 : State) (M21 : List Loc) (h21 : Heap), (RR rf_21 rs_21 rl_21 r1_21 r2_21 rb_21 (ET q0) (EU q1 q2) 0 hi_21) ∧ ((hi_21 : Int) = (if v2.toInt < 2 then v2.toInt else 2)) ∧ Stand p l e room_1 s m #[(.long q0), (.long q1), (.long q2), (.int p3)] below meth c T21 M21 7 23 ∧ T21.heap = h21 ∧ Fr n0 M21 ∧ (h0.size ≤ h21.size ∧ True) ∧ Exa Z h21 b13 "com/example/lean_throttle/leanthrottle/TimeRing" ∧ Fld Z h21 b13 "com/example/lean_throttle/leanthrottle/TimeRing" "times" "[J" (.ref ra_21) ∧ Fld Z h21 b13 "com/example/lean_throttle/leanthrottle/TimeRing" "totals" "[J" (.ref rA_21) ∧ Fld Z h21 b13 "com/example/lean_throttle/leanthrottle/TimeRing" "first" "I" (.int rf_21) ∧ Fld Z h21 b13 "com/example/lean_throttle/leanthrottle/TimeRing" "size" "I" (.int rs_21) ∧ Fld Z h21 b13 "com/example/lean_throttle/leanthrottle/TimeRing" "totalBefore" "J" (.long rb_21) ∧ JV Value.long Z h21 ra_21 .long rl_21 r1_21 ∧ JV Value.long Z h21 rA_21 .long rl_21 r2_21 ∧ n0 ≤ ra_21 ∧ n0 ≤ rA_21 ∧ b13 ≠ ra_21 ∧ b13 ≠ rA_21 ∧ ra_21 ≠ rA_21 ∧ Lead p e below G (T21.setTop (mkF m 86 #[.val (.long q0), .second, .val (.long q1), .second, .val (.long q2), .second, .val (.int p3), .val (.int v2), .val (.int v7), .val (.int v12), .val (.ref b13), .unset, .unset, .unset, .unset, .unset, .unset] [])) := by
    by_cases hj67_21 : v2 < (2 : Int32)
    · have pre22 : Lead p e below G (T19.setTop (mkF m 86 #[.val (.long q0), .second, .val (.long q1), .second, .val (.long q2), .second, .val (.int p3), .val (.int v2), .val (.int v7), .val (.int v12), .val (.ref b13), .unset, .unset, .unset, .unset, .unset, .unset] [])) := fun t k => by
        refine pre20 t ?_
        show Steps p.tables e below (T19.setTop (mkF m 67 #[.val (.long q0), .second, .val (.long q1), .second, .val (.long q2), .second, .val (.int p3), .val (.int v2), .val (.int v7), .val (.int v12), .val (.ref b13), .unset, .unset, .unset, .unset, .unset, .unset] [(.int (2 : Int32)), (.int v2)])) _
        refine XS.icmpYes Y19.here hx rfl (pc0 := 67) (pc' := 86) rfl (hb hby at_67) rfl (tlt hj67_21).1 (by decide) (by decide) ?_
        exact k
      exact ⟨n1_19, n2_19, f2_19, (1 : Int32), l2_19, (0 : Int64), g1_19, g2_19, 1, T19, _, _, (own_first c19_13 (own_e0 q0) (own_eu0 q1 q2)), (own_m1_2 (own_n1 hnpq) (own_c2' hj67_21)), Y19.mono (by decide) (by decide), rfl, N19, K19, c19_0, c19_1, c19_2, c19_3, c19_4, c19_5, c19_6, c19_7, c19_8, c19_9, c19_10, c19_11, c19_12, pre22⟩
    · have pre23 : Lead p e below G (T19.setTop (mkF m 79 #[.val (.long q0), .second, .val (.long q1), .second, .val (.long q2), .second, .val (.int p3), .val (.int v2), .val (.int v7), .val (.int v12), .val (.ref b13), .unset, .unset, .unset, .unset, .unset, .unset] [(.long q2), (.long q1), (.int (1 : Int32)), (.long (q0 + (1 : Int64))), (.ref b13)])) := fun t k => by
        refine pre20 t ?_
        show Steps p.tables e below (T19.setTop (mkF m 67 #[.val (.long q0), .second, .val (.long q1), .second, .val (.long q2), .second, .val (.int p3), .val (.int v2), .val (.int v7), .val (.int v12), .val (.ref b13), .unset, .unset, .unset, .unset, .unset, .unset] [(.int (2 : Int32)), (.int v2)])) _
        refine XS.icmpNo Y19.here hx rfl (hb hby at_67) rfl (flt hj67_21).1 ?_
        show Steps p.tables e below (T19.setTop (mkF m 70 #[.val (.long q0), .second, .val (.long q1), .second, .val (.long q2), .second, .val (.int p3), .val (.int v2), .val (.int v7), .val (.int v12), .val (.ref b13), .unset, .unset, .unset, .unset, .unset, .unset] [])) _
        refine XS.aload Y19.here hx rfl (hb hby at_70) rfl rfl ?_
        refine XS.lloadN Y19.here hx rfl (hb hby at_72) rfl ?_
        refine XS.lconst Y19.here hx rfl (hb hby at_73) ?_
        show Steps p.tables e below (T19.setTop (mkF m 74 #[.val (.long q0), .second, .val (.long q1), .second, .val (.long q2), .second, .val (.int p3), .val (.int v2), .val (.int v7), .val (.int v12), .val (.ref b13), .unset, .unset, .unset, .unset, .unset, .unset] [(.long (1 : Int64)), (.long q0), (.ref b13)])) _
        refine XS.ladd Y19.here hx rfl (hb hby at_74) rfl ?_
        refine XS.iconst Y19.here hx rfl (hb hby at_75) ?_
        refine XS.lloadN Y19.here hx rfl (hb hby at_76) rfl ?_
        show Steps p.tables e below (T19.setTop (mkF m 77 #[.val (.long q0), .second, .val (.long q1), .second, .val (.long q2), .second, .val (.int p3), .val (.int v2), .val (.int v7), .val (.int v12), .val (.ref b13), .unset, .unset, .unset, .unset, .unset, .unset] [(.long q1), (.int (1 : Int32)), (.long (q0 + (1 : Int64))), (.ref b13)])) _
        refine XS.lload Y19.here hx rfl (hb hby at_77) rfl ?_
        exact k
      obtain ⟨_, _, ⟨T24, L24, k24, n24⟩, -, X24, ⟨Lc24, hQ24, l24, y24, z24⟩, st24⟩ := Jvm.LawKit.callS Y19 hx (y := (⟨"com/example/lean_throttle/leanthrottle/TimeRingDropOldestPinLaw", "u", "(IJJ)J"⟩ : MethodName)) hown (mvT hZ (hw _ (List.mem_of_getElem? (i := 18) rfl))) (mvT hZ (hw _ (List.mem_of_getElem? (i := 19) rfl))) (mvT hZ (hw _ (List.mem_of_getElem? (i := 20) rfl))) (mvT hZ (hw _ (List.mem_of_getElem? (i := 21) rfl))) (by decide) (backOf (W := 3) (rm4 l Z a0 hw [] (1 : Int32) q1 q2  T19.heap n0 (Nat.le_trans Z0 K19.1) ) hZ (hw _ (List.mem_of_getElem? (i := 21) rfl)) (hw _ (List.mem_of_getElem? (i := 20) rfl)) (by decide) (by decide)) (g := (mkF m 79 #[.val (.long q0), .second, .val (.long q1), .second, .val (.long q2), .second, .val (.int p3), .val (.int v2), .val (.int v7), .val (.int v12), .val (.ref b13), .unset, .unset, .unset, .unset, .unset, .unset] [(.long q2), (.long q1), (.int (1 : Int32)), (.long (q0 + (1 : Int64))), (.ref b13)])) rfl (by rw [hml]; rfl) (argsL := [(.int (1 : Int32)), (.long q1), (.long q2)]) (rest := [(.long (q0 + (1 : Int64))), (.ref b13)]) (lenOf pd__28_IJJ_29_J rfl) rfl (by show 2 * 0 + _ ≤ _; exact Nat.le_of_eq rfl) (hb hby at_79) (fun _ _ => ⟨rfl, rfl, (by decide : 5 + 0 ≤ _), (by decide : 15 + 0 ≤ _)⟩)
      dsimp only [Pt.U, Pt.locs, Pt.cells, Pt.slots] at X24 l24 y24 z24 st24 hQ24
      subst l24 y24 z24
      obtain ⟨rfl, N24q, e24⟩ := hQ24
      have N24 := Fr.app N19 N24q
      obtain ⟨M24, Y24, N24⟩ : ∃ M, Stand p l e room_1 s m #[(.long q0), (.long q1), (.long q2), (.int p3)] below meth c T24 M 5 15 ∧ Fr n0 M := ⟨_, X24, N24⟩
      have pre24 : Lead p e below G (T24.setTop (mkF m 82 #[.val (.long q0), .second, .val (.long q1), .second, .val (.long q2), .second, .val (.int p3), .val (.int v2), .val (.int v7), .val (.int v12), .val (.ref b13), .unset, .unset, .unset, .unset, .unset, .unset] [(.long (F4 (1 : Int32) q1 q2)), (.long (q0 + (1 : Int64))), (.ref b13)])) := fun t k => pre23 t (st24 _ k)
      have pre25 : Lead p e below G (T24.setTop (mkF m 83 #[.val (.long q0), .second, .val (.long q1), .second, .val (.long q2), .second, .val (.int p3), .val (.int v2), .val (.int v7), .val (.int v12), .val (.ref b13), .unset, .unset, .unset, .unset, .unset, .unset] [(.int (4 : Int32)), (.long (F4 (1 : Int32) q1 q2)), (.long (q0 + (1 : Int64))), (.ref b13)])) := fun t k => by
        refine pre24 t ?_
        show Steps p.tables e below (T24.setTop (mkF m 82 #[.val (.long q0), .second, .val (.long q1), .second, .val (.long q2), .second, .val (.int p3), .val (.int v2), .val (.int v7), .val (.int v12), .val (.ref b13), .unset, .unset, .unset, .unset, .unset, .unset] [(.long (F4 (1 : Int32) q1 q2)), (.long (q0 + (1 : Int64))), (.ref b13)])) _
        refine XS.iconst Y24.here hx rfl (hb hby at_82) ?_
        exact k
      obtain ⟨cq26, kq26, q26a, q26b, q26c⟩ := isOf hZ e24 c19_0
      obtain ⟨_, _, ⟨T26, L26, k26, n26⟩, -, X26, ⟨Lc26, hQ26, l26, y26, z26⟩, st26⟩ := Y24.virtualBack hx (y := (⟨"com/example/lean_throttle/leanthrottle/TimeRing", "add", "(JJI)V"⟩ : MethodName)) (z := (⟨"com/example/lean_throttle/leanthrottle/TimeRing", "add", "(JJI)V"⟩ : MethodName)) hown (mvT hZ (hw _ (List.mem_of_getElem? (i := 23) rfl))) (mvT hZ (hw _ (List.mem_of_getElem? (i := 24) rfl))) (notFace_of_selects (args := #[]) (mvT hZ (hw _ (List.mem_of_getElem? (i := 26) rfl)))) (mvT hZ (hw _ (List.mem_of_getElem? (i := 26) rfl))) (mvT hZ (hw _ (List.mem_of_getElem? (i := 25) rfl))) (by decide) (backOf (W := 0) (rm5 l Z a0 hw [] b13 (q0 + (1 : Int64)) (F4 (1 : Int32) q1 q2) n1_19 n2_19 f2_19 (1 : Int32) l2_19 (0 : Int64) g1_19 g2_19 T19.heap n0 (Nat.le_trans Z0 K19.1) c19_0 c19_1 c19_2 c19_3 c19_4 c19_5 c19_6 c19_7 c19_10 c19_11 c19_12 (show 0 ≤ f2_19.toInt ∧ f2_19.toInt < l2_19.toInt from (own_hfi (own_first c19_13 (own_e0 q0) (own_eu0 q1 q2)))) (show 0 ≤ (1 : Int32).toInt ∧ (1 : Int32).toInt ≤ l2_19.toInt from (own_hsz (own_first c19_13 (own_e0 q0) (own_eu0 q1 q2)))) (show l2_19.toInt ≤ 4 from (own_hl4 (own_first c19_13 (own_e0 q0) (own_eu0 q1 q2)))) (show l2_19.toInt = 1 ∨ l2_19.toInt = 2 ∨ l2_19.toInt = 4 from (own_hlen (own_first c19_13 (own_e0 q0) (own_eu0 q1 q2)))) (show (1 : Int32).toInt < 4 from (own_hlt (own_first c19_13 (own_e0 q0) (own_eu0 q1 q2)) (own_len1 (own_n1 hnpq) (by decide)))) ge13 c19_8 c19_9) hZ (hw _ (List.mem_of_getElem? (i := 27) rfl)) (hw _ (List.mem_of_getElem? (i := 6) rfl)) (by decide) (by decide)) q26a q26c (g := (mkF m 83 #[.val (.long q0), .second, .val (.long q1), .second, .val (.long q2), .second, .val (.int p3), .val (.int v2), .val (.int v7), .val (.int v12), .val (.ref b13), .unset, .unset, .unset, .unset, .unset, .unset] [(.int (4 : Int32)), (.long (F4 (1 : Int32) q1 q2)), (.long (q0 + (1 : Int64))), (.ref b13)])) rfl (by rw [hml]; rfl) (Steps.refl _) (argsL := [(.long (q0 + (1 : Int64))), (.long (F4 (1 : Int32) q1 q2)), (.int (4 : Int32))]) (rest := []) (lenOf pd__28_JJI_29_V rfl) rfl (by show 2 * 0 + _ ≤ _; exact Nat.le_of_eq rfl) (hb hby at_83) (fun _ _ => ⟨rfl, e24, (by decide : 5 + 2 ≤ _), (by decide : 15 + 8 ≤ _)⟩)
      dsimp only [Pt.U, Pt.locs, Pt.cells, Pt.slots] at X26 l26 y26 z26 st26 hQ26
      subst l26 y26 z26
      obtain ⟨n1_26, n2_26, f2_26, l2_26, g1_26, g2_26, rfl, N26q, K26c, c26_0, c26_1, c26_2, c26_3, c26_4, c26_5, c26_6, c26_7, c26_8, c26_9, c26_10, c26_11, c26_12, c26_13⟩ := hQ26
      have N26 := Fr.app N24 N26q
      have K26 : h0.size ≤ T26.heap.size ∧ True := ⟨Nat.le_trans K19.1 K26c.1, trivial⟩
      obtain ⟨M26, Y26, N26⟩ : ∃ M, Stand p l e room_1 s m #[(.long q0), (.long q1), (.long q2), (.int p3)] below meth c T26 M 7 23 ∧ Fr n0 M := ⟨_, X26, N26⟩
      have pre26 : Lead p e below G (T26.setTop (mkF m 86 #[.val (.long q0), .second, .val (.long q1), .second, .val (.long q2), .second, .val (.int p3), .val (.int v2), .val (.int v7), .val (.int v12), .val (.ref b13), .unset, .unset, .unset, .unset, .unset, .unset] [])) := fun t k => pre25 t (st26.trans k)
      exact ⟨n1_26, n2_26, f2_26, (2 : Int32), l2_26, (0 : Int64), g1_26, g2_26, (1 + 1), T26, _, _, (own_add (own_first c19_13 (own_e0 q0) (own_eu0 q1 q2)) (own_len1 (own_n1 hnpq) (by decide)) c26_13 (own_tl1 q0 (own_hk_2 (own_n1 hnpq) (own_c2 hj67_21))) (own_ul1 q1 q2 (own_hk_2 (own_n1 hnpq) (own_c2 hj67_21)))), (own_m2_2 (own_n1 hnpq) (own_c2 hj67_21)), Y26.mono (by decide) (by decide), rfl, N26, K26, c26_0, c26_1, c26_2, c26_3, c26_4, c26_5, c26_6, c26_7, c26_8, c26_9, c26_10, c26_11, c26_12, pre26⟩
  have pre27 : Lead p e below G (T21.setTop (mkF m 89 #[.val (.long q0), .second, .val (.long q1), .second, .val (.long q2), .second, .val (.int p3), .val (.int v2), .val (.int v7), .val (.int v12), .val (.ref b13), .unset, .unset, .unset, .unset, .unset, .unset] [(.int (3 : Int32)), (.int v2)])) := fun t k => by
    refine pre21 t ?_
    show Steps p.tables e below (T21.setTop (mkF m 86 #[.val (.long q0), .second, .val (.long q1), .second, .val (.long q2), .second, .val (.int p3), .val (.int v2), .val (.int v7), .val (.int v12), .val (.ref b13), .unset, .unset, .unset, .unset, .unset, .unset] [])) _
    refine XS.iload Y21.here hx rfl (hb hby at_86) rfl ?_
    show Steps p.tables e below (T21.setTop (mkF m 88 #[.val (.long q0), .second, .val (.long q1), .second, .val (.long q2), .second, .val (.int p3), .val (.int v2), .val (.int v7), .val (.int v12), .val (.ref b13), .unset, .unset, .unset, .unset, .unset, .unset] [(.int v2)])) _
    refine XS.iconst Y21.here hx rfl (hb hby at_88) ?_
    exact k
  obtain ⟨ra_28, rA_28, rf_28, rs_28, rl_28, rb_28, r1_28, r2_28, hi_28, T28, M28, h28, q28_0, q28_1, Y28, e28, N28, K28, f28_0, f28_1, f28_2, f28_3, f28_4, f28_5, f28_6, f28_7, w28_0, w28_1, w28_2, w28_3, w28_4, pre28⟩ : ∃ (ra_28 : Addr) (rA_28 : Addr) (rf_28 : Int32) (rs_28 : Int32) (rl_28 : Int32) (rb_28 : Int64) (r1_28 : Nat → Int64) (r2_28 : Nat → Int64) (hi_28 : Nat) (T28 : State) (M28 : List Loc) (h28 : Heap), (RR rf_28 rs_28 rl_28 r1_28 r2_28 rb_28 (ET q0) (EU q1 q2) 0 hi_28) ∧ ((hi_28 : Int) = (if v2.toInt < 3 then v2.toInt else 3)) ∧ Stand p l e room_1 s m #[(.long q0), (.long q1), (.long q2), (.int p3)] below meth c T28 M28 9 31 ∧ T28.heap = h28 ∧ Fr n0 M28 ∧ (h0.size ≤ h28.size ∧ True) ∧ Exa Z h28 b13 "com/example/lean_throttle/leanthrottle/TimeRing" ∧ Fld Z h28 b13 "com/example/lean_throttle/leanthrottle/TimeRing" "times" "[J" (.ref ra_28) ∧ Fld Z h28 b13 "com/example/lean_throttle/leanthrottle/TimeRing" "totals" "[J" (.ref rA_28) ∧ Fld Z h28 b13 "com/example/lean_throttle/leanthrottle/TimeRing" "first" "I" (.int rf_28) ∧ Fld Z h28 b13 "com/example/lean_throttle/leanthrottle/TimeRing" "size" "I" (.int rs_28) ∧ Fld Z h28 b13 "com/example/lean_throttle/leanthrottle/TimeRing" "totalBefore" "J" (.long rb_28) ∧ JV Value.long Z h28 ra_28 .long rl_28 r1_28 ∧ JV Value.long Z h28 rA_28 .long rl_28 r2_28 ∧ n0 ≤ ra_28 ∧ n0 ≤ rA_28 ∧ b13 ≠ ra_28 ∧ b13 ≠ rA_28 ∧ ra_28 ≠ rA_28 ∧ Lead p e below G (T28.setTop (mkF m 110 #[.val (.long q0), .second, .val (.long q1), .second, .val (.long q2), .second, .val (.int p3), .val (.int v2), .val (.int v7), .val (.int v12), .val (.ref b13), .unset, .unset, .unset, .unset, .unset, .unset] [])) := by
    by_cases hj89_28 : v2 < (3 : Int32)
    · have pre29 : Lead p e below G (T21.setTop (mkF m 110 #[.val (.long q0), .second, .val (.long q1), .second, .val (.long q2), .second, .val (.int p3), .val (.int v2), .val (.int v7), .val (.int v12), .val (.ref b13), .unset, .unset, .unset, .unset, .unset, .unset] [])) := fun t k => by
        refine pre27 t ?_
        show Steps p.tables e below (T21.setTop (mkF m 89 #[.val (.long q0), .second, .val (.long q1), .second, .val (.long q2), .second, .val (.int p3), .val (.int v2), .val (.int v7), .val (.int v12), .val (.ref b13), .unset, .unset, .unset, .unset, .unset, .unset] [(.int (3 : Int32)), (.int v2)])) _
        refine XS.icmpYes Y21.here hx rfl (pc0 := 89) (pc' := 110) rfl (hb hby at_89) rfl (tlt hj89_28).1 (by decide) (by decide) ?_
        exact k
      exact ⟨ra_21, rA_21, rf_21, rs_21, rl_21, rb_21, r1_21, r2_21, hi_21, T21, _, _, q21_0, (own_m1_3 q21_1 (own_c3' hj89_28)), Y21.mono (by decide) (by decide), e21, N21, K21, f21_0, f21_1, f21_2, f21_3, f21_4, f21_5, f21_6, f21_7, w21_0, w21_1, w21_2, w21_3, w21_4, pre29⟩
    · have pre30 : Lead p e below G (T21.setTop (mkF m 103 #[.val (.long q0), .second, .val (.long q1), .second, .val (.long q2), .second, .val (.int p3), .val (.int v2), .val (.int v7), .val (.int v12), .val (.ref b13), .unset, .unset, .unset, .unset, .unset, .unset] [(.long q2), (.long q1), (.int (2 : Int32)), (.long (q0 + (2 : Int64))), (.ref b13)])) := fun t k => by
        refine pre27 t ?_
        show Steps p.tables e below (T21.setTop (mkF m 89 #[.val (.long q0), .second, .val (.long q1), .second, .val (.long q2), .second, .val (.int p3), .val (.int v2), .val (.int v7), .val (.int v12), .val (.ref b13), .unset, .unset, .unset, .unset, .unset, .unset] [(.int (3 : Int32)), (.int v2)])) _
        refine XS.icmpNo Y21.here hx rfl (hb hby at_89) rfl (flt hj89_28).1 ?_
        show Steps p.tables e below (T21.setTop (mkF m 92 #[.val (.long q0), .second, .val (.long q1), .second, .val (.long q2), .second, .val (.int p3), .val (.int v2), .val (.int v7), .val (.int v12), .val (.ref b13), .unset, .unset, .unset, .unset, .unset, .unset] [])) _
        refine XS.aload Y21.here hx rfl (hb hby at_92) rfl rfl ?_
        refine XS.lloadN Y21.here hx rfl (hb hby at_94) rfl ?_
        refine Y21.ldc2Long hx hown (mvT hZ (hw _ (List.mem_of_getElem? (i := 50) rfl))) (g := (mkF m 95 #[.val (.long q0), .second, .val (.long q1), .second, .val (.long q2), .second, .val (.int p3), .val (.int v2), .val (.int v7), .val (.int v12), .val (.ref b13), .unset, .unset, .unset, .unset, .unset, .unset] [(.long q0), (.ref b13)])) rfl (hb hby at_95) _ ?_
        show Steps p.tables e below (T21.setTop (mkF m 98 #[.val (.long q0), .second, .val (.long q1), .second, .val (.long q2), .second, .val (.int p3), .val (.int v2), .val (.int v7), .val (.int v12), .val (.ref b13), .unset, .unset, .unset, .unset, .unset, .unset] [(.long (2 : Int64)), (.long q0), (.ref b13)])) _
        refine XS.ladd Y21.here hx rfl (hb hby at_98) rfl ?_
        show Steps p.tables e below (T21.setTop (mkF m 99 #[.val (.long q0), .second, .val (.long q1), .second, .val (.long q2), .second, .val (.int p3), .val (.int v2), .val (.int v7), .val (.int v12), .val (.ref b13), .unset, .unset, .unset, .unset, .unset, .unset] [(.long (q0 + (2 : Int64))), (.ref b13)])) _
        refine XS.iconst Y21.here hx rfl (hb hby at_99) ?_
        refine XS.lloadN Y21.here hx rfl (hb hby at_100) rfl ?_
        refine XS.lload Y21.here hx rfl (hb hby at_101) rfl ?_
        show Steps p.tables e below (T21.setTop (mkF m 103 #[.val (.long q0), .second, .val (.long q1), .second, .val (.long q2), .second, .val (.int p3), .val (.int v2), .val (.int v7), .val (.int v12), .val (.ref b13), .unset, .unset, .unset, .unset, .unset, .unset] [(.long q2), (.long q1), (.int (2 : Int32)), (.long (q0 + (2 : Int64))), (.ref b13)])) _
        exact k
      obtain ⟨_, _, ⟨T31, L31, k31, n31⟩, -, X31, ⟨Lc31, hQ31, l31, y31, z31⟩, st31⟩ := Jvm.LawKit.callS Y21 hx (y := (⟨"com/example/lean_throttle/leanthrottle/TimeRingDropOldestPinLaw", "u", "(IJJ)J"⟩ : MethodName)) hown (mvT hZ (hw _ (List.mem_of_getElem? (i := 18) rfl))) (mvT hZ (hw _ (List.mem_of_getElem? (i := 19) rfl))) (mvT hZ (hw _ (List.mem_of_getElem? (i := 20) rfl))) (mvT hZ (hw _ (List.mem_of_getElem? (i := 21) rfl))) (by decide) (backOf (W := 3) (rm4 l Z a0 hw [] (2 : Int32) q1 q2  h21 n0 (Nat.le_trans Z0 K21.1) ) hZ (hw _ (List.mem_of_getElem? (i := 21) rfl)) (hw _ (List.mem_of_getElem? (i := 20) rfl)) (by decide) (by decide)) (g := (mkF m 103 #[.val (.long q0), .second, .val (.long q1), .second, .val (.long q2), .second, .val (.int p3), .val (.int v2), .val (.int v7), .val (.int v12), .val (.ref b13), .unset, .unset, .unset, .unset, .unset, .unset] [(.long q2), (.long q1), (.int (2 : Int32)), (.long (q0 + (2 : Int64))), (.ref b13)])) rfl (by rw [hml]; rfl) (argsL := [(.int (2 : Int32)), (.long q1), (.long q2)]) (rest := [(.long (q0 + (2 : Int64))), (.ref b13)]) (lenOf pd__28_IJJ_29_J rfl) rfl (by show 2 * 0 + _ ≤ _; exact Nat.le_of_eq rfl) (hb hby at_103) (fun _ _ => ⟨rfl, e21, (by decide : 7 + 0 ≤ _), (by decide : 23 + 0 ≤ _)⟩)
      dsimp only [Pt.U, Pt.locs, Pt.cells, Pt.slots] at X31 l31 y31 z31 st31 hQ31
      subst l31 y31 z31
      obtain ⟨rfl, N31q, e31⟩ := hQ31
      have N31 := Fr.app N21 N31q
      obtain ⟨M31, Y31, N31⟩ : ∃ M, Stand p l e room_1 s m #[(.long q0), (.long q1), (.long q2), (.int p3)] below meth c T31 M 7 23 ∧ Fr n0 M := ⟨_, X31, N31⟩
      have pre31 : Lead p e below G (T31.setTop (mkF m 106 #[.val (.long q0), .second, .val (.long q1), .second, .val (.long q2), .second, .val (.int p3), .val (.int v2), .val (.int v7), .val (.int v12), .val (.ref b13), .unset, .unset, .unset, .unset, .unset, .unset] [(.long (F4 (2 : Int32) q1 q2)), (.long (q0 + (2 : Int64))), (.ref b13)])) := fun t k => pre30 t (st31 _ k)
      have pre32 : Lead p e below G (T31.setTop (mkF m 107 #[.val (.long q0), .second, .val (.long q1), .second, .val (.long q2), .second, .val (.int p3), .val (.int v2), .val (.int v7), .val (.int v12), .val (.ref b13), .unset, .unset, .unset, .unset, .unset, .unset] [(.int (4 : Int32)), (.long (F4 (2 : Int32) q1 q2)), (.long (q0 + (2 : Int64))), (.ref b13)])) := fun t k => by
        refine pre31 t ?_
        show Steps p.tables e below (T31.setTop (mkF m 106 #[.val (.long q0), .second, .val (.long q1), .second, .val (.long q2), .second, .val (.int p3), .val (.int v2), .val (.int v7), .val (.int v12), .val (.ref b13), .unset, .unset, .unset, .unset, .unset, .unset] [(.long (F4 (2 : Int32) q1 q2)), (.long (q0 + (2 : Int64))), (.ref b13)])) _
        refine XS.iconst Y31.here hx rfl (hb hby at_106) ?_
        exact k
      obtain ⟨cq33, kq33, q33a, q33b, q33c⟩ := isOf hZ e31 f21_0
      obtain ⟨_, _, ⟨T33, L33, k33, n33⟩, -, X33, ⟨Lc33, hQ33, l33, y33, z33⟩, st33⟩ := Y31.virtualBack hx (y := (⟨"com/example/lean_throttle/leanthrottle/TimeRing", "add", "(JJI)V"⟩ : MethodName)) (z := (⟨"com/example/lean_throttle/leanthrottle/TimeRing", "add", "(JJI)V"⟩ : MethodName)) hown (mvT hZ (hw _ (List.mem_of_getElem? (i := 23) rfl))) (mvT hZ (hw _ (List.mem_of_getElem? (i := 24) rfl))) (notFace_of_selects (args := #[]) (mvT hZ (hw _ (List.mem_of_getElem? (i := 26) rfl)))) (mvT hZ (hw _ (List.mem_of_getElem? (i := 26) rfl))) (mvT hZ (hw _ (List.mem_of_getElem? (i := 25) rfl))) (by decide) (backOf (W := 0) (rm5 l Z a0 hw [] b13 (q0 + (2 : Int64)) (F4 (2 : Int32) q1 q2) ra_21 rA_21 rf_21 rs_21 rl_21 rb_21 r1_21 r2_21 h21 n0 (Nat.le_trans Z0 K21.1) f21_0 f21_1 f21_2 f21_3 f21_4 f21_5 f21_6 f21_7 w21_2 w21_3 w21_4 (show 0 ≤ rf_21.toInt ∧ rf_21.toInt < rl_21.toInt from (own_hfi q21_0)) (show 0 ≤ rs_21.toInt ∧ rs_21.toInt ≤ rl_21.toInt from (own_hsz q21_0)) (show rl_21.toInt ≤ 4 from (own_hl4 q21_0)) (show rl_21.toInt = 1 ∨ rl_21.toInt = 2 ∨ rl_21.toInt = 4 from (own_hlen q21_0)) (show rs_21.toInt < 4 from (own_hlt q21_0 (own_len1 q21_1 (by decide)))) ge13 w21_0 w21_1) hZ (hw _ (List.mem_of_getElem? (i := 27) rfl)) (hw _ (List.mem_of_getElem? (i := 6) rfl)) (by decide) (by decide)) q33a q33c (g := (mkF m 107 #[.val (.long q0), .second, .val (.long q1), .second, .val (.long q2), .second, .val (.int p3), .val (.int v2), .val (.int v7), .val (.int v12), .val (.ref b13), .unset, .unset, .unset, .unset, .unset, .unset] [(.int (4 : Int32)), (.long (F4 (2 : Int32) q1 q2)), (.long (q0 + (2 : Int64))), (.ref b13)])) rfl (by rw [hml]; rfl) (Steps.refl _) (argsL := [(.long (q0 + (2 : Int64))), (.long (F4 (2 : Int32) q1 q2)), (.int (4 : Int32))]) (rest := []) (lenOf pd__28_JJI_29_V rfl) rfl (by show 2 * 0 + _ ≤ _; exact Nat.le_of_eq rfl) (hb hby at_107) (fun _ _ => ⟨rfl, e31, (by decide : 7 + 2 ≤ _), (by decide : 23 + 8 ≤ _)⟩)
      dsimp only [Pt.U, Pt.locs, Pt.cells, Pt.slots] at X33 l33 y33 z33 st33 hQ33
      subst l33 y33 z33
      obtain ⟨n1_33, n2_33, f2_33, l2_33, g1_33, g2_33, rfl, N33q, K33c, c33_0, c33_1, c33_2, c33_3, c33_4, c33_5, c33_6, c33_7, c33_8, c33_9, c33_10, c33_11, c33_12, c33_13⟩ := hQ33
      have N33 := Fr.app N31 N33q
      have K33 : h0.size ≤ T33.heap.size ∧ True := ⟨Nat.le_trans K21.1 K33c.1, trivial⟩
      obtain ⟨M33, Y33, N33⟩ : ∃ M, Stand p l e room_1 s m #[(.long q0), (.long q1), (.long q2), (.int p3)] below meth c T33 M 9 31 ∧ Fr n0 M := ⟨_, X33, N33⟩
      have pre33 : Lead p e below G (T33.setTop (mkF m 110 #[.val (.long q0), .second, .val (.long q1), .second, .val (.long q2), .second, .val (.int p3), .val (.int v2), .val (.int v7), .val (.int v12), .val (.ref b13), .unset, .unset, .unset, .unset, .unset, .unset] [])) := fun t k => pre32 t (st33.trans k)
      exact ⟨n1_33, n2_33, f2_33, (rs_21 + (1 : Int32)), l2_33, rb_21, g1_33, g2_33, (hi_21 + 1), T33, _, _, (own_add q21_0 (own_len1 q21_1 (by decide)) c33_13 (own_tl2 q0 (own_hk_3 q21_1 (own_c3 hj89_28))) (own_ul2 q1 q2 (own_hk_3 q21_1 (own_c3 hj89_28)))), (own_m2_3 q21_1 (own_c3 hj89_28)), Y33.mono (by decide) (by decide), rfl, N33, K33, c33_0, c33_1, c33_2, c33_3, c33_4, c33_5, c33_6, c33_7, c33_8, c33_9, c33_10, c33_11, c33_12, pre33⟩
  have pre34 : Lead p e below G (T28.setTop (mkF m 113 #[.val (.long q0), .second, .val (.long q1), .second, .val (.long q2), .second, .val (.int p3), .val (.int v2), .val (.int v7), .val (.int v12), .val (.ref b13), .unset, .unset, .unset, .unset, .unset, .unset] [(.int (4 : Int32)), (.int v2)])) := fun t k => by
    refine pre28 t ?_
    show Steps p.tables e below (T28.setTop (mkF m 110 #[.val (.long q0), .second, .val (.long q1), .second, .val (.long q2), .second, .val (.int p3), .val (.int v2), .val (.int v7), .val (.int v12), .val (.ref b13), .unset, .unset, .unset, .unset, .unset, .unset] [])) _
    refine XS.iload Y28.here hx rfl (hb hby at_110) rfl ?_
    refine XS.iconst Y28.here hx rfl (hb hby at_112) ?_
    show Steps p.tables e below (T28.setTop (mkF m 113 #[.val (.long q0), .second, .val (.long q1), .second, .val (.long q2), .second, .val (.int p3), .val (.int v2), .val (.int v7), .val (.int v12), .val (.ref b13), .unset, .unset, .unset, .unset, .unset, .unset] [(.int (4 : Int32)), (.int v2)])) _
    exact k
  obtain ⟨ra_35, rA_35, rf_35, rs_35, rl_35, rb_35, r1_35, r2_35, hi_35, T35, M35, h35, q35_0, q35_1, Y35, e35, N35, K35, f35_0, f35_1, f35_2, f35_3, f35_4, f35_5, f35_6, f35_7, w35_0, w35_1, w35_2, w35_3, w35_4, pre35⟩ : ∃ (ra_35 : Addr) (rA_35 : Addr) (rf_35 : Int32) (rs_35 : Int32) (rl_35 : Int32) (rb_35 : Int64) (r1_35 : Nat → Int64) (r2_35 : Nat → Int64) (hi_35 : Nat) (T35 : State) (M35 : List Loc) (h35 : Heap), (RR rf_35 rs_35 rl_35 r1_35 r2_35 rb_35 (ET q0) (EU q1 q2) 0 hi_35) ∧ ((hi_35 : Int) = (if v2.toInt < 4 then v2.toInt else 4)) ∧ Stand p l e room_1 s m #[(.long q0), (.long q1), (.long q2), (.int p3)] below meth c T35 M35 11 39 ∧ T35.heap = h35 ∧ Fr n0 M35 ∧ (h0.size ≤ h35.size ∧ True) ∧ Exa Z h35 b13 "com/example/lean_throttle/leanthrottle/TimeRing" ∧ Fld Z h35 b13 "com/example/lean_throttle/leanthrottle/TimeRing" "times" "[J" (.ref ra_35) ∧ Fld Z h35 b13 "com/example/lean_throttle/leanthrottle/TimeRing" "totals" "[J" (.ref rA_35) ∧ Fld Z h35 b13 "com/example/lean_throttle/leanthrottle/TimeRing" "first" "I" (.int rf_35) ∧ Fld Z h35 b13 "com/example/lean_throttle/leanthrottle/TimeRing" "size" "I" (.int rs_35) ∧ Fld Z h35 b13 "com/example/lean_throttle/leanthrottle/TimeRing" "totalBefore" "J" (.long rb_35) ∧ JV Value.long Z h35 ra_35 .long rl_35 r1_35 ∧ JV Value.long Z h35 rA_35 .long rl_35 r2_35 ∧ n0 ≤ ra_35 ∧ n0 ≤ rA_35 ∧ b13 ≠ ra_35 ∧ b13 ≠ rA_35 ∧ ra_35 ≠ rA_35 ∧ Lead p e below G (T35.setTop (mkF m 134 #[.val (.long q0), .second, .val (.long q1), .second, .val (.long q2), .second, .val (.int p3), .val (.int v2), .val (.int v7), .val (.int v12), .val (.ref b13), .unset, .unset, .unset, .unset, .unset, .unset] [])) := by
    by_cases hj113_35 : v2 < (4 : Int32)
    · have pre36 : Lead p e below G (T28.setTop (mkF m 134 #[.val (.long q0), .second, .val (.long q1), .second, .val (.long q2), .second, .val (.int p3), .val (.int v2), .val (.int v7), .val (.int v12), .val (.ref b13), .unset, .unset, .unset, .unset, .unset, .unset] [])) := fun t k => by
        refine pre34 t ?_
        show Steps p.tables e below (T28.setTop (mkF m 113 #[.val (.long q0), .second, .val (.long q1), .second, .val (.long q2), .second, .val (.int p3), .val (.int v2), .val (.int v7), .val (.int v12), .val (.ref b13), .unset, .unset, .unset, .unset, .unset, .unset] [(.int (4 : Int32)), (.int v2)])) _
        refine XS.icmpYes Y28.here hx rfl (pc0 := 113) (pc' := 134) rfl (hb hby at_113) rfl (tlt hj113_35).1 (by decide) (by decide) ?_
        exact k
      exact ⟨ra_28, rA_28, rf_28, rs_28, rl_28, rb_28, r1_28, r2_28, hi_28, T28, _, _, q28_0, (own_m1_4 q28_1 (own_c4' hj113_35)), Y28.mono (by decide) (by decide), e28, N28, K28, f28_0, f28_1, f28_2, f28_3, f28_4, f28_5, f28_6, f28_7, w28_0, w28_1, w28_2, w28_3, w28_4, pre36⟩
    · have pre37 : Lead p e below G (T28.setTop (mkF m 127 #[.val (.long q0), .second, .val (.long q1), .second, .val (.long q2), .second, .val (.int p3), .val (.int v2), .val (.int v7), .val (.int v12), .val (.ref b13), .unset, .unset, .unset, .unset, .unset, .unset] [(.long q2), (.long q1), (.int (3 : Int32)), (.long (q0 + (3 : Int64))), (.ref b13)])) := fun t k => by
        refine pre34 t ?_
        show Steps p.tables e below (T28.setTop (mkF m 113 #[.val (.long q0), .second, .val (.long q1), .second, .val (.long q2), .second, .val (.int p3), .val (.int v2), .val (.int v7), .val (.int v12), .val (.ref b13), .unset, .unset, .unset, .unset, .unset, .unset] [(.int (4 : Int32)), (.int v2)])) _
        refine XS.icmpNo Y28.here hx rfl (hb hby at_113) rfl (flt hj113_35).1 ?_
        refine XS.aload Y28.here hx rfl (hb hby at_116) rfl rfl ?_
        show Steps p.tables e below (T28.setTop (mkF m 118 #[.val (.long q0), .second, .val (.long q1), .second, .val (.long q2), .second, .val (.int p3), .val (.int v2), .val (.int v7), .val (.int v12), .val (.ref b13), .unset, .unset, .unset, .unset, .unset, .unset] [(.ref b13)])) _
        refine XS.lloadN Y28.here hx rfl (hb hby at_118) rfl ?_
        refine Y28.ldc2Long hx hown (mvT hZ (hw _ (List.mem_of_getElem? (i := 84) rfl))) (g := (mkF m 119 #[.val (.long q0), .second, .val (.long q1), .second, .val (.long q2), .second, .val (.int p3), .val (.int v2), .val (.int v7), .val (.int v12), .val (.ref b13), .unset, .unset, .unset, .unset, .unset, .unset] [(.long q0), (.ref b13)])) rfl (hb hby at_119) _ ?_
        show Steps p.tables e below (T28.setTop (mkF m 122 #[.val (.long q0), .second, .val (.long q1), .second, .val (.long q2), .second, .val (.int p3), .val (.int v2), .val (.int v7), .val (.int v12), .val (.ref b13), .unset, .unset, .unset, .unset, .unset, .unset] [(.long (3 : Int64)), (.long q0), (.ref b13)])) _
        refine XS.ladd Y28.here hx rfl (hb hby at_122) rfl ?_
        refine XS.iconst Y28.here hx rfl (hb hby at_123) ?_
        show Steps p.tables e below (T28.setTop (mkF m 124 #[.val (.long q0), .second, .val (.long q1), .second, .val (.long q2), .second, .val (.int p3), .val (.int v2), .val (.int v7), .val (.int v12), .val (.ref b13), .unset, .unset, .unset, .unset, .unset, .unset] [(.int (3 : Int32)), (.long (q0 + (3 : Int64))), (.ref b13)])) _
        refine XS.lloadN Y28.here hx rfl (hb hby at_124) rfl ?_
        refine XS.lload Y28.here hx rfl (hb hby at_125) rfl ?_
        exact k
      obtain ⟨_, _, ⟨T38, L38, k38, n38⟩, -, X38, ⟨Lc38, hQ38, l38, y38, z38⟩, st38⟩ := Jvm.LawKit.callS Y28 hx (y := (⟨"com/example/lean_throttle/leanthrottle/TimeRingDropOldestPinLaw", "u", "(IJJ)J"⟩ : MethodName)) hown (mvT hZ (hw _ (List.mem_of_getElem? (i := 18) rfl))) (mvT hZ (hw _ (List.mem_of_getElem? (i := 19) rfl))) (mvT hZ (hw _ (List.mem_of_getElem? (i := 20) rfl))) (mvT hZ (hw _ (List.mem_of_getElem? (i := 21) rfl))) (by decide) (backOf (W := 3) (rm4 l Z a0 hw [] (3 : Int32) q1 q2  h28 n0 (Nat.le_trans Z0 K28.1) ) hZ (hw _ (List.mem_of_getElem? (i := 21) rfl)) (hw _ (List.mem_of_getElem? (i := 20) rfl)) (by decide) (by decide)) (g := (mkF m 127 #[.val (.long q0), .second, .val (.long q1), .second, .val (.long q2), .second, .val (.int p3), .val (.int v2), .val (.int v7), .val (.int v12), .val (.ref b13), .unset, .unset, .unset, .unset, .unset, .unset] [(.long q2), (.long q1), (.int (3 : Int32)), (.long (q0 + (3 : Int64))), (.ref b13)])) rfl (by rw [hml]; rfl) (argsL := [(.int (3 : Int32)), (.long q1), (.long q2)]) (rest := [(.long (q0 + (3 : Int64))), (.ref b13)]) (lenOf pd__28_IJJ_29_J rfl) rfl (by show 2 * 0 + _ ≤ _; exact Nat.le_of_eq rfl) (hb hby at_127) (fun _ _ => ⟨rfl, e28, (by decide : 9 + 0 ≤ _), (by decide : 31 + 0 ≤ _)⟩)
      dsimp only [Pt.U, Pt.locs, Pt.cells, Pt.slots] at X38 l38 y38 z38 st38 hQ38
      subst l38 y38 z38
      obtain ⟨rfl, N38q, e38⟩ := hQ38
      have N38 := Fr.app N28 N38q
      obtain ⟨M38, Y38, N38⟩ : ∃ M, Stand p l e room_1 s m #[(.long q0), (.long q1), (.long q2), (.int p3)] below meth c T38 M 9 31 ∧ Fr n0 M := ⟨_, X38, N38⟩
      have pre38 : Lead p e below G (T38.setTop (mkF m 130 #[.val (.long q0), .second, .val (.long q1), .second, .val (.long q2), .second, .val (.int p3), .val (.int v2), .val (.int v7), .val (.int v12), .val (.ref b13), .unset, .unset, .unset, .unset, .unset, .unset] [(.long (F4 (3 : Int32) q1 q2)), (.long (q0 + (3 : Int64))), (.ref b13)])) := fun t k => pre37 t (st38 _ k)
      have pre39 : Lead p e below G (T38.setTop (mkF m 131 #[.val (.long q0), .second, .val (.long q1), .second, .val (.long q2), .second, .val (.int p3), .val (.int v2), .val (.int v7), .val (.int v12), .val (.ref b13), .unset, .unset, .unset, .unset, .unset, .unset] [(.int (4 : Int32)), (.long (F4 (3 : Int32) q1 q2)), (.long (q0 + (3 : Int64))), (.ref b13)])) := fun t k => by
        refine pre38 t ?_
        show Steps p.tables e below (T38.setTop (mkF m 130 #[.val (.long q0), .second, .val (.long q1), .second, .val (.long q2), .second, .val (.int p3), .val (.int v2), .val (.int v7), .val (.int v12), .val (.ref b13), .unset, .unset, .unset, .unset, .unset, .unset] [(.long (F4 (3 : Int32) q1 q2)), (.long (q0 + (3 : Int64))), (.ref b13)])) _
        refine XS.iconst Y38.here hx rfl (hb hby at_130) ?_
        show Steps p.tables e below (T38.setTop (mkF m 131 #[.val (.long q0), .second, .val (.long q1), .second, .val (.long q2), .second, .val (.int p3), .val (.int v2), .val (.int v7), .val (.int v12), .val (.ref b13), .unset, .unset, .unset, .unset, .unset, .unset] [(.int (4 : Int32)), (.long (F4 (3 : Int32) q1 q2)), (.long (q0 + (3 : Int64))), (.ref b13)])) _
        exact k
      obtain ⟨cq40, kq40, q40a, q40b, q40c⟩ := isOf hZ e38 f28_0
      obtain ⟨_, _, ⟨T40, L40, k40, n40⟩, -, X40, ⟨Lc40, hQ40, l40, y40, z40⟩, st40⟩ := Y38.virtualBack hx (y := (⟨"com/example/lean_throttle/leanthrottle/TimeRing", "add", "(JJI)V"⟩ : MethodName)) (z := (⟨"com/example/lean_throttle/leanthrottle/TimeRing", "add", "(JJI)V"⟩ : MethodName)) hown (mvT hZ (hw _ (List.mem_of_getElem? (i := 23) rfl))) (mvT hZ (hw _ (List.mem_of_getElem? (i := 24) rfl))) (notFace_of_selects (args := #[]) (mvT hZ (hw _ (List.mem_of_getElem? (i := 26) rfl)))) (mvT hZ (hw _ (List.mem_of_getElem? (i := 26) rfl))) (mvT hZ (hw _ (List.mem_of_getElem? (i := 25) rfl))) (by decide) (backOf (W := 0) (rm5 l Z a0 hw [] b13 (q0 + (3 : Int64)) (F4 (3 : Int32) q1 q2) ra_28 rA_28 rf_28 rs_28 rl_28 rb_28 r1_28 r2_28 h28 n0 (Nat.le_trans Z0 K28.1) f28_0 f28_1 f28_2 f28_3 f28_4 f28_5 f28_6 f28_7 w28_2 w28_3 w28_4 (show 0 ≤ rf_28.toInt ∧ rf_28.toInt < rl_28.toInt from (own_hfi q28_0)) (show 0 ≤ rs_28.toInt ∧ rs_28.toInt ≤ rl_28.toInt from (own_hsz q28_0)) (show rl_28.toInt ≤ 4 from (own_hl4 q28_0)) (show rl_28.toInt = 1 ∨ rl_28.toInt = 2 ∨ rl_28.toInt = 4 from (own_hlen q28_0)) (show rs_28.toInt < 4 from (own_hlt q28_0 (own_len1 q28_1 (by decide)))) ge13 w28_0 w28_1) hZ (hw _ (List.mem_of_getElem? (i := 27) rfl)) (hw _ (List.mem_of_getElem? (i := 6) rfl)) (by decide) (by decide)) q40a q40c (g := (mkF m 131 #[.val (.long q0), .second, .val (.long q1), .second, .val (.long q2), .second, .val (.int p3), .val (.int v2), .val (.int v7), .val (.int v12), .val (.ref b13), .unset, .unset, .unset, .unset, .unset, .unset] [(.int (4 : Int32)), (.long (F4 (3 : Int32) q1 q2)), (.long (q0 + (3 : Int64))), (.ref b13)])) rfl (by rw [hml]; rfl) (Steps.refl _) (argsL := [(.long (q0 + (3 : Int64))), (.long (F4 (3 : Int32) q1 q2)), (.int (4 : Int32))]) (rest := []) (lenOf pd__28_JJI_29_V rfl) rfl (by show 2 * 0 + _ ≤ _; exact Nat.le_of_eq rfl) (hb hby at_131) (fun _ _ => ⟨rfl, e38, (by decide : 9 + 2 ≤ _), (by decide : 31 + 8 ≤ _)⟩)
      dsimp only [Pt.U, Pt.locs, Pt.cells, Pt.slots] at X40 l40 y40 z40 st40 hQ40
      subst l40 y40 z40
      obtain ⟨n1_40, n2_40, f2_40, l2_40, g1_40, g2_40, rfl, N40q, K40c, c40_0, c40_1, c40_2, c40_3, c40_4, c40_5, c40_6, c40_7, c40_8, c40_9, c40_10, c40_11, c40_12, c40_13⟩ := hQ40
      have N40 := Fr.app N38 N40q
      have K40 : h0.size ≤ T40.heap.size ∧ True := ⟨Nat.le_trans K28.1 K40c.1, trivial⟩
      obtain ⟨M40, Y40, N40⟩ : ∃ M, Stand p l e room_1 s m #[(.long q0), (.long q1), (.long q2), (.int p3)] below meth c T40 M 11 39 ∧ Fr n0 M := ⟨_, X40, N40⟩
      have pre40 : Lead p e below G (T40.setTop (mkF m 134 #[.val (.long q0), .second, .val (.long q1), .second, .val (.long q2), .second, .val (.int p3), .val (.int v2), .val (.int v7), .val (.int v12), .val (.ref b13), .unset, .unset, .unset, .unset, .unset, .unset] [])) := fun t k => pre39 t (st40.trans k)
      exact ⟨n1_40, n2_40, f2_40, (rs_28 + (1 : Int32)), l2_40, rb_28, g1_40, g2_40, (hi_28 + 1), T40, _, _, (own_add q28_0 (own_len1 q28_1 (by decide)) c40_13 (own_tl3 q0 (own_hk_4 q28_1 (own_c4 hj113_35))) (own_ul3 q1 q2 (own_hk_4 q28_1 (own_c4 hj113_35)))), (own_m2_4 q28_1 (own_c4 hj113_35)), Y40.mono (by decide) (by decide), rfl, N40, K40, c40_0, c40_1, c40_2, c40_3, c40_4, c40_5, c40_6, c40_7, c40_8, c40_9, c40_10, c40_11, c40_12, pre40⟩
  have pre41 : Lead p e below G (T35.setTop (mkF m 137 #[.val (.long q0), .second, .val (.long q1), .second, .val (.long q2), .second, .val (.int p3), .val (.int v2), .val (.int v7), .val (.int v12), .val (.ref b13), .unset, .unset, .unset, .unset, .unset, .unset] [(.int (1 : Int32)), (.int v7)])) := fun t k => by
    refine pre35 t ?_
    show Steps p.tables e below (T35.setTop (mkF m 134 #[.val (.long q0), .second, .val (.long q1), .second, .val (.long q2), .second, .val (.int p3), .val (.int v2), .val (.int v7), .val (.int v12), .val (.ref b13), .unset, .unset, .unset, .unset, .unset, .unset] [])) _
    refine XS.iload Y35.here hx rfl (hb hby at_134) rfl ?_
    refine XS.iconst Y35.here hx rfl (hb hby at_136) ?_
    exact k
  obtain ⟨ra_42, rA_42, rf_42, rs_42, rl_42, rb_42, r1_42, r2_42, lo_42, T42, M42, h42, q42_0, q42_1, Y42, e42, N42, K42, f42_0, f42_1, f42_2, f42_3, f42_4, f42_5, f42_6, f42_7, w42_0, w42_1, w42_2, w42_3, w42_4, pre42⟩ : ∃ (ra_42 : Addr) (rA_42 : Addr) (rf_42 : Int32) (rs_42 : Int32) (rl_42 : Int32) (rb_42 : Int64) (r1_42 : Nat → Int64) (r2_42 : Nat → Int64) (lo_42 : Nat) (T42 : State) (M42 : List Loc) (h42 : Heap), (RR rf_42 rs_42 rl_42 r1_42 r2_42 rb_42 (ET q0) (EU q1 q2) lo_42 hi_35) ∧ ((lo_42 : Int) = (if v7.toInt < 1 then v7.toInt else 1)) ∧ Stand p l e room_1 s m #[(.long q0), (.long q1), (.long q2), (.int p3)] below meth c T42 M42 11 39 ∧ T42.heap = h42 ∧ Fr n0 M42 ∧ (h0.size ≤ h42.size ∧ True) ∧ Exa Z h42 b13 "com/example/lean_throttle/leanthrottle/TimeRing" ∧ Fld Z h42 b13 "com/example/lean_throttle/leanthrottle/TimeRing" "times" "[J" (.ref ra_42) ∧ Fld Z h42 b13 "com/example/lean_throttle/leanthrottle/TimeRing" "totals" "[J" (.ref rA_42) ∧ Fld Z h42 b13 "com/example/lean_throttle/leanthrottle/TimeRing" "first" "I" (.int rf_42) ∧ Fld Z h42 b13 "com/example/lean_throttle/leanthrottle/TimeRing" "size" "I" (.int rs_42) ∧ Fld Z h42 b13 "com/example/lean_throttle/leanthrottle/TimeRing" "totalBefore" "J" (.long rb_42) ∧ JV Value.long Z h42 ra_42 .long rl_42 r1_42 ∧ JV Value.long Z h42 rA_42 .long rl_42 r2_42 ∧ n0 ≤ ra_42 ∧ n0 ≤ rA_42 ∧ b13 ≠ ra_42 ∧ b13 ≠ rA_42 ∧ ra_42 ≠ rA_42 ∧ Lead p e below G (T42.setTop (mkF m 145 #[.val (.long q0), .second, .val (.long q1), .second, .val (.long q2), .second, .val (.int p3), .val (.int v2), .val (.int v7), .val (.int v12), .val (.ref b13), .unset, .unset, .unset, .unset, .unset, .unset] [])) := by
    by_cases hj137_42 : v7 < (1 : Int32)
    · have pre43 : Lead p e below G (T35.setTop (mkF m 145 #[.val (.long q0), .second, .val (.long q1), .second, .val (.long q2), .second, .val (.int p3), .val (.int v2), .val (.int v7), .val (.int v12), .val (.ref b13), .unset, .unset, .unset, .unset, .unset, .unset] [])) := fun t k => by
        refine pre41 t ?_
        show Steps p.tables e below (T35.setTop (mkF m 137 #[.val (.long q0), .second, .val (.long q1), .second, .val (.long q2), .second, .val (.int p3), .val (.int v2), .val (.int v7), .val (.int v12), .val (.ref b13), .unset, .unset, .unset, .unset, .unset, .unset] [(.int (1 : Int32)), (.int v7)])) _
        refine XS.icmpYes Y35.here hx rfl (pc0 := 137) (pc' := 145) rfl (hb hby at_137) rfl (tlt hj137_42).1 (by decide) (by decide) ?_
        show Steps p.tables e below (T35.setTop (mkF m 145 #[.val (.long q0), .second, .val (.long q1), .second, .val (.long q2), .second, .val (.int p3), .val (.int v2), .val (.int v7), .val (.int v12), .val (.ref b13), .unset, .unset, .unset, .unset, .unset, .unset] [])) _
        exact k
      exact ⟨ra_35, rA_35, rf_35, rs_35, rl_35, rb_35, r1_35, r2_35, 0, T35, _, _, q35_0, (own_m1_1 (own_p1 hnpq) (own_c1' hj137_42)), Y35.mono (by decide) (by decide), e35, N35, K35, f35_0, f35_1, f35_2, f35_3, f35_4, f35_5, f35_6, f35_7, w35_0, w35_1, w35_2, w35_3, w35_4, pre43⟩
    · have pre44 : Lead p e below G (T35.setTop (mkF m 142 #[.val (.long q0), .second, .val (.long q1), .second, .val (.long q2), .second, .val (.int p3), .val (.int v2), .val (.int v7), .val (.int v12), .val (.ref b13), .unset, .unset, .unset, .unset, .unset, .unset] [(.ref b13)])) := fun t k => by
        refine pre41 t ?_
        show Steps p.tables e below (T35.setTop (mkF m 137 #[.val (.long q0), .second, .val (.long q1), .second, .val (.long q2), .second, .val (.int p3), .val (.int v2), .val (.int v7), .val (.int v12), .val (.ref b13), .unset, .unset, .unset, .unset, .unset, .unset] [(.int (1 : Int32)), (.int v7)])) _
        refine XS.icmpNo Y35.here hx rfl (hb hby at_137) rfl (flt hj137_42).1 ?_
        refine XS.aload Y35.here hx rfl (hb hby at_140) rfl rfl ?_
        exact k
      obtain ⟨cq45, kq45, q45a, q45b, q45c⟩ := isOf hZ e35 f35_0
      obtain ⟨_, _, ⟨T45, L45, k45, n45⟩, -, X45, ⟨Lc45, hQ45, l45, y45, z45⟩, st45⟩ := Y35.virtualBack hx (y := (⟨"com/example/lean_throttle/leanthrottle/TimeRing", "dropOldest", "()V"⟩ : MethodName)) (z := (⟨"com/example/lean_throttle/leanthrottle/TimeRing", "dropOldest", "()V"⟩ : MethodName)) hown (mvT hZ (hw _ (List.mem_of_getElem? (i := 51) rfl))) (mvT hZ (hw _ (List.mem_of_getElem? (i := 52) rfl))) (notFace_of_selects (args := #[]) (mvT hZ (hw _ (List.mem_of_getElem? (i := 54) rfl)))) (mvT hZ (hw _ (List.mem_of_getElem? (i := 54) rfl))) (mvT hZ (hw _ (List.mem_of_getElem? (i := 53) rfl))) (by decide) (backOf (W := 0) (rm10 l Z a0 hw [] b13 ra_35 rA_35 rf_35 rs_35 rl_35 rb_35 r1_35 r2_35 h35 n0 (Nat.le_trans Z0 K35.1) f35_0 f35_1 f35_2 f35_3 f35_4 f35_5 f35_6 f35_7 w35_2 w35_3 w35_4 (show 0 ≤ rf_35.toInt ∧ rf_35.toInt < rl_35.toInt from (own_hfi q35_0)) ge13) hZ (hw _ (List.mem_of_getElem? (i := 55) rfl)) (hw _ (List.mem_of_getElem? (i := 6) rfl)) (by decide) (by decide)) q45a q45c (g := (mkF m 142 #[.val (.long q0), .second, .val (.long q1), .second, .val (.long q2), .second, .val (.int p3), .val (.int v2), .val (.int v7), .val (.int v12), .val (.ref b13), .unset, .unset, .unset, .unset, .unset, .unset] [(.ref b13)])) rfl (by rw [hml]; rfl) (Steps.refl _) (argsL := []) (rest := []) (lenOf pd__28__29_V rfl) rfl (by show 2 * 0 + _ ≤ _; exact Nat.le_of_eq rfl) (hb hby at_142) (fun _ _ => ⟨rfl, e35, (by decide : 11 + 0 ≤ _), (by decide : 39 + 0 ≤ _)⟩)
      dsimp only [Pt.U, Pt.locs, Pt.cells, Pt.slots] at X45 l45 y45 z45 st45 hQ45
      subst l45 y45 z45
      obtain ⟨rfl, N45q, K45c, c45_0, c45_1, c45_2, c45_3, c45_4, c45_5⟩ := hQ45
      have N45 := Fr.app N35 N45q
      have K45 : h0.size ≤ T45.heap.size ∧ True := ⟨Nat.le_trans K35.1 K45c.1, trivial⟩
      obtain ⟨M45, Y45, N45⟩ : ∃ M, Stand p l e room_1 s m #[(.long q0), (.long q1), (.long q2), (.int p3)] below meth c T45 M 11 39 ∧ Fr n0 M := ⟨_, X45, N45⟩
      have pre45 : Lead p e below G (T45.setTop (mkF m 145 #[.val (.long q0), .second, .val (.long q1), .second, .val (.long q2), .second, .val (.int p3), .val (.int v2), .val (.int v7), .val (.int v12), .val (.ref b13), .unset, .unset, .unset, .unset, .unset, .unset] [])) := fun t k => pre44 t (st45.trans k)
      have f46 : JV Value.long Z T45.heap ra_35 .long rl_35 r1_35 := (f35_6.keep K45c (ninS (Ne.symm w35_2) nin0))
      have f47 : JV Value.long Z T45.heap rA_35 .long rl_35 r2_35 := (f35_7.keep K45c (ninS (Ne.symm w35_3) nin0))
      exact ⟨ra_35, rA_35, (AtI rf_35 (1 : Int32) rl_35), (rs_35 - (1 : Int32)), rl_35, (r2_35 (rf_35).toNatClampNeg), r1_35, r2_35, (0 + 1), T45, _, _, (own_drop q35_0 (own_dl_1 hnpq (own_end hnpq q35_1) (own_p1 hnpq) (own_c1 hj137_42))), (own_m2_1 (own_p1 hnpq) (own_c1 hj137_42)), Y45.mono (by decide) (by decide), rfl, N45, K45, c45_0, c45_1, c45_2, c45_3, c45_4, c45_5, f46, f47, w35_0, w35_1, w35_2, w35_3, w35_4, pre45⟩
  have pre48 : Lead p e below G (T42.setTop (mkF m 148 #[.val (.long q0), .second, .val (.long q1), .second, .val (.long q2), .second, .val (.int p3), .val (.int v2), .val (.int v7), .val (.int v12), .val (.ref b13), .unset, .unset, .unset, .unset, .unset, .unset] [(.int (2 : Int32)), (.int v7)])) := fun t k => by
    refine pre42 t ?_
    show Steps p.tables e below (T42.setTop (mkF m 145 #[.val (.long q0), .second, .val (.long q1), .second, .val (.long q2), .second, .val (.int p3), .val (.int v2), .val (.int v7), .val (.int v12), .val (.ref b13), .unset, .unset, .unset, .unset, .unset, .unset] [])) _
    refine XS.iload Y42.here hx rfl (hb hby at_145) rfl ?_
    show Steps p.tables e below (T42.setTop (mkF m 147 #[.val (.long q0), .second, .val (.long q1), .second, .val (.long q2), .second, .val (.int p3), .val (.int v2), .val (.int v7), .val (.int v12), .val (.ref b13), .unset, .unset, .unset, .unset, .unset, .unset] [(.int v7)])) _
    refine XS.iconst Y42.here hx rfl (hb hby at_147) ?_
    exact k
  obtain ⟨ra_49, rA_49, rf_49, rs_49, rl_49, rb_49, r1_49, r2_49, lo_49, T49, M49, h49, q49_0, q49_1, Y49, e49, N49, K49, f49_0, f49_1, f49_2, f49_3, f49_4, f49_5, f49_6, f49_7, w49_0, w49_1, w49_2, w49_3, w49_4, pre49⟩ : ∃ (ra_49 : Addr) (rA_49 : Addr) (rf_49 : Int32) (rs_49 : Int32) (rl_49 : Int32) (rb_49 : Int64) (r1_49 : Nat → Int64) (r2_49 : Nat → Int64) (lo_49 : Nat) (T49 : State) (M49 : List Loc) (h49 : Heap), (RR rf_49 rs_49 rl_49 r1_49 r2_49 rb_49 (ET q0) (EU q1 q2) lo_49 hi_35) ∧ ((lo_49 : Int) = (if v7.toInt < 2 then v7.toInt else 2)) ∧ Stand p l e room_1 s m #[(.long q0), (.long q1), (.long q2), (.int p3)] below meth c T49 M49 11 39 ∧ T49.heap = h49 ∧ Fr n0 M49 ∧ (h0.size ≤ h49.size ∧ True) ∧ Exa Z h49 b13 "com/example/lean_throttle/leanthrottle/TimeRing" ∧ Fld Z h49 b13 "com/example/lean_throttle/leanthrottle/TimeRing" "times" "[J" (.ref ra_49) ∧ Fld Z h49 b13 "com/example/lean_throttle/leanthrottle/TimeRing" "totals" "[J" (.ref rA_49) ∧ Fld Z h49 b13 "com/example/lean_throttle/leanthrottle/TimeRing" "first" "I" (.int rf_49) ∧ Fld Z h49 b13 "com/example/lean_throttle/leanthrottle/TimeRing" "size" "I" (.int rs_49) ∧ Fld Z h49 b13 "com/example/lean_throttle/leanthrottle/TimeRing" "totalBefore" "J" (.long rb_49) ∧ JV Value.long Z h49 ra_49 .long rl_49 r1_49 ∧ JV Value.long Z h49 rA_49 .long rl_49 r2_49 ∧ n0 ≤ ra_49 ∧ n0 ≤ rA_49 ∧ b13 ≠ ra_49 ∧ b13 ≠ rA_49 ∧ ra_49 ≠ rA_49 ∧ Lead p e below G (T49.setTop (mkF m 156 #[.val (.long q0), .second, .val (.long q1), .second, .val (.long q2), .second, .val (.int p3), .val (.int v2), .val (.int v7), .val (.int v12), .val (.ref b13), .unset, .unset, .unset, .unset, .unset, .unset] [])) := by
    by_cases hj148_49 : v7 < (2 : Int32)
    · have pre50 : Lead p e below G (T42.setTop (mkF m 156 #[.val (.long q0), .second, .val (.long q1), .second, .val (.long q2), .second, .val (.int p3), .val (.int v2), .val (.int v7), .val (.int v12), .val (.ref b13), .unset, .unset, .unset, .unset, .unset, .unset] [])) := fun t k => by
        refine pre48 t ?_
        show Steps p.tables e below (T42.setTop (mkF m 148 #[.val (.long q0), .second, .val (.long q1), .second, .val (.long q2), .second, .val (.int p3), .val (.int v2), .val (.int v7), .val (.int v12), .val (.ref b13), .unset, .unset, .unset, .unset, .unset, .unset] [(.int (2 : Int32)), (.int v7)])) _
        refine XS.icmpYes Y42.here hx rfl (pc0 := 148) (pc' := 156) rfl (hb hby at_148) rfl (tlt hj148_49).1 (by decide) (by decide) ?_
        exact k
      exact ⟨ra_42, rA_42, rf_42, rs_42, rl_42, rb_42, r1_42, r2_42, lo_42, T42, _, _, q42_0, (own_m1_2 q42_1 (own_c2' hj148_49)), Y42.mono (by decide) (by decide), e42, N42, K42, f42_0, f42_1, f42_2, f42_3, f42_4, f42_5, f42_6, f42_7, w42_0, w42_1, w42_2, w42_3, w42_4, pre50⟩
    · have pre51 : Lead p e below G (T42.setTop (mkF m 153 #[.val (.long q0), .second, .val (.long q1), .second, .val (.long q2), .second, .val (.int p3), .val (.int v2), .val (.int v7), .val (.int v12), .val (.ref b13), .unset, .unset, .unset, .unset, .unset, .unset] [(.ref b13)])) := fun t k => by
        refine pre48 t ?_
        show Steps p.tables e below (T42.setTop (mkF m 148 #[.val (.long q0), .second, .val (.long q1), .second, .val (.long q2), .second, .val (.int p3), .val (.int v2), .val (.int v7), .val (.int v12), .val (.ref b13), .unset, .unset, .unset, .unset, .unset, .unset] [(.int (2 : Int32)), (.int v7)])) _
        refine XS.icmpNo Y42.here hx rfl (hb hby at_148) rfl (flt hj148_49).1 ?_
        show Steps p.tables e below (T42.setTop (mkF m 151 #[.val (.long q0), .second, .val (.long q1), .second, .val (.long q2), .second, .val (.int p3), .val (.int v2), .val (.int v7), .val (.int v12), .val (.ref b13), .unset, .unset, .unset, .unset, .unset, .unset] [])) _
        refine XS.aload Y42.here hx rfl (hb hby at_151) rfl rfl ?_
        exact k
      obtain ⟨cq52, kq52, q52a, q52b, q52c⟩ := isOf hZ e42 f42_0
      obtain ⟨_, _, ⟨T52, L52, k52, n52⟩, -, X52, ⟨Lc52, hQ52, l52, y52, z52⟩, st52⟩ := Y42.virtualBack hx (y := (⟨"com/example/lean_throttle/leanthrottle/TimeRing", "dropOldest", "()V"⟩ : MethodName)) (z := (⟨"com/example/lean_throttle/leanthrottle/TimeRing", "dropOldest", "()V"⟩ : MethodName)) hown (mvT hZ (hw _ (List.mem_of_getElem? (i := 51) rfl))) (mvT hZ (hw _ (List.mem_of_getElem? (i := 52) rfl))) (notFace_of_selects (args := #[]) (mvT hZ (hw _ (List.mem_of_getElem? (i := 54) rfl)))) (mvT hZ (hw _ (List.mem_of_getElem? (i := 54) rfl))) (mvT hZ (hw _ (List.mem_of_getElem? (i := 53) rfl))) (by decide) (backOf (W := 0) (rm10 l Z a0 hw [] b13 ra_42 rA_42 rf_42 rs_42 rl_42 rb_42 r1_42 r2_42 h42 n0 (Nat.le_trans Z0 K42.1) f42_0 f42_1 f42_2 f42_3 f42_4 f42_5 f42_6 f42_7 w42_2 w42_3 w42_4 (show 0 ≤ rf_42.toInt ∧ rf_42.toInt < rl_42.toInt from (own_hfi q42_0)) ge13) hZ (hw _ (List.mem_of_getElem? (i := 55) rfl)) (hw _ (List.mem_of_getElem? (i := 6) rfl)) (by decide) (by decide)) q52a q52c (g := (mkF m 153 #[.val (.long q0), .second, .val (.long q1), .second, .val (.long q2), .second, .val (.int p3), .val (.int v2), .val (.int v7), .val (.int v12), .val (.ref b13), .unset, .unset, .unset, .unset, .unset, .unset] [(.ref b13)])) rfl (by rw [hml]; rfl) (Steps.refl _) (argsL := []) (rest := []) (lenOf pd__28__29_V rfl) rfl (by show 2 * 0 + _ ≤ _; exact Nat.le_of_eq rfl) (hb hby at_153) (fun _ _ => ⟨rfl, e42, (by decide : 11 + 0 ≤ _), (by decide : 39 + 0 ≤ _)⟩)
      dsimp only [Pt.U, Pt.locs, Pt.cells, Pt.slots] at X52 l52 y52 z52 st52 hQ52
      subst l52 y52 z52
      obtain ⟨rfl, N52q, K52c, c52_0, c52_1, c52_2, c52_3, c52_4, c52_5⟩ := hQ52
      have N52 := Fr.app N42 N52q
      have K52 : h0.size ≤ T52.heap.size ∧ True := ⟨Nat.le_trans K42.1 K52c.1, trivial⟩
      obtain ⟨M52, Y52, N52⟩ : ∃ M, Stand p l e room_1 s m #[(.long q0), (.long q1), (.long q2), (.int p3)] below meth c T52 M 11 39 ∧ Fr n0 M := ⟨_, X52, N52⟩
      have pre52 : Lead p e below G (T52.setTop (mkF m 156 #[.val (.long q0), .second, .val (.long q1), .second, .val (.long q2), .second, .val (.int p3), .val (.int v2), .val (.int v7), .val (.int v12), .val (.ref b13), .unset, .unset, .unset, .unset, .unset, .unset] [])) := fun t k => pre51 t (st52.trans k)
      have f53 : JV Value.long Z T52.heap ra_42 .long rl_42 r1_42 := (f42_6.keep K52c (ninS (Ne.symm w42_2) nin0))
      have f54 : JV Value.long Z T52.heap rA_42 .long rl_42 r2_42 := (f42_7.keep K52c (ninS (Ne.symm w42_3) nin0))
      exact ⟨ra_42, rA_42, (AtI rf_42 (1 : Int32) rl_42), (rs_42 - (1 : Int32)), rl_42, (r2_42 (rf_42).toNatClampNeg), r1_42, r2_42, (lo_42 + 1), T52, _, _, (own_drop q42_0 (own_dl_2 hnpq (own_end hnpq q35_1) q42_1 (own_c2 hj148_49))), (own_m2_2 q42_1 (own_c2 hj148_49)), Y52.mono (by decide) (by decide), rfl, N52, K52, c52_0, c52_1, c52_2, c52_3, c52_4, c52_5, f53, f54, w42_0, w42_1, w42_2, w42_3, w42_4, pre52⟩
  have pre55 : Lead p e below G (T49.setTop (mkF m 159 #[.val (.long q0), .second, .val (.long q1), .second, .val (.long q2), .second, .val (.int p3), .val (.int v2), .val (.int v7), .val (.int v12), .val (.ref b13), .unset, .unset, .unset, .unset, .unset, .unset] [(.int (3 : Int32)), (.int v7)])) := fun t k => by
    refine pre49 t ?_
    show Steps p.tables e below (T49.setTop (mkF m 156 #[.val (.long q0), .second, .val (.long q1), .second, .val (.long q2), .second, .val (.int p3), .val (.int v2), .val (.int v7), .val (.int v12), .val (.ref b13), .unset, .unset, .unset, .unset, .unset, .unset] [])) _
    refine XS.iload Y49.here hx rfl (hb hby at_156) rfl ?_
    refine XS.iconst Y49.here hx rfl (hb hby at_158) ?_
    show Steps p.tables e below (T49.setTop (mkF m 159 #[.val (.long q0), .second, .val (.long q1), .second, .val (.long q2), .second, .val (.int p3), .val (.int v2), .val (.int v7), .val (.int v12), .val (.ref b13), .unset, .unset, .unset, .unset, .unset, .unset] [(.int (3 : Int32)), (.int v7)])) _
    exact k
  obtain ⟨ra_56, rA_56, rf_56, rs_56, rl_56, rb_56, r1_56, r2_56, lo_56, T56, M56, h56, q56_0, q56_1, Y56, e56, N56, K56, f56_0, f56_1, f56_2, f56_3, f56_4, f56_5, f56_6, f56_7, w56_0, w56_1, w56_2, w56_3, w56_4, pre56⟩ : ∃ (ra_56 : Addr) (rA_56 : Addr) (rf_56 : Int32) (rs_56 : Int32) (rl_56 : Int32) (rb_56 : Int64) (r1_56 : Nat → Int64) (r2_56 : Nat → Int64) (lo_56 : Nat) (T56 : State) (M56 : List Loc) (h56 : Heap), (RR rf_56 rs_56 rl_56 r1_56 r2_56 rb_56 (ET q0) (EU q1 q2) lo_56 hi_35) ∧ ((lo_56 : Int) = (if v7.toInt < 3 then v7.toInt else 3)) ∧ Stand p l e room_1 s m #[(.long q0), (.long q1), (.long q2), (.int p3)] below meth c T56 M56 11 39 ∧ T56.heap = h56 ∧ Fr n0 M56 ∧ (h0.size ≤ h56.size ∧ True) ∧ Exa Z h56 b13 "com/example/lean_throttle/leanthrottle/TimeRing" ∧ Fld Z h56 b13 "com/example/lean_throttle/leanthrottle/TimeRing" "times" "[J" (.ref ra_56) ∧ Fld Z h56 b13 "com/example/lean_throttle/leanthrottle/TimeRing" "totals" "[J" (.ref rA_56) ∧ Fld Z h56 b13 "com/example/lean_throttle/leanthrottle/TimeRing" "first" "I" (.int rf_56) ∧ Fld Z h56 b13 "com/example/lean_throttle/leanthrottle/TimeRing" "size" "I" (.int rs_56) ∧ Fld Z h56 b13 "com/example/lean_throttle/leanthrottle/TimeRing" "totalBefore" "J" (.long rb_56) ∧ JV Value.long Z h56 ra_56 .long rl_56 r1_56 ∧ JV Value.long Z h56 rA_56 .long rl_56 r2_56 ∧ n0 ≤ ra_56 ∧ n0 ≤ rA_56 ∧ b13 ≠ ra_56 ∧ b13 ≠ rA_56 ∧ ra_56 ≠ rA_56 ∧ Lead p e below G (T56.setTop (mkF m 167 #[.val (.long q0), .second, .val (.long q1), .second, .val (.long q2), .second, .val (.int p3), .val (.int v2), .val (.int v7), .val (.int v12), .val (.ref b13), .unset, .unset, .unset, .unset, .unset, .unset] [])) := by
    by_cases hj159_56 : v7 < (3 : Int32)
    · have pre57 : Lead p e below G (T49.setTop (mkF m 167 #[.val (.long q0), .second, .val (.long q1), .second, .val (.long q2), .second, .val (.int p3), .val (.int v2), .val (.int v7), .val (.int v12), .val (.ref b13), .unset, .unset, .unset, .unset, .unset, .unset] [])) := fun t k => by
        refine pre55 t ?_
        show Steps p.tables e below (T49.setTop (mkF m 159 #[.val (.long q0), .second, .val (.long q1), .second, .val (.long q2), .second, .val (.int p3), .val (.int v2), .val (.int v7), .val (.int v12), .val (.ref b13), .unset, .unset, .unset, .unset, .unset, .unset] [(.int (3 : Int32)), (.int v7)])) _
        refine XS.icmpYes Y49.here hx rfl (pc0 := 159) (pc' := 167) rfl (hb hby at_159) rfl (tlt hj159_56).1 (by decide) (by decide) ?_
        exact k
      exact ⟨ra_49, rA_49, rf_49, rs_49, rl_49, rb_49, r1_49, r2_49, lo_49, T49, _, _, q49_0, (own_m1_3 q49_1 (own_c3' hj159_56)), Y49.mono (by decide) (by decide), e49, N49, K49, f49_0, f49_1, f49_2, f49_3, f49_4, f49_5, f49_6, f49_7, w49_0, w49_1, w49_2, w49_3, w49_4, pre57⟩
    · have pre58 : Lead p e below G (T49.setTop (mkF m 164 #[.val (.long q0), .second, .val (.long q1), .second, .val (.long q2), .second, .val (.int p3), .val (.int v2), .val (.int v7), .val (.int v12), .val (.ref b13), .unset, .unset, .unset, .unset, .unset, .unset] [(.ref b13)])) := fun t k => by
        refine pre55 t ?_
        show Steps p.tables e below (T49.setTop (mkF m 159 #[.val (.long q0), .second, .val (.long q1), .second, .val (.long q2), .second, .val (.int p3), .val (.int v2), .val (.int v7), .val (.int v12), .val (.ref b13), .unset, .unset, .unset, .unset, .unset, .unset] [(.int (3 : Int32)), (.int v7)])) _
        refine XS.icmpNo Y49.here hx rfl (hb hby at_159) rfl (flt hj159_56).1 ?_
        refine XS.aload Y49.here hx rfl (hb hby at_162) rfl rfl ?_
        show Steps p.tables e below (T49.setTop (mkF m 164 #[.val (.long q0), .second, .val (.long q1), .second, .val (.long q2), .second, .val (.int p3), .val (.int v2), .val (.int v7), .val (.int v12), .val (.ref b13), .unset, .unset, .unset, .unset, .unset, .unset] [(.ref b13)])) _
        exact k
      obtain ⟨cq59, kq59, q59a, q59b, q59c⟩ := isOf hZ e49 f49_0
      obtain ⟨_, _, ⟨T59, L59, k59, n59⟩, -, X59, ⟨Lc59, hQ59, l59, y59, z59⟩, st59⟩ := Y49.virtualBack hx (y := (⟨"com/example/lean_throttle/leanthrottle/TimeRing", "dropOldest", "()V"⟩ : MethodName)) (z := (⟨"com/example/lean_throttle/leanthrottle/TimeRing", "dropOldest", "()V"⟩ : MethodName)) hown (mvT hZ (hw _ (List.mem_of_getElem? (i := 51) rfl))) (mvT hZ (hw _ (List.mem_of_getElem? (i := 52) rfl))) (notFace_of_selects (args := #[]) (mvT hZ (hw _ (List.mem_of_getElem? (i := 54) rfl)))) (mvT hZ (hw _ (List.mem_of_getElem? (i := 54) rfl))) (mvT hZ (hw _ (List.mem_of_getElem? (i := 53) rfl))) (by decide) (backOf (W := 0) (rm10 l Z a0 hw [] b13 ra_49 rA_49 rf_49 rs_49 rl_49 rb_49 r1_49 r2_49 h49 n0 (Nat.le_trans Z0 K49.1) f49_0 f49_1 f49_2 f49_3 f49_4 f49_5 f49_6 f49_7 w49_2 w49_3 w49_4 (show 0 ≤ rf_49.toInt ∧ rf_49.toInt < rl_49.toInt from (own_hfi q49_0)) ge13) hZ (hw _ (List.mem_of_getElem? (i := 55) rfl)) (hw _ (List.mem_of_getElem? (i := 6) rfl)) (by decide) (by decide)) q59a q59c (g := (mkF m 164 #[.val (.long q0), .second, .val (.long q1), .second, .val (.long q2), .second, .val (.int p3), .val (.int v2), .val (.int v7), .val (.int v12), .val (.ref b13), .unset, .unset, .unset, .unset, .unset, .unset] [(.ref b13)])) rfl (by rw [hml]; rfl) (Steps.refl _) (argsL := []) (rest := []) (lenOf pd__28__29_V rfl) rfl (by show 2 * 0 + _ ≤ _; exact Nat.le_of_eq rfl) (hb hby at_164) (fun _ _ => ⟨rfl, e49, (by decide : 11 + 0 ≤ _), (by decide : 39 + 0 ≤ _)⟩)
      dsimp only [Pt.U, Pt.locs, Pt.cells, Pt.slots] at X59 l59 y59 z59 st59 hQ59
      subst l59 y59 z59
      obtain ⟨rfl, N59q, K59c, c59_0, c59_1, c59_2, c59_3, c59_4, c59_5⟩ := hQ59
      have N59 := Fr.app N49 N59q
      have K59 : h0.size ≤ T59.heap.size ∧ True := ⟨Nat.le_trans K49.1 K59c.1, trivial⟩
      obtain ⟨M59, Y59, N59⟩ : ∃ M, Stand p l e room_1 s m #[(.long q0), (.long q1), (.long q2), (.int p3)] below meth c T59 M 11 39 ∧ Fr n0 M := ⟨_, X59, N59⟩
      have pre59 : Lead p e below G (T59.setTop (mkF m 167 #[.val (.long q0), .second, .val (.long q1), .second, .val (.long q2), .second, .val (.int p3), .val (.int v2), .val (.int v7), .val (.int v12), .val (.ref b13), .unset, .unset, .unset, .unset, .unset, .unset] [])) := fun t k => pre58 t (st59.trans k)
      have f60 : JV Value.long Z T59.heap ra_49 .long rl_49 r1_49 := (f49_6.keep K59c (ninS (Ne.symm w49_2) nin0))
      have f61 : JV Value.long Z T59.heap rA_49 .long rl_49 r2_49 := (f49_7.keep K59c (ninS (Ne.symm w49_3) nin0))
      exact ⟨ra_49, rA_49, (AtI rf_49 (1 : Int32) rl_49), (rs_49 - (1 : Int32)), rl_49, (r2_49 (rf_49).toNatClampNeg), r1_49, r2_49, (lo_49 + 1), T59, _, _, (own_drop q49_0 (own_dl_3 hnpq (own_end hnpq q35_1) q49_1 (own_c3 hj159_56))), (own_m2_3 q49_1 (own_c3 hj159_56)), Y59.mono (by decide) (by decide), rfl, N59, K59, c59_0, c59_1, c59_2, c59_3, c59_4, c59_5, f60, f61, w49_0, w49_1, w49_2, w49_3, w49_4, pre59⟩
  have pre62 : Lead p e below G (T56.setTop (mkF m 170 #[.val (.long q0), .second, .val (.long q1), .second, .val (.long q2), .second, .val (.int p3), .val (.int v2), .val (.int v7), .val (.int v12), .val (.ref b13), .unset, .unset, .unset, .unset, .unset, .unset] [(.int (1 : Int32)), (.int v12)])) := fun t k => by
    refine pre56 t ?_
    show Steps p.tables e below (T56.setTop (mkF m 167 #[.val (.long q0), .second, .val (.long q1), .second, .val (.long q2), .second, .val (.int p3), .val (.int v2), .val (.int v7), .val (.int v12), .val (.ref b13), .unset, .unset, .unset, .unset, .unset, .unset] [])) _
    refine XS.iload Y56.here hx rfl (hb hby at_167) rfl ?_
    refine XS.iconst Y56.here hx rfl (hb hby at_169) ?_
    exact k
  obtain ⟨ra_63, rA_63, rf_63, rs_63, rl_63, rb_63, r1_63, r2_63, hi_63, T63, M63, h63, q63_0, q63_1, Y63, e63, N63, K63, f63_0, f63_1, f63_2, f63_3, f63_4, f63_5, f63_6, f63_7, w63_0, w63_1, w63_2, w63_3, w63_4, pre63⟩ : ∃ (ra_63 : Addr) (rA_63 : Addr) (rf_63 : Int32) (rs_63 : Int32) (rl_63 : Int32) (rb_63 : Int64) (r1_63 : Nat → Int64) (r2_63 : Nat → Int64) (hi_63 : Nat) (T63 : State) (M63 : List Loc) (h63 : Heap), (RR rf_63 rs_63 rl_63 r1_63 r2_63 rb_63 (ET q0) (EU q1 q2) lo_56 hi_63) ∧ ((hi_63 : Int) = v2.toInt + (if v12.toInt < 1 then v12.toInt else 1)) ∧ Stand p l e room_1 s m #[(.long q0), (.long q1), (.long q2), (.int p3)] below meth c T63 M63 13 47 ∧ T63.heap = h63 ∧ Fr n0 M63 ∧ (h0.size ≤ h63.size ∧ True) ∧ Exa Z h63 b13 "com/example/lean_throttle/leanthrottle/TimeRing" ∧ Fld Z h63 b13 "com/example/lean_throttle/leanthrottle/TimeRing" "times" "[J" (.ref ra_63) ∧ Fld Z h63 b13 "com/example/lean_throttle/leanthrottle/TimeRing" "totals" "[J" (.ref rA_63) ∧ Fld Z h63 b13 "com/example/lean_throttle/leanthrottle/TimeRing" "first" "I" (.int rf_63) ∧ Fld Z h63 b13 "com/example/lean_throttle/leanthrottle/TimeRing" "size" "I" (.int rs_63) ∧ Fld Z h63 b13 "com/example/lean_throttle/leanthrottle/TimeRing" "totalBefore" "J" (.long rb_63) ∧ JV Value.long Z h63 ra_63 .long rl_63 r1_63 ∧ JV Value.long Z h63 rA_63 .long rl_63 r2_63 ∧ n0 ≤ ra_63 ∧ n0 ≤ rA_63 ∧ b13 ≠ ra_63 ∧ b13 ≠ rA_63 ∧ ra_63 ≠ rA_63 ∧ Lead p e below G (T63.setTop (mkF m 192 #[.val (.long q0), .second, .val (.long q1), .second, .val (.long q2), .second, .val (.int p3), .val (.int v2), .val (.int v7), .val (.int v12), .val (.ref b13), .unset, .unset, .unset, .unset, .unset, .unset] [])) := by
    by_cases hj170_63 : v12 < (1 : Int32)
    · have pre64 : Lead p e below G (T56.setTop (mkF m 192 #[.val (.long q0), .second, .val (.long q1), .second, .val (.long q2), .second, .val (.int p3), .val (.int v2), .val (.int v7), .val (.int v12), .val (.ref b13), .unset, .unset, .unset, .unset, .unset, .unset] [])) := fun t k => by
        refine pre62 t ?_
        show Steps p.tables e below (T56.setTop (mkF m 170 #[.val (.long q0), .second, .val (.long q1), .second, .val (.long q2), .second, .val (.int p3), .val (.int v2), .val (.int v7), .val (.int v12), .val (.ref b13), .unset, .unset, .unset, .unset, .unset, .unset] [(.int (1 : Int32)), (.int v12)])) _
        refine XS.icmpYes Y56.here hx rfl (pc0 := 170) (pc' := 192) rfl (hb hby at_170) rfl (tlt hj170_63).1 (by decide) (by decide) ?_
        show Steps p.tables e below (T56.setTop (mkF m 192 #[.val (.long q0), .second, .val (.long q1), .second, .val (.long q2), .second, .val (.int p3), .val (.int v2), .val (.int v7), .val (.int v12), .val (.ref b13), .unset, .unset, .unset, .unset, .unset, .unset] [])) _
        exact k
      exact ⟨ra_56, rA_56, rf_56, rs_56, rl_56, rb_56, r1_56, r2_56, hi_35, T56, _, _, q56_0, (own_m13_1 (own_q1 hnpq (own_end hnpq q35_1)) (own_c1' hj170_63)), Y56.mono (by decide) (by decide), e56, N56, K56, f56_0, f56_1, f56_2, f56_3, f56_4, f56_5, f56_6, f56_7, w56_0, w56_1, w56_2, w56_3, w56_4, pre64⟩
    · have pre65 : Lead p e below G (T56.setTop (mkF m 185 #[.val (.long q0), .second, .val (.long q1), .second, .val (.long q2), .second, .val (.int p3), .val (.int v2), .val (.int v7), .val (.int v12), .val (.ref b13), .unset, .unset, .unset, .unset, .unset, .unset] [(.long q2), (.long q1), (.int v2), (.long (q0 + (v2.toInt64))), (.ref b13)])) := fun t k => by
        refine pre62 t ?_
        show Steps p.tables e below (T56.setTop (mkF m 170 #[.val (.long q0), .second, .val (.long q1), .second, .val (.long q2), .second, .val (.int p3), .val (.int v2), .val (.int v7), .val (.int v12), .val (.ref b13), .unset, .unset, .unset, .unset, .unset, .unset] [(.int (1 : Int32)), (.int v12)])) _
        refine XS.icmpNo Y56.here hx rfl (hb hby at_170) rfl (flt hj170_63).1 ?_
        refine XS.aload Y56.here hx rfl (hb hby at_173) rfl rfl ?_
        refine XS.lloadN Y56.here hx rfl (hb hby at_175) rfl ?_
        show Steps p.tables e below (T56.setTop (mkF m 176 #[.val (.long q0), .second, .val (.long q1), .second, .val (.long q2), .second, .val (.int p3), .val (.int v2), .val (.int v7), .val (.int v12), .val (.ref b13), .unset, .unset, .unset, .unset, .unset, .unset] [(.long q0), (.ref b13)])) _
        refine XS.iload Y56.here hx rfl (hb hby at_176) rfl ?_
        refine XS.i2l Y56.here hx rfl (hb hby at_178) rfl ?_
        refine XS.ladd Y56.here hx rfl (hb hby at_179) rfl ?_
        show Steps p.tables e below (T56.setTop (mkF m 180 #[.val (.long q0), .second, .val (.long q1), .second, .val (.long q2), .second, .val (.int p3), .val (.int v2), .val (.int v7), .val (.int v12), .val (.ref b13), .unset, .unset, .unset, .unset, .unset, .unset] [(.long (q0 + (v2.toInt64))), (.ref b13)])) _
        refine XS.iload Y56.here hx rfl (hb hby at_180) rfl ?_
        refine XS.lloadN Y56.here hx rfl (hb hby at_182) rfl ?_
        refine XS.lload Y56.here hx rfl (hb hby at_183) rfl ?_
        show Steps p.tables e below (T56.setTop (mkF m 185 #[.val (.long q0), .second, .val (.long q1), .second, .val (.long q2), .second, .val (.int p3), .val (.int v2), .val (.int v7), .val (.int v12), .val (.ref b13), .unset, .unset, .unset, .unset, .unset, .unset] [(.long q2), (.long q1), (.int v2), (.long (q0 + (v2.toInt64))), (.ref b13)])) _
        exact k
      obtain ⟨_, _, ⟨T66, L66, k66, n66⟩, -, X66, ⟨Lc66, hQ66, l66, y66, z66⟩, st66⟩ := Jvm.LawKit.callS Y56 hx (y := (⟨"com/example/lean_throttle/leanthrottle/TimeRingDropOldestPinLaw", "u", "(IJJ)J"⟩ : MethodName)) hown (mvT hZ (hw _ (List.mem_of_getElem? (i := 18) rfl))) (mvT hZ (hw _ (List.mem_of_getElem? (i := 19) rfl))) (mvT hZ (hw _ (List.mem_of_getElem? (i := 20) rfl))) (mvT hZ (hw _ (List.mem_of_getElem? (i := 21) rfl))) (by decide) (backOf (W := 3) (rm4 l Z a0 hw [] v2 q1 q2  h56 n0 (Nat.le_trans Z0 K56.1) ) hZ (hw _ (List.mem_of_getElem? (i := 21) rfl)) (hw _ (List.mem_of_getElem? (i := 20) rfl)) (by decide) (by decide)) (g := (mkF m 185 #[.val (.long q0), .second, .val (.long q1), .second, .val (.long q2), .second, .val (.int p3), .val (.int v2), .val (.int v7), .val (.int v12), .val (.ref b13), .unset, .unset, .unset, .unset, .unset, .unset] [(.long q2), (.long q1), (.int v2), (.long (q0 + (v2.toInt64))), (.ref b13)])) rfl (by rw [hml]; rfl) (argsL := [(.int v2), (.long q1), (.long q2)]) (rest := [(.long (q0 + (v2.toInt64))), (.ref b13)]) (lenOf pd__28_IJJ_29_J rfl) rfl (by show 2 * 0 + _ ≤ _; exact Nat.le_of_eq rfl) (hb hby at_185) (fun _ _ => ⟨rfl, e56, (by decide : 11 + 0 ≤ _), (by decide : 39 + 0 ≤ _)⟩)
      dsimp only [Pt.U, Pt.locs, Pt.cells, Pt.slots] at X66 l66 y66 z66 st66 hQ66
      subst l66 y66 z66
      obtain ⟨rfl, N66q, e66⟩ := hQ66
      have N66 := Fr.app N56 N66q
      obtain ⟨M66, Y66, N66⟩ : ∃ M, Stand p l e room_1 s m #[(.long q0), (.long q1), (.long q2), (.int p3)] below meth c T66 M 11 39 ∧ Fr n0 M := ⟨_, X66, N66⟩
      have pre66 : Lead p e below G (T66.setTop (mkF m 188 #[.val (.long q0), .second, .val (.long q1), .second, .val (.long q2), .second, .val (.int p3), .val (.int v2), .val (.int v7), .val (.int v12), .val (.ref b13), .unset, .unset, .unset, .unset, .unset, .unset] [(.long (F4 v2 q1 q2)), (.long (q0 + (v2.toInt64))), (.ref b13)])) := fun t k => pre65 t (st66 _ k)
      have pre67 : Lead p e below G (T66.setTop (mkF m 189 #[.val (.long q0), .second, .val (.long q1), .second, .val (.long q2), .second, .val (.int p3), .val (.int v2), .val (.int v7), .val (.int v12), .val (.ref b13), .unset, .unset, .unset, .unset, .unset, .unset] [(.int (4 : Int32)), (.long (F4 v2 q1 q2)), (.long (q0 + (v2.toInt64))), (.ref b13)])) := fun t k => by
        refine pre66 t ?_
        show Steps p.tables e below (T66.setTop (mkF m 188 #[.val (.long q0), .second, .val (.long q1), .second, .val (.long q2), .second, .val (.int p3), .val (.int v2), .val (.int v7), .val (.int v12), .val (.ref b13), .unset, .unset, .unset, .unset, .unset, .unset] [(.long (F4 v2 q1 q2)), (.long (q0 + (v2.toInt64))), (.ref b13)])) _
        refine XS.iconst Y66.here hx rfl (hb hby at_188) ?_
        exact k
      obtain ⟨cq68, kq68, q68a, q68b, q68c⟩ := isOf hZ e66 f56_0
      obtain ⟨_, _, ⟨T68, L68, k68, n68⟩, -, X68, ⟨Lc68, hQ68, l68, y68, z68⟩, st68⟩ := Y66.virtualBack hx (y := (⟨"com/example/lean_throttle/leanthrottle/TimeRing", "add", "(JJI)V"⟩ : MethodName)) (z := (⟨"com/example/lean_throttle/leanthrottle/TimeRing", "add", "(JJI)V"⟩ : MethodName)) hown (mvT hZ (hw _ (List.mem_of_getElem? (i := 23) rfl))) (mvT hZ (hw _ (List.mem_of_getElem? (i := 24) rfl))) (notFace_of_selects (args := #[]) (mvT hZ (hw _ (List.mem_of_getElem? (i := 26) rfl)))) (mvT hZ (hw _ (List.mem_of_getElem? (i := 26) rfl))) (mvT hZ (hw _ (List.mem_of_getElem? (i := 25) rfl))) (by decide) (backOf (W := 0) (rm5 l Z a0 hw [] b13 (q0 + (v2.toInt64)) (F4 v2 q1 q2) ra_56 rA_56 rf_56 rs_56 rl_56 rb_56 r1_56 r2_56 h56 n0 (Nat.le_trans Z0 K56.1) f56_0 f56_1 f56_2 f56_3 f56_4 f56_5 f56_6 f56_7 w56_2 w56_3 w56_4 (show 0 ≤ rf_56.toInt ∧ rf_56.toInt < rl_56.toInt from (own_hfi q56_0)) (show 0 ≤ rs_56.toInt ∧ rs_56.toInt ≤ rl_56.toInt from (own_hsz q56_0)) (show rl_56.toInt ≤ 4 from (own_hl4 q56_0)) (show rl_56.toInt = 1 ∨ rl_56.toInt = 2 ∨ rl_56.toInt = 4 from (own_hlen q56_0)) (show rs_56.toInt < 4 from (own_hlt q56_0 (own_len3_1 hnpq (own_lend hnpq q56_1) (own_q1 hnpq (own_end hnpq q35_1)) (own_c1 hj170_63)))) ge13 w56_0 w56_1) hZ (hw _ (List.mem_of_getElem? (i := 27) rfl)) (hw _ (List.mem_of_getElem? (i := 6) rfl)) (by decide) (by decide)) q68a q68c (g := (mkF m 189 #[.val (.long q0), .second, .val (.long q1), .second, .val (.long q2), .second, .val (.int p3), .val (.int v2), .val (.int v7), .val (.int v12), .val (.ref b13), .unset, .unset, .unset, .unset, .unset, .unset] [(.int (4 : Int32)), (.long (F4 v2 q1 q2)), (.long (q0 + (v2.toInt64))), (.ref b13)])) rfl (by rw [hml]; rfl) (Steps.refl _) (argsL := [(.long (q0 + (v2.toInt64))), (.long (F4 v2 q1 q2)), (.int (4 : Int32))]) (rest := []) (lenOf pd__28_JJI_29_V rfl) rfl (by show 2 * 0 + _ ≤ _; exact Nat.le_of_eq rfl) (hb hby at_189) (fun _ _ => ⟨rfl, e66, (by decide : 11 + 2 ≤ _), (by decide : 39 + 8 ≤ _)⟩)
      dsimp only [Pt.U, Pt.locs, Pt.cells, Pt.slots] at X68 l68 y68 z68 st68 hQ68
      subst l68 y68 z68
      obtain ⟨n1_68, n2_68, f2_68, l2_68, g1_68, g2_68, rfl, N68q, K68c, c68_0, c68_1, c68_2, c68_3, c68_4, c68_5, c68_6, c68_7, c68_8, c68_9, c68_10, c68_11, c68_12, c68_13⟩ := hQ68
      have N68 := Fr.app N66 N68q
      have K68 : h0.size ≤ T68.heap.size ∧ True := ⟨Nat.le_trans K56.1 K68c.1, trivial⟩
      obtain ⟨M68, Y68, N68⟩ : ∃ M, Stand p l e room_1 s m #[(.long q0), (.long q1), (.long q2), (.int p3)] below meth c T68 M 13 47 ∧ Fr n0 M := ⟨_, X68, N68⟩
      have pre68 : Lead p e below G (T68.setTop (mkF m 192 #[.val (.long q0), .second, .val (.long q1), .second, .val (.long q2), .second, .val (.int p3), .val (.int v2), .val (.int v7), .val (.int v12), .val (.ref b13), .unset, .unset, .unset, .unset, .unset, .unset] [])) := fun t k => pre67 t (st68.trans k)
      exact ⟨n1_68, n2_68, f2_68, (rs_56 + (1 : Int32)), l2_68, rb_56, g1_68, g2_68, (hi_35 + 1), T68, _, _, (own_add q56_0 (own_len3_1 hnpq (own_lend hnpq q56_1) (own_q1 hnpq (own_end hnpq q35_1)) (own_c1 hj170_63)) c68_13 (own_t3 q0 (own_x1 hnpq (own_q1 hnpq (own_end hnpq q35_1)) (own_c1 hj170_63))) (own_u3 q1 q2 (own_x1 hnpq (own_q1 hnpq (own_end hnpq q35_1)) (own_c1 hj170_63)))), (own_m23_1 (own_q1 hnpq (own_end hnpq q35_1)) (own_c1 hj170_63)), Y68.mono (by decide) (by decide), rfl, N68, K68, c68_0, c68_1, c68_2, c68_3, c68_4, c68_5, c68_6, c68_7, c68_8, c68_9, c68_10, c68_11, c68_12, pre68⟩
  have pre69 : Lead p e below G (T63.setTop (mkF m 195 #[.val (.long q0), .second, .val (.long q1), .second, .val (.long q2), .second, .val (.int p3), .val (.int v2), .val (.int v7), .val (.int v12), .val (.ref b13), .unset, .unset, .unset, .unset, .unset, .unset] [(.int (2 : Int32)), (.int v12)])) := fun t k => by
    refine pre63 t ?_
    show Steps p.tables e below (T63.setTop (mkF m 192 #[.val (.long q0), .second, .val (.long q1), .second, .val (.long q2), .second, .val (.int p3), .val (.int v2), .val (.int v7), .val (.int v12), .val (.ref b13), .unset, .unset, .unset, .unset, .unset, .unset] [])) _
    refine XS.iload Y63.here hx rfl (hb hby at_192) rfl ?_
    refine XS.iconst Y63.here hx rfl (hb hby at_194) ?_
    show Steps p.tables e below (T63.setTop (mkF m 195 #[.val (.long q0), .second, .val (.long q1), .second, .val (.long q2), .second, .val (.int p3), .val (.int v2), .val (.int v7), .val (.int v12), .val (.ref b13), .unset, .unset, .unset, .unset, .unset, .unset] [(.int (2 : Int32)), (.int v12)])) _
    exact k
  obtain ⟨ra_70, rA_70, rf_70, rs_70, rl_70, rb_70, r1_70, r2_70, hi_70, T70, M70, h70, q70_0, q70_1, Y70, e70, N70, K70, f70_0, f70_1, f70_2, f70_3, f70_4, f70_5, f70_6, f70_7, w70_0, w70_1, w70_2, w70_3, w70_4, pre70⟩ : ∃ (ra_70 : Addr) (rA_70 : Addr) (rf_70 : Int32) (rs_70 : Int32) (rl_70 : Int32) (rb_70 : Int64) (r1_70 : Nat → Int64) (r2_70 : Nat → Int64) (hi_70 : Nat) (T70 : State) (M70 : List Loc) (h70 : Heap), (RR rf_70 rs_70 rl_70 r1_70 r2_70 rb_70 (ET q0) (EU q1 q2) lo_56 hi_70) ∧ ((hi_70 : Int) = v2.toInt + (if v12.toInt < 2 then v12.toInt else 2)) ∧ Stand p l e room_1 s m #[(.long q0), (.long q1), (.long q2), (.int p3)] below meth c T70 M70 15 55 ∧ T70.heap = h70 ∧ Fr n0 M70 ∧ (h0.size ≤ h70.size ∧ True) ∧ Exa Z h70 b13 "com/example/lean_throttle/leanthrottle/TimeRing" ∧ Fld Z h70 b13 "com/example/lean_throttle/leanthrottle/TimeRing" "times" "[J" (.ref ra_70) ∧ Fld Z h70 b13 "com/example/lean_throttle/leanthrottle/TimeRing" "totals" "[J" (.ref rA_70) ∧ Fld Z h70 b13 "com/example/lean_throttle/leanthrottle/TimeRing" "first" "I" (.int rf_70) ∧ Fld Z h70 b13 "com/example/lean_throttle/leanthrottle/TimeRing" "size" "I" (.int rs_70) ∧ Fld Z h70 b13 "com/example/lean_throttle/leanthrottle/TimeRing" "totalBefore" "J" (.long rb_70) ∧ JV Value.long Z h70 ra_70 .long rl_70 r1_70 ∧ JV Value.long Z h70 rA_70 .long rl_70 r2_70 ∧ n0 ≤ ra_70 ∧ n0 ≤ rA_70 ∧ b13 ≠ ra_70 ∧ b13 ≠ rA_70 ∧ ra_70 ≠ rA_70 ∧ Lead p e below G (T70.setTop (mkF m 221 #[.val (.long q0), .second, .val (.long q1), .second, .val (.long q2), .second, .val (.int p3), .val (.int v2), .val (.int v7), .val (.int v12), .val (.ref b13), .unset, .unset, .unset, .unset, .unset, .unset] [])) := by
    by_cases hj195_70 : v12 < (2 : Int32)
    · have pre71 : Lead p e below G (T63.setTop (mkF m 221 #[.val (.long q0), .second, .val (.long q1), .second, .val (.long q2), .second, .val (.int p3), .val (.int v2), .val (.int v7), .val (.int v12), .val (.ref b13), .unset, .unset, .unset, .unset, .unset, .unset] [])) := fun t k => by
        refine pre69 t ?_
        show Steps p.tables e below (T63.setTop (mkF m 195 #[.val (.long q0), .second, .val (.long q1), .second, .val (.long q2), .second, .val (.int p3), .val (.int v2), .val (.int v7), .val (.int v12), .val (.ref b13), .unset, .unset, .unset, .unset, .unset, .unset] [(.int (2 : Int32)), (.int v12)])) _
        refine XS.icmpYes Y63.here hx rfl (pc0 := 195) (pc' := 221) rfl (hb hby at_195) rfl (tlt hj195_70).1 (by decide) (by decide) ?_
        exact k
      exact ⟨ra_63, rA_63, rf_63, rs_63, rl_63, rb_63, r1_63, r2_63, hi_63, T63, _, _, q63_0, (own_m13_2 q63_1 (own_c2' hj195_70)), Y63.mono (by decide) (by decide), e63, N63, K63, f63_0, f63_1, f63_2, f63_3, f63_4, f63_5, f63_6, f63_7, w63_0, w63_1, w63_2, w63_3, w63_4, pre71⟩
    · have pre72 : Lead p e below G (T63.setTop (mkF m 214 #[.val (.long q0), .second, .val (.long q1), .second, .val (.long q2), .second, .val (.int p3), .val (.int v2), .val (.int v7), .val (.int v12), .val (.ref b13), .unset, .unset, .unset, .unset, .unset, .unset] [(.long q2), (.long q1), (.int (v2 + (1 : Int32))), (.long (q0 + ((v2 + (1 : Int32)).toInt64))), (.ref b13)])) := fun t k => by
        refine pre69 t ?_
        show Steps p.tables e below (T63.setTop (mkF m 195 #[.val (.long q0), .second, .val (.long q1), .second, .val (.long q2), .second, .val (.int p3), .val (.int v2), .val (.int v7), .val (.int v12), .val (.ref b13), .unset, .unset, .unset, .unset, .unset, .unset] [(.int (2 : Int32)), (.int v12)])) _
        refine XS.icmpNo Y63.here hx rfl (hb hby at_195) rfl (flt hj195_70).1 ?_
        refine XS.aload Y63.here hx rfl (hb hby at_198) rfl rfl ?_
        show Steps p.tables e below (T63.setTop (mkF m 200 #[.val (.long q0), .second, .val (.long q1), .second, .val (.long q2), .second, .val (.int p3), .val (.int v2), .val (.int v7), .val (.int v12), .val (.ref b13), .unset, .unset, .unset, .unset, .unset, .unset] [(.ref b13)])) _
        refine XS.lloadN Y63.here hx rfl (hb hby at_200) rfl ?_
        refine XS.iload Y63.here hx rfl (hb hby at_201) rfl ?_
        refine XS.iconst Y63.here hx rfl (hb hby at_203) ?_
        show Steps p.tables e below (T63.setTop (mkF m 204 #[.val (.long q0), .second, .val (.long q1), .second, .val (.long q2), .second, .val (.int p3), .val (.int v2), .val (.int v7), .val (.int v12), .val (.ref b13), .unset, .unset, .unset, .unset, .unset, .unset] [(.int (1 : Int32)), (.int v2), (.long q0), (.ref b13)])) _
        refine XS.iadd Y63.here hx rfl (hb hby at_204) rfl ?_
        refine XS.i2l Y63.here hx rfl (hb hby at_205) rfl ?_
        refine XS.ladd Y63.here hx rfl (hb hby at_206) rfl ?_
        show Steps p.tables e below (T63.setTop (mkF m 207 #[.val (.long q0), .second, .val (.long q1), .second, .val (.long q2), .second, .val (.int p3), .val (.int v2), .val (.int v7), .val (.int v12), .val (.ref b13), .unset, .unset, .unset, .unset, .unset, .unset] [(.long (q0 + ((v2 + (1 : Int32)).toInt64))), (.ref b13)])) _
        refine XS.iload Y63.here hx rfl (hb hby at_207) rfl ?_
        refine XS.iconst Y63.here hx rfl (hb hby at_209) ?_
        refine XS.iadd Y63.here hx rfl (hb hby at_210) rfl ?_
        show Steps p.tables e below (T63.setTop (mkF m 211 #[.val (.long q0), .second, .val (.long q1), .second, .val (.long q2), .second, .val (.int p3), .val (.int v2), .val (.int v7), .val (.int v12), .val (.ref b13), .unset, .unset, .unset, .unset, .unset, .unset] [(.int (v2 + (1 : Int32))), (.long (q0 + ((v2 + (1 : Int32)).toInt64))), (.ref b13)])) _
        refine XS.lloadN Y63.here hx rfl (hb hby at_211) rfl ?_
        refine XS.lload Y63.here hx rfl (hb hby at_212) rfl ?_
        exact k
      obtain ⟨_, _, ⟨T73, L73, k73, n73⟩, -, X73, ⟨Lc73, hQ73, l73, y73, z73⟩, st73⟩ := Jvm.LawKit.callS Y63 hx (y := (⟨"com/example/lean_throttle/leanthrottle/TimeRingDropOldestPinLaw", "u", "(IJJ)J"⟩ : MethodName)) hown (mvT hZ (hw _ (List.mem_of_getElem? (i := 18) rfl))) (mvT hZ (hw _ (List.mem_of_getElem? (i := 19) rfl))) (mvT hZ (hw _ (List.mem_of_getElem? (i := 20) rfl))) (mvT hZ (hw _ (List.mem_of_getElem? (i := 21) rfl))) (by decide) (backOf (W := 3) (rm4 l Z a0 hw [] (v2 + (1 : Int32)) q1 q2  h63 n0 (Nat.le_trans Z0 K63.1) ) hZ (hw _ (List.mem_of_getElem? (i := 21) rfl)) (hw _ (List.mem_of_getElem? (i := 20) rfl)) (by decide) (by decide)) (g := (mkF m 214 #[.val (.long q0), .second, .val (.long q1), .second, .val (.long q2), .second, .val (.int p3), .val (.int v2), .val (.int v7), .val (.int v12), .val (.ref b13), .unset, .unset, .unset, .unset, .unset, .unset] [(.long q2), (.long q1), (.int (v2 + (1 : Int32))), (.long (q0 + ((v2 + (1 : Int32)).toInt64))), (.ref b13)])) rfl (by rw [hml]; rfl) (argsL := [(.int (v2 + (1 : Int32))), (.long q1), (.long q2)]) (rest := [(.long (q0 + ((v2 + (1 : Int32)).toInt64))), (.ref b13)]) (lenOf pd__28_IJJ_29_J rfl) rfl (by show 2 * 0 + _ ≤ _; exact Nat.le_of_eq rfl) (hb hby at_214) (fun _ _ => ⟨rfl, e63, (by decide : 13 + 0 ≤ _), (by decide : 47 + 0 ≤ _)⟩)
      dsimp only [Pt.U, Pt.locs, Pt.cells, Pt.slots] at X73 l73 y73 z73 st73 hQ73
      subst l73 y73 z73
      obtain ⟨rfl, N73q, e73⟩ := hQ73
      have N73 := Fr.app N63 N73q
      obtain ⟨M73, Y73, N73⟩ : ∃ M, Stand p l e room_1 s m #[(.long q0), (.long q1), (.long q2), (.int p3)] below meth c T73 M 13 47 ∧ Fr n0 M := ⟨_, X73, N73⟩
      have pre73 : Lead p e below G (T73.setTop (mkF m 217 #[.val (.long q0), .second, .val (.long q1), .second, .val (.long q2), .second, .val (.int p3), .val (.int v2), .val (.int v7), .val (.int v12), .val (.ref b13), .unset, .unset, .unset, .unset, .unset, .unset] [(.long (F4 (v2 + (1 : Int32)) q1 q2)), (.long (q0 + ((v2 + (1 : Int32)).toInt64))), (.ref b13)])) := fun t k => pre72 t (st73 _ k)
      have pre74 : Lead p e below G (T73.setTop (mkF m 218 #[.val (.long q0), .second, .val (.long q1), .second, .val (.long q2), .second, .val (.int p3), .val (.int v2), .val (.int v7), .val (.int v12), .val (.ref b13), .unset, .unset, .unset, .unset, .unset, .unset] [(.int (4 : Int32)), (.long (F4 (v2 + (1 : Int32)) q1 q2)), (.long (q0 + ((v2 + (1 : Int32)).toInt64))), (.ref b13)])) := fun t k => by
        refine pre73 t ?_
        show Steps p.tables e below (T73.setTop (mkF m 217 #[.val (.long q0), .second, .val (.long q1), .second, .val (.long q2), .second, .val (.int p3), .val (.int v2), .val (.int v7), .val (.int v12), .val (.ref b13), .unset, .unset, .unset, .unset, .unset, .unset] [(.long (F4 (v2 + (1 : Int32)) q1 q2)), (.long (q0 + ((v2 + (1 : Int32)).toInt64))), (.ref b13)])) _
        refine XS.iconst Y73.here hx rfl (hb hby at_217) ?_
        show Steps p.tables e below (T73.setTop (mkF m 218 #[.val (.long q0), .second, .val (.long q1), .second, .val (.long q2), .second, .val (.int p3), .val (.int v2), .val (.int v7), .val (.int v12), .val (.ref b13), .unset, .unset, .unset, .unset, .unset, .unset] [(.int (4 : Int32)), (.long (F4 (v2 + (1 : Int32)) q1 q2)), (.long (q0 + ((v2 + (1 : Int32)).toInt64))), (.ref b13)])) _
        exact k
      obtain ⟨cq75, kq75, q75a, q75b, q75c⟩ := isOf hZ e73 f63_0
      obtain ⟨_, _, ⟨T75, L75, k75, n75⟩, -, X75, ⟨Lc75, hQ75, l75, y75, z75⟩, st75⟩ := Y73.virtualBack hx (y := (⟨"com/example/lean_throttle/leanthrottle/TimeRing", "add", "(JJI)V"⟩ : MethodName)) (z := (⟨"com/example/lean_throttle/leanthrottle/TimeRing", "add", "(JJI)V"⟩ : MethodName)) hown (mvT hZ (hw _ (List.mem_of_getElem? (i := 23) rfl))) (mvT hZ (hw _ (List.mem_of_getElem? (i := 24) rfl))) (notFace_of_selects (args := #[]) (mvT hZ (hw _ (List.mem_of_getElem? (i := 26) rfl)))) (mvT hZ (hw _ (List.mem_of_getElem? (i := 26) rfl))) (mvT hZ (hw _ (List.mem_of_getElem? (i := 25) rfl))) (by decide) (backOf (W := 0) (rm5 l Z a0 hw [] b13 (q0 + ((v2 + (1 : Int32)).toInt64)) (F4 (v2 + (1 : Int32)) q1 q2) ra_63 rA_63 rf_63 rs_63 rl_63 rb_63 r1_63 r2_63 h63 n0 (Nat.le_trans Z0 K63.1) f63_0 f63_1 f63_2 f63_3 f63_4 f63_5 f63_6 f63_7 w63_2 w63_3 w63_4 (show 0 ≤ rf_63.toInt ∧ rf_63.toInt < rl_63.toInt from (own_hfi q63_0)) (show 0 ≤ rs_63.toInt ∧ rs_63.toInt ≤ rl_63.toInt from (own_hsz q63_0)) (show rl_63.toInt ≤ 4 from (own_hl4 q63_0)) (show rl_63.toInt = 1 ∨ rl_63.toInt = 2 ∨ rl_63.toInt = 4 from (own_hlen q63_0)) (show rs_63.toInt < 4 from (own_hlt q63_0 (own_len3_2 hnpq (own_lend hnpq q56_1) q63_1 (own_c2 hj195_70)))) ge13 w63_0 w63_1) hZ (hw _ (List.mem_of_getElem? (i := 27) rfl)) (hw _ (List.mem_of_getElem? (i := 6) rfl)) (by decide) (by decide)) q75a q75c (g := (mkF m 218 #[.val (.long q0), .second, .val (.long q1), .second, .val (.long q2), .second, .val (.int p3), .val (.int v2), .val (.int v7), .val (.int v12), .val (.ref b13), .unset, .unset, .unset, .unset, .unset, .unset] [(.int (4 : Int32)), (.long (F4 (v2 + (1 : Int32)) q1 q2)), (.long (q0 + ((v2 + (1 : Int32)).toInt64))), (.ref b13)])) rfl (by rw [hml]; rfl) (Steps.refl _) (argsL := [(.long (q0 + ((v2 + (1 : Int32)).toInt64))), (.long (F4 (v2 + (1 : Int32)) q1 q2)), (.int (4 : Int32))]) (rest := []) (lenOf pd__28_JJI_29_V rfl) rfl (by show 2 * 0 + _ ≤ _; exact Nat.le_of_eq rfl) (hb hby at_218) (fun _ _ => ⟨rfl, e73, (by decide : 13 + 2 ≤ _), (by decide : 47 + 8 ≤ _)⟩)
      dsimp only [Pt.U, Pt.locs, Pt.cells, Pt.slots] at X75 l75 y75 z75 st75 hQ75
      subst l75 y75 z75
      obtain ⟨n1_75, n2_75, f2_75, l2_75, g1_75, g2_75, rfl, N75q, K75c, c75_0, c75_1, c75_2, c75_3, c75_4, c75_5, c75_6, c75_7, c75_8, c75_9, c75_10, c75_11, c75_12, c75_13⟩ := hQ75
      have N75 := Fr.app N73 N75q
      have K75 : h0.size ≤ T75.heap.size ∧ True := ⟨Nat.le_trans K63.1 K75c.1, trivial⟩
      obtain ⟨M75, Y75, N75⟩ : ∃ M, Stand p l e room_1 s m #[(.long q0), (.long q1), (.long q2), (.int p3)] below meth c T75 M 15 55 ∧ Fr n0 M := ⟨_, X75, N75⟩
      have pre75 : Lead p e below G (T75.setTop (mkF m 221 #[.val (.long q0), .second, .val (.long q1), .second, .val (.long q2), .second, .val (.int p3), .val (.int v2), .val (.int v7), .val (.int v12), .val (.ref b13), .unset, .unset, .unset, .unset, .unset, .unset] [])) := fun t k => pre74 t (st75.trans k)
      exact ⟨n1_75, n2_75, f2_75, (rs_63 + (1 : Int32)), l2_75, rb_63, g1_75, g2_75, (hi_63 + 1), T75, _, _, (own_add q63_0 (own_len3_2 hnpq (own_lend hnpq q56_1) q63_1 (own_c2 hj195_70)) c75_13 (own_t3 q0 (own_x2 hnpq q63_1 (own_c2 hj195_70))) (own_u3 q1 q2 (own_x2 hnpq q63_1 (own_c2 hj195_70)))), (own_m23_2 q63_1 (own_c2 hj195_70)), Y75.mono (by decide) (by decide), rfl, N75, K75, c75_0, c75_1, c75_2, c75_3, c75_4, c75_5, c75_6, c75_7, c75_8, c75_9, c75_10, c75_11, c75_12, pre75⟩
  have pre76 : Lead p e below G (T70.setTop (mkF m 224 #[.val (.long q0), .second, .val (.long q1), .second, .val (.long q2), .second, .val (.int p3), .val (.int v2), .val (.int v7), .val (.int v12), .val (.ref b13), .unset, .unset, .unset, .unset, .unset, .unset] [(.int (3 : Int32)), (.int v12)])) := fun t k => by
    refine pre70 t ?_
    show Steps p.tables e below (T70.setTop (mkF m 221 #[.val (.long q0), .second, .val (.long q1), .second, .val (.long q2), .second, .val (.int p3), .val (.int v2), .val (.int v7), .val (.int v12), .val (.ref b13), .unset, .unset, .unset, .unset, .unset, .unset] [])) _
    refine XS.iload Y70.here hx rfl (hb hby at_221) rfl ?_
    refine XS.iconst Y70.here hx rfl (hb hby at_223) ?_
    exact k
  obtain ⟨ra_77, rA_77, rf_77, rs_77, rl_77, rb_77, r1_77, r2_77, hi_77, T77, M77, h77, q77_0, q77_1, Y77, e77, N77, K77, f77_0, f77_1, f77_2, f77_3, f77_4, f77_5, f77_6, f77_7, w77_0, w77_1, w77_2, w77_3, w77_4, pre77⟩ : ∃ (ra_77 : Addr) (rA_77 : Addr) (rf_77 : Int32) (rs_77 : Int32) (rl_77 : Int32) (rb_77 : Int64) (r1_77 : Nat → Int64) (r2_77 : Nat → Int64) (hi_77 : Nat) (T77 : State) (M77 : List Loc) (h77 : Heap), (RR rf_77 rs_77 rl_77 r1_77 r2_77 rb_77 (ET q0) (EU q1 q2) lo_56 hi_77) ∧ ((hi_77 : Int) = v2.toInt + (if v12.toInt < 3 then v12.toInt else 3)) ∧ Stand p l e room_1 s m #[(.long q0), (.long q1), (.long q2), (.int p3)] below meth c T77 M77 17 63 ∧ T77.heap = h77 ∧ Fr n0 M77 ∧ (h0.size ≤ h77.size ∧ True) ∧ Exa Z h77 b13 "com/example/lean_throttle/leanthrottle/TimeRing" ∧ Fld Z h77 b13 "com/example/lean_throttle/leanthrottle/TimeRing" "times" "[J" (.ref ra_77) ∧ Fld Z h77 b13 "com/example/lean_throttle/leanthrottle/TimeRing" "totals" "[J" (.ref rA_77) ∧ Fld Z h77 b13 "com/example/lean_throttle/leanthrottle/TimeRing" "first" "I" (.int rf_77) ∧ Fld Z h77 b13 "com/example/lean_throttle/leanthrottle/TimeRing" "size" "I" (.int rs_77) ∧ Fld Z h77 b13 "com/example/lean_throttle/leanthrottle/TimeRing" "totalBefore" "J" (.long rb_77) ∧ JV Value.long Z h77 ra_77 .long rl_77 r1_77 ∧ JV Value.long Z h77 rA_77 .long rl_77 r2_77 ∧ n0 ≤ ra_77 ∧ n0 ≤ rA_77 ∧ b13 ≠ ra_77 ∧ b13 ≠ rA_77 ∧ ra_77 ≠ rA_77 ∧ Lead p e below G (T77.setTop (mkF m 250 #[.val (.long q0), .second, .val (.long q1), .second, .val (.long q2), .second, .val (.int p3), .val (.int v2), .val (.int v7), .val (.int v12), .val (.ref b13), .unset, .unset, .unset, .unset, .unset, .unset] [])) := by
    by_cases hj224_77 : v12 < (3 : Int32)
    · have pre78 : Lead p e below G (T70.setTop (mkF m 250 #[.val (.long q0), .second, .val (.long q1), .second, .val (.long q2), .second, .val (.int p3), .val (.int v2), .val (.int v7), .val (.int v12), .val (.ref b13), .unset, .unset, .unset, .unset, .unset, .unset] [])) := fun t k => by
        refine pre76 t ?_
        show Steps p.tables e below (T70.setTop (mkF m 224 #[.val (.long q0), .second, .val (.long q1), .second, .val (.long q2), .second, .val (.int p3), .val (.int v2), .val (.int v7), .val (.int v12), .val (.ref b13), .unset, .unset, .unset, .unset, .unset, .unset] [(.int (3 : Int32)), (.int v12)])) _
        refine XS.icmpYes Y70.here hx rfl (pc0 := 224) (pc' := 250) rfl (hb hby at_224) rfl (tlt hj224_77).1 (by decide) (by decide) ?_
        show Steps p.tables e below (T70.setTop (mkF m 250 #[.val (.long q0), .second, .val (.long q1), .second, .val (.long q2), .second, .val (.int p3), .val (.int v2), .val (.int v7), .val (.int v12), .val (.ref b13), .unset, .unset, .unset, .unset, .unset, .unset] [])) _
        exact k
      exact ⟨ra_70, rA_70, rf_70, rs_70, rl_70, rb_70, r1_70, r2_70, hi_70, T70, _, _, q70_0, (own_m13_3 q70_1 (own_c3' hj224_77)), Y70.mono (by decide) (by decide), e70, N70, K70, f70_0, f70_1, f70_2, f70_3, f70_4, f70_5, f70_6, f70_7, w70_0, w70_1, w70_2, w70_3, w70_4, pre78⟩
    · have pre79 : Lead p e below G (T70.setTop (mkF m 243 #[.val (.long q0), .second, .val (.long q1), .second, .val (.long q2), .second, .val (.int p3), .val (.int v2), .val (.int v7), .val (.int v12), .val (.ref b13), .unset, .unset, .unset, .unset, .unset, .unset] [(.long q2), (.long q1), (.int (v2 + (2 : Int32))), (.long (q0 + ((v2 + (2 : Int32)).toInt64))), (.ref b13)])) := fun t k => by
        refine pre76 t ?_
        show Steps p.tables e below (T70.setTop (mkF m 224 #[.val (.long q0), .second, .val (.long q1), .second, .val (.long q2), .second, .val (.int p3), .val (.int v2), .val (.int v7), .val (.int v12), .val (.ref b13), .unset, .unset, .unset, .unset, .unset, .unset] [(.int (3 : Int32)), (.int v12)])) _
        refine XS.icmpNo Y70.here hx rfl (hb hby at_224) rfl (flt hj224_77).1 ?_
        refine XS.aload Y70.here hx rfl (hb hby at_227) rfl rfl ?_
        refine XS.lloadN Y70.here hx rfl (hb hby at_229) rfl ?_
        show Steps p.tables e below (T70.setTop (mkF m 230 #[.val (.long q0), .second, .val (.long q1), .second, .val (.long q2), .second, .val (.int p3), .val (.int v2), .val (.int v7), .val (.int v12), .val (.ref b13), .unset, .unset, .unset, .unset, .unset, .unset] [(.long q0), (.ref b13)])) _
        refine XS.iload Y70.here hx rfl (hb hby at_230) rfl ?_
        refine XS.iconst Y70.here hx rfl (hb hby at_232) ?_
        refine XS.iadd Y70.here hx rfl (hb hby at_233) rfl ?_
        show Steps p.tables e below (T70.setTop (mkF m 234 #[.val (.long q0), .second, .val (.long q1), .second, .val (.long q2), .second, .val (.int p3), .val (.int v2), .val (.int v7), .val (.int v12), .val (.ref b13), .unset, .unset, .unset, .unset, .unset, .unset] [(.int (v2 + (2 : Int32))), (.long q0), (.ref b13)])) _
        refine XS.i2l Y70.here hx rfl (hb hby at_234) rfl ?_
        refine XS.ladd Y70.here hx rfl (hb hby at_235) rfl ?_
        refine XS.iload Y70.here hx rfl (hb hby at_236) rfl ?_
        show Steps p.tables e below (T70.setTop (mkF m 238 #[.val (.long q0), .second, .val (.long q1), .second, .val (.long q2), .second, .val (.int p3), .val (.int v2), .val (.int v7), .val (.int v12), .val (.ref b13), .unset, .unset, .unset, .unset, .unset, .unset] [(.int v2), (.long (q0 + ((v2 + (2 : Int32)).toInt64))), (.ref b13)])) _
        refine XS.iconst Y70.here hx rfl (hb hby at_238) ?_
        refine XS.iadd Y70.here hx rfl (hb hby at_239) rfl ?_
        refine XS.lloadN Y70.here hx rfl (hb hby at_240) rfl ?_
        show Steps p.tables e below (T70.setTop (mkF m 241 #[.val (.long q0), .second, .val (.long q1), .second, .val (.long q2), .second, .val (.int p3), .val (.int v2), .val (.int v7), .val (.int v12), .val (.ref b13), .unset, .unset, .unset, .unset, .unset, .unset] [(.long q1), (.int (v2 + (2 : Int32))), (.long (q0 + ((v2 + (2 : Int32)).toInt64))), (.ref b13)])) _
        refine XS.lload Y70.here hx rfl (hb hby at_241) rfl ?_
        exact k
      obtain ⟨_, _, ⟨T80, L80, k80, n80⟩, -, X80, ⟨Lc80, hQ80, l80, y80, z80⟩, st80⟩ := Jvm.LawKit.callS Y70 hx (y := (⟨"com/example/lean_throttle/leanthrottle/TimeRingDropOldestPinLaw", "u", "(IJJ)J"⟩ : MethodName)) hown (mvT hZ (hw _ (List.mem_of_getElem? (i := 18) rfl))) (mvT hZ (hw _ (List.mem_of_getElem? (i := 19) rfl))) (mvT hZ (hw _ (List.mem_of_getElem? (i := 20) rfl))) (mvT hZ (hw _ (List.mem_of_getElem? (i := 21) rfl))) (by decide) (backOf (W := 3) (rm4 l Z a0 hw [] (v2 + (2 : Int32)) q1 q2  h70 n0 (Nat.le_trans Z0 K70.1) ) hZ (hw _ (List.mem_of_getElem? (i := 21) rfl)) (hw _ (List.mem_of_getElem? (i := 20) rfl)) (by decide) (by decide)) (g := (mkF m 243 #[.val (.long q0), .second, .val (.long q1), .second, .val (.long q2), .second, .val (.int p3), .val (.int v2), .val (.int v7), .val (.int v12), .val (.ref b13), .unset, .unset, .unset, .unset, .unset, .unset] [(.long q2), (.long q1), (.int (v2 + (2 : Int32))), (.long (q0 + ((v2 + (2 : Int32)).toInt64))), (.ref b13)])) rfl (by rw [hml]; rfl) (argsL := [(.int (v2 + (2 : Int32))), (.long q1), (.long q2)]) (rest := [(.long (q0 + ((v2 + (2 : Int32)).toInt64))), (.ref b13)]) (lenOf pd__28_IJJ_29_J rfl) rfl (by show 2 * 0 + _ ≤ _; exact Nat.le_of_eq rfl) (hb hby at_243) (fun _ _ => ⟨rfl, e70, (by decide : 15 + 0 ≤ _), (by decide : 55 + 0 ≤ _)⟩)
      dsimp only [Pt.U, Pt.locs, Pt.cells, Pt.slots] at X80 l80 y80 z80 st80 hQ80
      subst l80 y80 z80
      obtain ⟨rfl, N80q, e80⟩ := hQ80
      have N80 := Fr.app N70 N80q
      obtain ⟨M80, Y80, N80⟩ : ∃ M, Stand p l e room_1 s m #[(.long q0), (.long q1), (.long q2), (.int p3)] below meth c T80 M 15 55 ∧ Fr n0 M := ⟨_, X80, N80⟩
      have pre80 : Lead p e below G (T80.setTop (mkF m 246 #[.val (.long q0), .second, .val (.long q1), .second, .val (.long q2), .second, .val (.int p3), .val (.int v2), .val (.int v7), .val (.int v12), .val (.ref b13), .unset, .unset, .unset, .unset, .unset, .unset] [(.long (F4 (v2 + (2 : Int32)) q1 q2)), (.long (q0 + ((v2 + (2 : Int32)).toInt64))), (.ref b13)])) := fun t k => pre79 t (st80 _ k)
      have pre81 : Lead p e below G (T80.setTop (mkF m 247 #[.val (.long q0), .second, .val (.long q1), .second, .val (.long q2), .second, .val (.int p3), .val (.int v2), .val (.int v7), .val (.int v12), .val (.ref b13), .unset, .unset, .unset, .unset, .unset, .unset] [(.int (4 : Int32)), (.long (F4 (v2 + (2 : Int32)) q1 q2)), (.long (q0 + ((v2 + (2 : Int32)).toInt64))), (.ref b13)])) := fun t k => by
        refine pre80 t ?_
        show Steps p.tables e below (T80.setTop (mkF m 246 #[.val (.long q0), .second, .val (.long q1), .second, .val (.long q2), .second, .val (.int p3), .val (.int v2), .val (.int v7), .val (.int v12), .val (.ref b13), .unset, .unset, .unset, .unset, .unset, .unset] [(.long (F4 (v2 + (2 : Int32)) q1 q2)), (.long (q0 + ((v2 + (2 : Int32)).toInt64))), (.ref b13)])) _
        refine XS.iconst Y80.here hx rfl (hb hby at_246) ?_
        exact k
      obtain ⟨cq82, kq82, q82a, q82b, q82c⟩ := isOf hZ e80 f70_0
      obtain ⟨_, _, ⟨T82, L82, k82, n82⟩, -, X82, ⟨Lc82, hQ82, l82, y82, z82⟩, st82⟩ := Y80.virtualBack hx (y := (⟨"com/example/lean_throttle/leanthrottle/TimeRing", "add", "(JJI)V"⟩ : MethodName)) (z := (⟨"com/example/lean_throttle/leanthrottle/TimeRing", "add", "(JJI)V"⟩ : MethodName)) hown (mvT hZ (hw _ (List.mem_of_getElem? (i := 23) rfl))) (mvT hZ (hw _ (List.mem_of_getElem? (i := 24) rfl))) (notFace_of_selects (args := #[]) (mvT hZ (hw _ (List.mem_of_getElem? (i := 26) rfl)))) (mvT hZ (hw _ (List.mem_of_getElem? (i := 26) rfl))) (mvT hZ (hw _ (List.mem_of_getElem? (i := 25) rfl))) (by decide) (backOf (W := 0) (rm5 l Z a0 hw [] b13 (q0 + ((v2 + (2 : Int32)).toInt64)) (F4 (v2 + (2 : Int32)) q1 q2) ra_70 rA_70 rf_70 rs_70 rl_70 rb_70 r1_70 r2_70 h70 n0 (Nat.le_trans Z0 K70.1) f70_0 f70_1 f70_2 f70_3 f70_4 f70_5 f70_6 f70_7 w70_2 w70_3 w70_4 (show 0 ≤ rf_70.toInt ∧ rf_70.toInt < rl_70.toInt from (own_hfi q70_0)) (show 0 ≤ rs_70.toInt ∧ rs_70.toInt ≤ rl_70.toInt from (own_hsz q70_0)) (show rl_70.toInt ≤ 4 from (own_hl4 q70_0)) (show rl_70.toInt = 1 ∨ rl_70.toInt = 2 ∨ rl_70.toInt = 4 from (own_hlen q70_0)) (show rs_70.toInt < 4 from (own_hlt q70_0 (own_len3_3 hnpq (own_lend hnpq q56_1) q70_1 (own_c3 hj224_77)))) ge13 w70_0 w70_1) hZ (hw _ (List.mem_of_getElem? (i := 27) rfl)) (hw _ (List.mem_of_getElem? (i := 6) rfl)) (by decide) (by decide)) q82a q82c (g := (mkF m 247 #[.val (.long q0), .second, .val (.long q1), .second, .val (.long q2), .second, .val (.int p3), .val (.int v2), .val (.int v7), .val (.int v12), .val (.ref b13), .unset, .unset, .unset, .unset, .unset, .unset] [(.int (4 : Int32)), (.long (F4 (v2 + (2 : Int32)) q1 q2)), (.long (q0 + ((v2 + (2 : Int32)).toInt64))), (.ref b13)])) rfl (by rw [hml]; rfl) (Steps.refl _) (argsL := [(.long (q0 + ((v2 + (2 : Int32)).toInt64))), (.long (F4 (v2 + (2 : Int32)) q1 q2)), (.int (4 : Int32))]) (rest := []) (lenOf pd__28_JJI_29_V rfl) rfl (by show 2 * 0 + _ ≤ _; exact Nat.le_of_eq rfl) (hb hby at_247) (fun _ _ => ⟨rfl, e80, (by decide : 15 + 2 ≤ _), (by decide : 55 + 8 ≤ _)⟩)
      dsimp only [Pt.U, Pt.locs, Pt.cells, Pt.slots] at X82 l82 y82 z82 st82 hQ82
      subst l82 y82 z82
      obtain ⟨n1_82, n2_82, f2_82, l2_82, g1_82, g2_82, rfl, N82q, K82c, c82_0, c82_1, c82_2, c82_3, c82_4, c82_5, c82_6, c82_7, c82_8, c82_9, c82_10, c82_11, c82_12, c82_13⟩ := hQ82
      have N82 := Fr.app N80 N82q
      have K82 : h0.size ≤ T82.heap.size ∧ True := ⟨Nat.le_trans K70.1 K82c.1, trivial⟩
      obtain ⟨M82, Y82, N82⟩ : ∃ M, Stand p l e room_1 s m #[(.long q0), (.long q1), (.long q2), (.int p3)] below meth c T82 M 17 63 ∧ Fr n0 M := ⟨_, X82, N82⟩
      have pre82 : Lead p e below G (T82.setTop (mkF m 250 #[.val (.long q0), .second, .val (.long q1), .second, .val (.long q2), .second, .val (.int p3), .val (.int v2), .val (.int v7), .val (.int v12), .val (.ref b13), .unset, .unset, .unset, .unset, .unset, .unset] [])) := fun t k => pre81 t (st82.trans k)
      exact ⟨n1_82, n2_82, f2_82, (rs_70 + (1 : Int32)), l2_82, rb_70, g1_82, g2_82, (hi_70 + 1), T82, _, _, (own_add q70_0 (own_len3_3 hnpq (own_lend hnpq q56_1) q70_1 (own_c3 hj224_77)) c82_13 (own_t3 q0 (own_x3 hnpq q70_1 (own_c3 hj224_77))) (own_u3 q1 q2 (own_x3 hnpq q70_1 (own_c3 hj224_77)))), (own_m23_3 q70_1 (own_c3 hj224_77)), Y82.mono (by decide) (by decide), rfl, N82, K82, c82_0, c82_1, c82_2, c82_3, c82_4, c82_5, c82_6, c82_7, c82_8, c82_9, c82_10, c82_11, c82_12, pre82⟩
  have pre83 : Lead p e below G (T77.setTop (mkF m 252 #[.val (.long q0), .second, .val (.long q1), .second, .val (.long q2), .second, .val (.int p3), .val (.int v2), .val (.int v7), .val (.int v12), .val (.ref b13), .unset, .unset, .unset, .unset, .unset, .unset] [(.ref b13)])) := fun t k => by
    refine pre77 t ?_
    show Steps p.tables e below (T77.setTop (mkF m 250 #[.val (.long q0), .second, .val (.long q1), .second, .val (.long q2), .second, .val (.int p3), .val (.int v2), .val (.int v7), .val (.int v12), .val (.ref b13), .unset, .unset, .unset, .unset, .unset, .unset] [])) _
    refine XS.aload Y77.here hx rfl (hb hby at_250) rfl rfl ?_
    show Steps p.tables e below (T77.setTop (mkF m 252 #[.val (.long q0), .second, .val (.long q1), .second, .val (.long q2), .second, .val (.int p3), .val (.int v2), .val (.int v7), .val (.int v12), .val (.ref b13), .unset, .unset, .unset, .unset, .unset, .unset] [(.ref b13)])) _
    exact k
  obtain ⟨cq84, kq84, q84a, q84b, q84c⟩ := isOf hZ e77 f77_0
  obtain ⟨_, _, ⟨T84, L84, k84, n84⟩, -, X84, ⟨Lc84, hQ84, l84, y84, z84⟩, st84⟩ := Y77.virtualBack hx (y := (⟨"com/example/lean_throttle/leanthrottle/TimeRing", "dropOldest", "()V"⟩ : MethodName)) (z := (⟨"com/example/lean_throttle/leanthrottle/TimeRing", "dropOldest", "()V"⟩ : MethodName)) hown (mvT hZ (hw _ (List.mem_of_getElem? (i := 51) rfl))) (mvT hZ (hw _ (List.mem_of_getElem? (i := 52) rfl))) (notFace_of_selects (args := #[]) (mvT hZ (hw _ (List.mem_of_getElem? (i := 54) rfl)))) (mvT hZ (hw _ (List.mem_of_getElem? (i := 54) rfl))) (mvT hZ (hw _ (List.mem_of_getElem? (i := 53) rfl))) (by decide) (backOf (W := 0) (rm10 l Z a0 hw [] b13 ra_77 rA_77 rf_77 rs_77 rl_77 rb_77 r1_77 r2_77 h77 n0 (Nat.le_trans Z0 K77.1) f77_0 f77_1 f77_2 f77_3 f77_4 f77_5 f77_6 f77_7 w77_2 w77_3 w77_4 (show 0 ≤ rf_77.toInt ∧ rf_77.toInt < rl_77.toInt from (own_hfi q77_0)) ge13) hZ (hw _ (List.mem_of_getElem? (i := 55) rfl)) (hw _ (List.mem_of_getElem? (i := 6) rfl)) (by decide) (by decide)) q84a q84c (g := (mkF m 252 #[.val (.long q0), .second, .val (.long q1), .second, .val (.long q2), .second, .val (.int p3), .val (.int v2), .val (.int v7), .val (.int v12), .val (.ref b13), .unset, .unset, .unset, .unset, .unset, .unset] [(.ref b13)])) rfl (by rw [hml]; rfl) (Steps.refl _) (argsL := []) (rest := []) (lenOf pd__28__29_V rfl) rfl (by show 2 * 0 + _ ≤ _; exact Nat.le_of_eq rfl) (hb hby at_252) (fun _ _ => ⟨rfl, e77, (by decide : 17 + 0 ≤ _), (by decide : 63 + 0 ≤ _)⟩)
  dsimp only [Pt.U, Pt.locs, Pt.cells, Pt.slots] at X84 l84 y84 z84 st84 hQ84
  subst l84 y84 z84
  obtain ⟨rfl, N84q, K84c, c84_0, c84_1, c84_2, c84_3, c84_4, c84_5⟩ := hQ84
  have N84 := Fr.app N77 N84q
  have K84 : h0.size ≤ T84.heap.size ∧ True := ⟨Nat.le_trans K77.1 K84c.1, trivial⟩
  obtain ⟨M84, Y84, N84⟩ : ∃ M, Stand p l e room_1 s m #[(.long q0), (.long q1), (.long q2), (.int p3)] below meth c T84 M 17 63 ∧ Fr n0 M := ⟨_, X84, N84⟩
  have pre84 : Lead p e below G (T84.setTop (mkF m 255 #[.val (.long q0), .second, .val (.long q1), .second, .val (.long q2), .second, .val (.int p3), .val (.int v2), .val (.int v7), .val (.int v12), .val (.ref b13), .unset, .unset, .unset, .unset, .unset, .unset] [])) := fun t k => pre83 t (st84.trans k)
  have RL := own_drop q77_0 (own_dl2 hnpq (own_lend hnpq q56_1) q77_1)
  have pre85 : Lead p e below G (T84.setTop (mkF m 275 #[.val (.long q0), .second, .val (.long q1), .second, .val (.long q2), .second, .val (.int p3), .val (.int v2), .val (.int v7), .val (.int v12), .val (.ref b13), .val (.int (v7 + (1 : Int32))), .val (.int (v2 + v12)), .val (.int ((v2 + v12) - (v7 + (1 : Int32)))), .unset, .unset, .unset] [])) := fun t k => by
    refine pre84 t ?_
    show Steps p.tables e below (T84.setTop (mkF m 255 #[.val (.long q0), .second, .val (.long q1), .second, .val (.long q2), .second, .val (.int p3), .val (.int v2), .val (.int v7), .val (.int v12), .val (.ref b13), .unset, .unset, .unset, .unset, .unset, .unset] [])) _
    refine XS.iload Y84.here hx rfl (hb hby at_255) rfl ?_
    refine XS.iconst Y84.here hx rfl (hb hby at_257) ?_
    refine XS.iadd Y84.here hx rfl (hb hby at_258) rfl ?_
    show Steps p.tables e below (T84.setTop (mkF m 259 #[.val (.long q0), .second, .val (.long q1), .second, .val (.long q2), .second, .val (.int p3), .val (.int v2), .val (.int v7), .val (.int v12), .val (.ref b13), .unset, .unset, .unset, .unset, .unset, .unset] [(.int (v7 + (1 : Int32)))])) _
    refine XS.istore Y84.here hx rfl (hb hby at_259) rfl (l' := #[.val (.long q0), .second, .val (.long q1), .second, .val (.long q2), .second, .val (.int p3), .val (.int v2), .val (.int v7), .val (.int v12), .val (.ref b13), .val (.int (v7 + (1 : Int32))), .unset, .unset, .unset, .unset, .unset]) rfl ?_
    refine XS.iload Y84.here hx rfl (hb hby at_261) rfl ?_
    refine XS.iload Y84.here hx rfl (hb hby at_263) rfl ?_
    show Steps p.tables e below (T84.setTop (mkF m 265 #[.val (.long q0), .second, .val (.long q1), .second, .val (.long q2), .second, .val (.int p3), .val (.int v2), .val (.int v7), .val (.int v12), .val (.ref b13), .val (.int (v7 + (1 : Int32))), .unset, .unset, .unset, .unset, .unset] [(.int v12), (.int v2)])) _
    refine XS.iadd Y84.here hx rfl (hb hby at_265) rfl ?_
    refine XS.istore Y84.here hx rfl (hb hby at_266) rfl (l' := #[.val (.long q0), .second, .val (.long q1), .second, .val (.long q2), .second, .val (.int p3), .val (.int v2), .val (.int v7), .val (.int v12), .val (.ref b13), .val (.int (v7 + (1 : Int32))), .val (.int (v2 + v12)), .unset, .unset, .unset, .unset]) rfl ?_
    refine XS.iload Y84.here hx rfl (hb hby at_268) rfl ?_
    show Steps p.tables e below (T84.setTop (mkF m 270 #[.val (.long q0), .second, .val (.long q1), .second, .val (.long q2), .second, .val (.int p3), .val (.int v2), .val (.int v7), .val (.int v12), .val (.ref b13), .val (.int (v7 + (1 : Int32))), .val (.int (v2 + v12)), .unset, .unset, .unset, .unset] [(.int (v2 + v12))])) _
    refine XS.iload Y84.here hx rfl (hb hby at_270) rfl ?_
    refine XS.isub Y84.here hx rfl (hb hby at_272) rfl ?_
    refine XS.istore Y84.here hx rfl (hb hby at_273) rfl (l' := #[.val (.long q0), .second, .val (.long q1), .second, .val (.long q2), .second, .val (.int p3), .val (.int v2), .val (.int v7), .val (.int v12), .val (.ref b13), .val (.int (v7 + (1 : Int32))), .val (.int (v2 + v12)), .val (.int ((v2 + v12) - (v7 + (1 : Int32)))), .unset, .unset, .unset]) rfl ?_
    show Steps p.tables e below (T84.setTop (mkF m 275 #[.val (.long q0), .second, .val (.long q1), .second, .val (.long q2), .second, .val (.int p3), .val (.int v2), .val (.int v7), .val (.int v12), .val (.ref b13), .val (.int (v7 + (1 : Int32))), .val (.int (v2 + v12)), .val (.int ((v2 + v12) - (v7 + (1 : Int32)))), .unset, .unset, .unset] [])) _
    exact k
  obtain ⟨v86, hv86⟩ : ∃ z : Int32, z = ((v2 + v12) - (v7 + (1 : Int32))) := ⟨_, rfl⟩
  have pre86 : Lead p e below G (T84.setTop (mkF m 275 #[.val (.long q0), .second, .val (.long q1), .second, .val (.long q2), .second, .val (.int p3), .val (.int v2), .val (.int v7), .val (.int v12), .val (.ref b13), .val (.int (v7 + (1 : Int32))), .val (.int (v2 + v12)), .val (.int v86), .unset, .unset, .unset] [])) := by rw [hv86]; exact pre85
  have pre87 : Lead p e below G (T84.setTop (mkF m 283 #[.val (.long q0), .second, .val (.long q1), .second, .val (.long q2), .second, .val (.int p3), .val (.int v2), .val (.int v7), .val (.int v12), .val (.ref b13), .val (.int (v7 + (1 : Int32))), .val (.int (v2 + v12)), .val (.int v86), .unset, .unset, .unset] [(.long q2), (.long q1), (.int (v2 + v12)), (.int (v7 + (1 : Int32))), (.int (0 : Int32))])) := fun t k => by
    refine pre86 t ?_
    show Steps p.tables e below (T84.setTop (mkF m 275 #[.val (.long q0), .second, .val (.long q1), .second, .val (.long q2), .second, .val (.int p3), .val (.int v2), .val (.int v7), .val (.int v12), .val (.ref b13), .val (.int (v7 + (1 : Int32))), .val (.int (v2 + v12)), .val (.int v86), .unset, .unset, .unset] [])) _
    refine XS.iconst Y84.here hx rfl (hb hby at_275) ?_
    refine XS.iload Y84.here hx rfl (hb hby at_276) rfl ?_
    refine XS.iload Y84.here hx rfl (hb hby at_278) rfl ?_
    show Steps p.tables e below (T84.setTop (mkF m 280 #[.val (.long q0), .second, .val (.long q1), .second, .val (.long q2), .second, .val (.int p3), .val (.int v2), .val (.int v7), .val (.int v12), .val (.ref b13), .val (.int (v7 + (1 : Int32))), .val (.int (v2 + v12)), .val (.int v86), .unset, .unset, .unset] [(.int (v2 + v12)), (.int (v7 + (1 : Int32))), (.int (0 : Int32))])) _
    refine XS.lloadN Y84.here hx rfl (hb hby at_280) rfl ?_
    refine XS.lload Y84.here hx rfl (hb hby at_281) rfl ?_
    exact k
  obtain ⟨_, _, ⟨T88, L88, k88, n88⟩, -, X88, ⟨Lc88, hQ88, l88, y88, z88⟩, st88⟩ := Jvm.LawKit.callS Y84 hx (y := (⟨"com/example/lean_throttle/leanthrottle/TimeRingDropOldestPinLaw", "part", "(IIIJJ)J"⟩ : MethodName)) hown (mvT hZ (hw _ (List.mem_of_getElem? (i := 56) rfl))) (mvT hZ (hw _ (List.mem_of_getElem? (i := 57) rfl))) (mvT hZ (hw _ (List.mem_of_getElem? (i := 20) rfl))) (mvT hZ (hw _ (List.mem_of_getElem? (i := 58) rfl))) (by decide) (backOf (W := 0) (rm11 l Z a0 hw [] (0 : Int32) (v7 + (1 : Int32)) (v2 + v12) q1 q2  T84.heap n0 (Nat.le_trans Z0 K84.1) ) hZ (hw _ (List.mem_of_getElem? (i := 58) rfl)) (hw _ (List.mem_of_getElem? (i := 20) rfl)) (by decide) (by decide)) (g := (mkF m 283 #[.val (.long q0), .second, .val (.long q1), .second, .val (.long q2), .second, .val (.int p3), .val (.int v2), .val (.int v7), .val (.int v12), .val (.ref b13), .val (.int (v7 + (1 : Int32))), .val (.int (v2 + v12)), .val (.int v86), .unset, .unset, .unset] [(.long q2), (.long q1), (.int (v2 + v12)), (.int (v7 + (1 : Int32))), (.int (0 : Int32))])) rfl (by rw [hml]; rfl) (argsL := [(.int (0 : Int32)), (.int (v7 + (1 : Int32))), (.int (v2 + v12)), (.long q1), (.long q2)]) (rest := []) (lenOf pd__28_IIIJJ_29_J rfl) rfl (by show 2 * 0 + _ ≤ _; exact Nat.le_of_eq rfl) (hb hby at_283) (fun _ _ => ⟨rfl, rfl, (by decide : 17 + 0 ≤ _), (by decide : 63 + 0 ≤ _)⟩)
  dsimp only [Pt.U, Pt.locs, Pt.cells, Pt.slots] at X88 l88 y88 z88 st88 hQ88
  subst l88 y88 z88
  obtain ⟨rfl, N88q, e88⟩ := hQ88
  have N88 := Fr.app N84 N88q
  obtain ⟨M88, Y88, N88⟩ : ∃ M, Stand p l e room_1 s m #[(.long q0), (.long q1), (.long q2), (.int p3)] below meth c T88 M 17 63 ∧ Fr n0 M := ⟨_, X88, N88⟩
  have pre88 : Lead p e below G (T88.setTop (mkF m 286 #[.val (.long q0), .second, .val (.long q1), .second, .val (.long q2), .second, .val (.int p3), .val (.int v2), .val (.int v7), .val (.int v12), .val (.ref b13), .val (.int (v7 + (1 : Int32))), .val (.int (v2 + v12)), .val (.int v86), .unset, .unset, .unset] [(.long (F11 (0 : Int32) (v7 + (1 : Int32)) (v2 + v12) q1 q2))])) := fun t k => pre87 t (st88 _ k)
  have pre89 : Lead p e below G (T88.setTop (mkF m 294 #[.val (.long q0), .second, .val (.long q1), .second, .val (.long q2), .second, .val (.int p3), .val (.int v2), .val (.int v7), .val (.int v12), .val (.ref b13), .val (.int (v7 + (1 : Int32))), .val (.int (v2 + v12)), .val (.int v86), .unset, .unset, .unset] [(.long q2), (.long q1), (.int (v2 + v12)), (.int (v7 + (1 : Int32))), (.int (1 : Int32)), (.long (F11 (0 : Int32) (v7 + (1 : Int32)) (v2 + v12) q1 q2))])) := fun t k => by
    refine pre88 t ?_
    show Steps p.tables e below (T88.setTop (mkF m 286 #[.val (.long q0), .second, .val (.long q1), .second, .val (.long q2), .second, .val (.int p3), .val (.int v2), .val (.int v7), .val (.int v12), .val (.ref b13), .val (.int (v7 + (1 : Int32))), .val (.int (v2 + v12)), .val (.int v86), .unset, .unset, .unset] [(.long (F11 (0 : Int32) (v7 + (1 : Int32)) (v2 + v12) q1 q2))])) _
    refine XS.iconst Y88.here hx rfl (hb hby at_286) ?_
    show Steps p.tables e below (T88.setTop (mkF m 287 #[.val (.long q0), .second, .val (.long q1), .second, .val (.long q2), .second, .val (.int p3), .val (.int v2), .val (.int v7), .val (.int v12), .val (.ref b13), .val (.int (v7 + (1 : Int32))), .val (.int (v2 + v12)), .val (.int v86), .unset, .unset, .unset] [(.int (1 : Int32)), (.long (F11 (0 : Int32) (v7 + (1 : Int32)) (v2 + v12) q1 q2))])) _
    refine XS.iload Y88.here hx rfl (hb hby at_287) rfl ?_
    refine XS.iload Y88.here hx rfl (hb hby at_289) rfl ?_
    refine XS.lloadN Y88.here hx rfl (hb hby at_291) rfl ?_
    show Steps p.tables e below (T88.setTop (mkF m 292 #[.val (.long q0), .second, .val (.long q1), .second, .val (.long q2), .second, .val (.int p3), .val (.int v2), .val (.int v7), .val (.int v12), .val (.ref b13), .val (.int (v7 + (1 : Int32))), .val (.int (v2 + v12)), .val (.int v86), .unset, .unset, .unset] [(.long q1), (.int (v2 + v12)), (.int (v7 + (1 : Int32))), (.int (1 : Int32)), (.long (F11 (0 : Int32) (v7 + (1 : Int32)) (v2 + v12) q1 q2))])) _
    refine XS.lload Y88.here hx rfl (hb hby at_292) rfl ?_
    exact k
  obtain ⟨v90, hv90⟩ : ∃ z : Int64, z = (F11 (0 : Int32) (v7 + (1 : Int32)) (v2 + v12) q1 q2) := ⟨_, rfl⟩
  have pre90 : Lead p e below G (T88.setTop (mkF m 294 #[.val (.long q0), .second, .val (.long q1), .second, .val (.long q2), .second, .val (.int p3), .val (.int v2), .val (.int v7), .val (.int v12), .val (.ref b13), .val (.int (v7 + (1 : Int32))), .val (.int (v2 + v12)), .val (.int v86), .unset, .unset, .unset] [(.long q2), (.long q1), (.int (v2 + v12)), (.int (v7 + (1 : Int32))), (.int (1 : Int32)), (.long v90)])) := by rw [hv90]; exact pre89
  obtain ⟨_, _, ⟨T91, L91, k91, n91⟩, -, X91, ⟨Lc91, hQ91, l91, y91, z91⟩, st91⟩ := Jvm.LawKit.callS Y88 hx (y := (⟨"com/example/lean_throttle/leanthrottle/TimeRingDropOldestPinLaw", "part", "(IIIJJ)J"⟩ : MethodName)) hown (mvT hZ (hw _ (List.mem_of_getElem? (i := 56) rfl))) (mvT hZ (hw _ (List.mem_of_getElem? (i := 57) rfl))) (mvT hZ (hw _ (List.mem_of_getElem? (i := 20) rfl))) (mvT hZ (hw _ (List.mem_of_getElem? (i := 58) rfl))) (by decide) (backOf (W := 2) (rm11 l Z a0 hw [] (1 : Int32) (v7 + (1 : Int32)) (v2 + v12) q1 q2  T84.heap n0 (Nat.le_trans Z0 K84.1) ) hZ (hw _ (List.mem_of_getElem? (i := 58) rfl)) (hw _ (List.mem_of_getElem? (i := 20) rfl)) (by decide) (by decide)) (g := (mkF m 294 #[.val (.long q0), .second, .val (.long q1), .second, .val (.long q2), .second, .val (.int p3), .val (.int v2), .val (.int v7), .val (.int v12), .val (.ref b13), .val (.int (v7 + (1 : Int32))), .val (.int (v2 + v12)), .val (.int v86), .unset, .unset, .unset] [(.long q2), (.long q1), (.int (v2 + v12)), (.int (v7 + (1 : Int32))), (.int (1 : Int32)), (.long v90)])) rfl (by rw [hml]; rfl) (argsL := [(.int (1 : Int32)), (.int (v7 + (1 : Int32))), (.int (v2 + v12)), (.long q1), (.long q2)]) (rest := [(.long v90)]) (lenOf pd__28_IIIJJ_29_J rfl) rfl (by show 2 * 0 + _ ≤ _; exact Nat.le_of_eq rfl) (hb hby at_294) (fun _ _ => ⟨rfl, e88, (by decide : 17 + 0 ≤ _), (by decide : 63 + 0 ≤ _)⟩)
  dsimp only [Pt.U, Pt.locs, Pt.cells, Pt.slots] at X91 l91 y91 z91 st91 hQ91
  subst l91 y91 z91
  obtain ⟨rfl, N91q, e91⟩ := hQ91
  have N91 := Fr.app N88 N91q
  obtain ⟨M91, Y91, N91⟩ : ∃ M, Stand p l e room_1 s m #[(.long q0), (.long q1), (.long q2), (.int p3)] below meth c T91 M 17 63 ∧ Fr n0 M := ⟨_, X91, N91⟩
  have pre91 : Lead p e below G (T91.setTop (mkF m 297 #[.val (.long q0), .second, .val (.long q1), .second, .val (.long q2), .second, .val (.int p3), .val (.int v2), .val (.int v7), .val (.int v12), .val (.ref b13), .val (.int (v7 + (1 : Int32))), .val (.int (v2 + v12)), .val (.int v86), .unset, .unset, .unset] [(.long (F11 (1 : Int32) (v7 + (1 : Int32)) (v2 + v12) q1 q2)), (.long v90)])) := fun t k => pre90 t (st91 _ k)
  have pre92 : Lead p e below G (T91.setTop (mkF m 306 #[.val (.long q0), .second, .val (.long q1), .second, .val (.long q2), .second, .val (.int p3), .val (.int v2), .val (.int v7), .val (.int v12), .val (.ref b13), .val (.int (v7 + (1 : Int32))), .val (.int (v2 + v12)), .val (.int v86), .unset, .unset, .unset] [(.long q2), (.long q1), (.int (v2 + v12)), (.int (v7 + (1 : Int32))), (.int (2 : Int32)), (.long (v90 + (F11 (1 : Int32) (v7 + (1 : Int32)) (v2 + v12) q1 q2)))])) := fun t k => by
    refine pre91 t ?_
    show Steps p.tables e below (T91.setTop (mkF m 297 #[.val (.long q0), .second, .val (.long q1), .second, .val (.long q2), .second, .val (.int p3), .val (.int v2), .val (.int v7), .val (.int v12), .val (.ref b13), .val (.int (v7 + (1 : Int32))), .val (.int (v2 + v12)), .val (.int v86), .unset, .unset, .unset] [(.long (F11 (1 : Int32) (v7 + (1 : Int32)) (v2 + v12) q1 q2)), (.long v90)])) _
    refine XS.ladd Y91.here hx rfl (hb hby at_297) rfl ?_
    refine XS.iconst Y91.here hx rfl (hb hby at_298) ?_
    show Steps p.tables e below (T91.setTop (mkF m 299 #[.val (.long q0), .second, .val (.long q1), .second, .val (.long q2), .second, .val (.int p3), .val (.int v2), .val (.int v7), .val (.int v12), .val (.ref b13), .val (.int (v7 + (1 : Int32))), .val (.int (v2 + v12)), .val (.int v86), .unset, .unset, .unset] [(.int (2 : Int32)), (.long (v90 + (F11 (1 : Int32) (v7 + (1 : Int32)) (v2 + v12) q1 q2)))])) _
    refine XS.iload Y91.here hx rfl (hb hby at_299) rfl ?_
    refine XS.iload Y91.here hx rfl (hb hby at_301) rfl ?_
    refine XS.lloadN Y91.here hx rfl (hb hby at_303) rfl ?_
    show Steps p.tables e below (T91.setTop (mkF m 304 #[.val (.long q0), .second, .val (.long q1), .second, .val (.long q2), .second, .val (.int p3), .val (.int v2), .val (.int v7), .val (.int v12), .val (.ref b13), .val (.int (v7 + (1 : Int32))), .val (.int (v2 + v12)), .val (.int v86), .unset, .unset, .unset] [(.long q1), (.int (v2 + v12)), (.int (v7 + (1 : Int32))), (.int (2 : Int32)), (.long (v90 + (F11 (1 : Int32) (v7 + (1 : Int32)) (v2 + v12) q1 q2)))])) _
    refine XS.lload Y91.here hx rfl (hb hby at_304) rfl ?_
    exact k
  obtain ⟨v93, hv93⟩ : ∃ z : Int64, z = (v90 + (F11 (1 : Int32) (v7 + (1 : Int32)) (v2 + v12) q1 q2)) := ⟨_, rfl⟩
  have pre93 : Lead p e below G (T91.setTop (mkF m 306 #[.val (.long q0), .second, .val (.long q1), .second, .val (.long q2), .second, .val (.int p3), .val (.int v2), .val (.int v7), .val (.int v12), .val (.ref b13), .val (.int (v7 + (1 : Int32))), .val (.int (v2 + v12)), .val (.int v86), .unset, .unset, .unset] [(.long q2), (.long q1), (.int (v2 + v12)), (.int (v7 + (1 : Int32))), (.int (2 : Int32)), (.long v93)])) := by rw [hv93]; exact pre92
  obtain ⟨_, _, ⟨T94, L94, k94, n94⟩, -, X94, ⟨Lc94, hQ94, l94, y94, z94⟩, st94⟩ := Jvm.LawKit.callS Y91 hx (y := (⟨"com/example/lean_throttle/leanthrottle/TimeRingDropOldestPinLaw", "part", "(IIIJJ)J"⟩ : MethodName)) hown (mvT hZ (hw _ (List.mem_of_getElem? (i := 56) rfl))) (mvT hZ (hw _ (List.mem_of_getElem? (i := 57) rfl))) (mvT hZ (hw _ (List.mem_of_getElem? (i := 20) rfl))) (mvT hZ (hw _ (List.mem_of_getElem? (i := 58) rfl))) (by decide) (backOf (W := 2) (rm11 l Z a0 hw [] (2 : Int32) (v7 + (1 : Int32)) (v2 + v12) q1 q2  T84.heap n0 (Nat.le_trans Z0 K84.1) ) hZ (hw _ (List.mem_of_getElem? (i := 58) rfl)) (hw _ (List.mem_of_getElem? (i := 20) rfl)) (by decide) (by decide)) (g := (mkF m 306 #[.val (.long q0), .second, .val (.long q1), .second, .val (.long q2), .second, .val (.int p3), .val (.int v2), .val (.int v7), .val (.int v12), .val (.ref b13), .val (.int (v7 + (1 : Int32))), .val (.int (v2 + v12)), .val (.int v86), .unset, .unset, .unset] [(.long q2), (.long q1), (.int (v2 + v12)), (.int (v7 + (1 : Int32))), (.int (2 : Int32)), (.long v93)])) rfl (by rw [hml]; rfl) (argsL := [(.int (2 : Int32)), (.int (v7 + (1 : Int32))), (.int (v2 + v12)), (.long q1), (.long q2)]) (rest := [(.long v93)]) (lenOf pd__28_IIIJJ_29_J rfl) rfl (by show 2 * 0 + _ ≤ _; exact Nat.le_of_eq rfl) (hb hby at_306) (fun _ _ => ⟨rfl, e91, (by decide : 17 + 0 ≤ _), (by decide : 63 + 0 ≤ _)⟩)
  dsimp only [Pt.U, Pt.locs, Pt.cells, Pt.slots] at X94 l94 y94 z94 st94 hQ94
  subst l94 y94 z94
  obtain ⟨rfl, N94q, e94⟩ := hQ94
  have N94 := Fr.app N91 N94q
  obtain ⟨M94, Y94, N94⟩ : ∃ M, Stand p l e room_1 s m #[(.long q0), (.long q1), (.long q2), (.int p3)] below meth c T94 M 17 63 ∧ Fr n0 M := ⟨_, X94, N94⟩
  have pre94 : Lead p e below G (T94.setTop (mkF m 309 #[.val (.long q0), .second, .val (.long q1), .second, .val (.long q2), .second, .val (.int p3), .val (.int v2), .val (.int v7), .val (.int v12), .val (.ref b13), .val (.int (v7 + (1 : Int32))), .val (.int (v2 + v12)), .val (.int v86), .unset, .unset, .unset] [(.long (F11 (2 : Int32) (v7 + (1 : Int32)) (v2 + v12) q1 q2)), (.long v93)])) := fun t k => pre93 t (st94 _ k)
  have pre95 : Lead p e below G (T94.setTop (mkF m 318 #[.val (.long q0), .second, .val (.long q1), .second, .val (.long q2), .second, .val (.int p3), .val (.int v2), .val (.int v7), .val (.int v12), .val (.ref b13), .val (.int (v7 + (1 : Int32))), .val (.int (v2 + v12)), .val (.int v86), .unset, .unset, .unset] [(.long q2), (.long q1), (.int (v2 + v12)), (.int (v7 + (1 : Int32))), (.int (3 : Int32)), (.long (v93 + (F11 (2 : Int32) (v7 + (1 : Int32)) (v2 + v12) q1 q2)))])) := fun t k => by
    refine pre94 t ?_
    show Steps p.tables e below (T94.setTop (mkF m 309 #[.val (.long q0), .second, .val (.long q1), .second, .val (.long q2), .second, .val (.int p3), .val (.int v2), .val (.int v7), .val (.int v12), .val (.ref b13), .val (.int (v7 + (1 : Int32))), .val (.int (v2 + v12)), .val (.int v86), .unset, .unset, .unset] [(.long (F11 (2 : Int32) (v7 + (1 : Int32)) (v2 + v12) q1 q2)), (.long v93)])) _
    refine XS.ladd Y94.here hx rfl (hb hby at_309) rfl ?_
    refine XS.iconst Y94.here hx rfl (hb hby at_310) ?_
    show Steps p.tables e below (T94.setTop (mkF m 311 #[.val (.long q0), .second, .val (.long q1), .second, .val (.long q2), .second, .val (.int p3), .val (.int v2), .val (.int v7), .val (.int v12), .val (.ref b13), .val (.int (v7 + (1 : Int32))), .val (.int (v2 + v12)), .val (.int v86), .unset, .unset, .unset] [(.int (3 : Int32)), (.long (v93 + (F11 (2 : Int32) (v7 + (1 : Int32)) (v2 + v12) q1 q2)))])) _
    refine XS.iload Y94.here hx rfl (hb hby at_311) rfl ?_
    refine XS.iload Y94.here hx rfl (hb hby at_313) rfl ?_
    refine XS.lloadN Y94.here hx rfl (hb hby at_315) rfl ?_
    show Steps p.tables e below (T94.setTop (mkF m 316 #[.val (.long q0), .second, .val (.long q1), .second, .val (.long q2), .second, .val (.int p3), .val (.int v2), .val (.int v7), .val (.int v12), .val (.ref b13), .val (.int (v7 + (1 : Int32))), .val (.int (v2 + v12)), .val (.int v86), .unset, .unset, .unset] [(.long q1), (.int (v2 + v12)), (.int (v7 + (1 : Int32))), (.int (3 : Int32)), (.long (v93 + (F11 (2 : Int32) (v7 + (1 : Int32)) (v2 + v12) q1 q2)))])) _
    refine XS.lload Y94.here hx rfl (hb hby at_316) rfl ?_
    exact k
  obtain ⟨v96, hv96⟩ : ∃ z : Int64, z = (v93 + (F11 (2 : Int32) (v7 + (1 : Int32)) (v2 + v12) q1 q2)) := ⟨_, rfl⟩
  have pre96 : Lead p e below G (T94.setTop (mkF m 318 #[.val (.long q0), .second, .val (.long q1), .second, .val (.long q2), .second, .val (.int p3), .val (.int v2), .val (.int v7), .val (.int v12), .val (.ref b13), .val (.int (v7 + (1 : Int32))), .val (.int (v2 + v12)), .val (.int v86), .unset, .unset, .unset] [(.long q2), (.long q1), (.int (v2 + v12)), (.int (v7 + (1 : Int32))), (.int (3 : Int32)), (.long v96)])) := by rw [hv96]; exact pre95
  obtain ⟨_, _, ⟨T97, L97, k97, n97⟩, -, X97, ⟨Lc97, hQ97, l97, y97, z97⟩, st97⟩ := Jvm.LawKit.callS Y94 hx (y := (⟨"com/example/lean_throttle/leanthrottle/TimeRingDropOldestPinLaw", "part", "(IIIJJ)J"⟩ : MethodName)) hown (mvT hZ (hw _ (List.mem_of_getElem? (i := 56) rfl))) (mvT hZ (hw _ (List.mem_of_getElem? (i := 57) rfl))) (mvT hZ (hw _ (List.mem_of_getElem? (i := 20) rfl))) (mvT hZ (hw _ (List.mem_of_getElem? (i := 58) rfl))) (by decide) (backOf (W := 2) (rm11 l Z a0 hw [] (3 : Int32) (v7 + (1 : Int32)) (v2 + v12) q1 q2  T84.heap n0 (Nat.le_trans Z0 K84.1) ) hZ (hw _ (List.mem_of_getElem? (i := 58) rfl)) (hw _ (List.mem_of_getElem? (i := 20) rfl)) (by decide) (by decide)) (g := (mkF m 318 #[.val (.long q0), .second, .val (.long q1), .second, .val (.long q2), .second, .val (.int p3), .val (.int v2), .val (.int v7), .val (.int v12), .val (.ref b13), .val (.int (v7 + (1 : Int32))), .val (.int (v2 + v12)), .val (.int v86), .unset, .unset, .unset] [(.long q2), (.long q1), (.int (v2 + v12)), (.int (v7 + (1 : Int32))), (.int (3 : Int32)), (.long v96)])) rfl (by rw [hml]; rfl) (argsL := [(.int (3 : Int32)), (.int (v7 + (1 : Int32))), (.int (v2 + v12)), (.long q1), (.long q2)]) (rest := [(.long v96)]) (lenOf pd__28_IIIJJ_29_J rfl) rfl (by show 2 * 0 + _ ≤ _; exact Nat.le_of_eq rfl) (hb hby at_318) (fun _ _ => ⟨rfl, e94, (by decide : 17 + 0 ≤ _), (by decide : 63 + 0 ≤ _)⟩)
  dsimp only [Pt.U, Pt.locs, Pt.cells, Pt.slots] at X97 l97 y97 z97 st97 hQ97
  subst l97 y97 z97
  obtain ⟨rfl, N97q, e97⟩ := hQ97
  have N97 := Fr.app N94 N97q
  obtain ⟨M97, Y97, N97⟩ : ∃ M, Stand p l e room_1 s m #[(.long q0), (.long q1), (.long q2), (.int p3)] below meth c T97 M 17 63 ∧ Fr n0 M := ⟨_, X97, N97⟩
  have pre97 : Lead p e below G (T97.setTop (mkF m 321 #[.val (.long q0), .second, .val (.long q1), .second, .val (.long q2), .second, .val (.int p3), .val (.int v2), .val (.int v7), .val (.int v12), .val (.ref b13), .val (.int (v7 + (1 : Int32))), .val (.int (v2 + v12)), .val (.int v86), .unset, .unset, .unset] [(.long (F11 (3 : Int32) (v7 + (1 : Int32)) (v2 + v12) q1 q2)), (.long v96)])) := fun t k => pre96 t (st97 _ k)
  have pre98 : Lead p e below G (T97.setTop (mkF m 330 #[.val (.long q0), .second, .val (.long q1), .second, .val (.long q2), .second, .val (.int p3), .val (.int v2), .val (.int v7), .val (.int v12), .val (.ref b13), .val (.int (v7 + (1 : Int32))), .val (.int (v2 + v12)), .val (.int v86), .unset, .unset, .unset] [(.long q2), (.long q1), (.int (v2 + v12)), (.int (v7 + (1 : Int32))), (.int (4 : Int32)), (.long (v96 + (F11 (3 : Int32) (v7 + (1 : Int32)) (v2 + v12) q1 q2)))])) := fun t k => by
    refine pre97 t ?_
    show Steps p.tables e below (T97.setTop (mkF m 321 #[.val (.long q0), .second, .val (.long q1), .second, .val (.long q2), .second, .val (.int p3), .val (.int v2), .val (.int v7), .val (.int v12), .val (.ref b13), .val (.int (v7 + (1 : Int32))), .val (.int (v2 + v12)), .val (.int v86), .unset, .unset, .unset] [(.long (F11 (3 : Int32) (v7 + (1 : Int32)) (v2 + v12) q1 q2)), (.long v96)])) _
    refine XS.ladd Y97.here hx rfl (hb hby at_321) rfl ?_
    refine XS.iconst Y97.here hx rfl (hb hby at_322) ?_
    show Steps p.tables e below (T97.setTop (mkF m 323 #[.val (.long q0), .second, .val (.long q1), .second, .val (.long q2), .second, .val (.int p3), .val (.int v2), .val (.int v7), .val (.int v12), .val (.ref b13), .val (.int (v7 + (1 : Int32))), .val (.int (v2 + v12)), .val (.int v86), .unset, .unset, .unset] [(.int (4 : Int32)), (.long (v96 + (F11 (3 : Int32) (v7 + (1 : Int32)) (v2 + v12) q1 q2)))])) _
    refine XS.iload Y97.here hx rfl (hb hby at_323) rfl ?_
    refine XS.iload Y97.here hx rfl (hb hby at_325) rfl ?_
    refine XS.lloadN Y97.here hx rfl (hb hby at_327) rfl ?_
    show Steps p.tables e below (T97.setTop (mkF m 328 #[.val (.long q0), .second, .val (.long q1), .second, .val (.long q2), .second, .val (.int p3), .val (.int v2), .val (.int v7), .val (.int v12), .val (.ref b13), .val (.int (v7 + (1 : Int32))), .val (.int (v2 + v12)), .val (.int v86), .unset, .unset, .unset] [(.long q1), (.int (v2 + v12)), (.int (v7 + (1 : Int32))), (.int (4 : Int32)), (.long (v96 + (F11 (3 : Int32) (v7 + (1 : Int32)) (v2 + v12) q1 q2)))])) _
    refine XS.lload Y97.here hx rfl (hb hby at_328) rfl ?_
    exact k
  obtain ⟨v99, hv99⟩ : ∃ z : Int64, z = (v96 + (F11 (3 : Int32) (v7 + (1 : Int32)) (v2 + v12) q1 q2)) := ⟨_, rfl⟩
  have pre99 : Lead p e below G (T97.setTop (mkF m 330 #[.val (.long q0), .second, .val (.long q1), .second, .val (.long q2), .second, .val (.int p3), .val (.int v2), .val (.int v7), .val (.int v12), .val (.ref b13), .val (.int (v7 + (1 : Int32))), .val (.int (v2 + v12)), .val (.int v86), .unset, .unset, .unset] [(.long q2), (.long q1), (.int (v2 + v12)), (.int (v7 + (1 : Int32))), (.int (4 : Int32)), (.long v99)])) := by rw [hv99]; exact pre98
  obtain ⟨_, _, ⟨T100, L100, k100, n100⟩, -, X100, ⟨Lc100, hQ100, l100, y100, z100⟩, st100⟩ := Jvm.LawKit.callS Y97 hx (y := (⟨"com/example/lean_throttle/leanthrottle/TimeRingDropOldestPinLaw", "part", "(IIIJJ)J"⟩ : MethodName)) hown (mvT hZ (hw _ (List.mem_of_getElem? (i := 56) rfl))) (mvT hZ (hw _ (List.mem_of_getElem? (i := 57) rfl))) (mvT hZ (hw _ (List.mem_of_getElem? (i := 20) rfl))) (mvT hZ (hw _ (List.mem_of_getElem? (i := 58) rfl))) (by decide) (backOf (W := 2) (rm11 l Z a0 hw [] (4 : Int32) (v7 + (1 : Int32)) (v2 + v12) q1 q2  T84.heap n0 (Nat.le_trans Z0 K84.1) ) hZ (hw _ (List.mem_of_getElem? (i := 58) rfl)) (hw _ (List.mem_of_getElem? (i := 20) rfl)) (by decide) (by decide)) (g := (mkF m 330 #[.val (.long q0), .second, .val (.long q1), .second, .val (.long q2), .second, .val (.int p3), .val (.int v2), .val (.int v7), .val (.int v12), .val (.ref b13), .val (.int (v7 + (1 : Int32))), .val (.int (v2 + v12)), .val (.int v86), .unset, .unset, .unset] [(.long q2), (.long q1), (.int (v2 + v12)), (.int (v7 + (1 : Int32))), (.int (4 : Int32)), (.long v99)])) rfl (by rw [hml]; rfl) (argsL := [(.int (4 : Int32)), (.int (v7 + (1 : Int32))), (.int (v2 + v12)), (.long q1), (.long q2)]) (rest := [(.long v99)]) (lenOf pd__28_IIIJJ_29_J rfl) rfl (by show 2 * 0 + _ ≤ _; exact Nat.le_of_eq rfl) (hb hby at_330) (fun _ _ => ⟨rfl, e97, (by decide : 17 + 0 ≤ _), (by decide : 63 + 0 ≤ _)⟩)
  dsimp only [Pt.U, Pt.locs, Pt.cells, Pt.slots] at X100 l100 y100 z100 st100 hQ100
  subst l100 y100 z100
  obtain ⟨rfl, N100q, e100⟩ := hQ100
  have N100 := Fr.app N97 N100q
  obtain ⟨M100, Y100, N100⟩ : ∃ M, Stand p l e room_1 s m #[(.long q0), (.long q1), (.long q2), (.int p3)] below meth c T100 M 17 63 ∧ Fr n0 M := ⟨_, X100, N100⟩
  have pre100 : Lead p e below G (T100.setTop (mkF m 333 #[.val (.long q0), .second, .val (.long q1), .second, .val (.long q2), .second, .val (.int p3), .val (.int v2), .val (.int v7), .val (.int v12), .val (.ref b13), .val (.int (v7 + (1 : Int32))), .val (.int (v2 + v12)), .val (.int v86), .unset, .unset, .unset] [(.long (F11 (4 : Int32) (v7 + (1 : Int32)) (v2 + v12) q1 q2)), (.long v99)])) := fun t k => pre99 t (st100 _ k)
  have pre101 : Lead p e below G (T100.setTop (mkF m 342 #[.val (.long q0), .second, .val (.long q1), .second, .val (.long q2), .second, .val (.int p3), .val (.int v2), .val (.int v7), .val (.int v12), .val (.ref b13), .val (.int (v7 + (1 : Int32))), .val (.int (v2 + v12)), .val (.int v86), .unset, .unset, .unset] [(.long q2), (.long q1), (.int (v2 + v12)), (.int (v7 + (1 : Int32))), (.int (5 : Int32)), (.long (v99 + (F11 (4 : Int32) (v7 + (1 : Int32)) (v2 + v12) q1 q2)))])) := fun t k => by
    refine pre100 t ?_
    show Steps p.tables e below (T100.setTop (mkF m 333 #[.val (.long q0), .second, .val (.long q1), .second, .val (.long q2), .second, .val (.int p3), .val (.int v2), .val (.int v7), .val (.int v12), .val (.ref b13), .val (.int (v7 + (1 : Int32))), .val (.int (v2 + v12)), .val (.int v86), .unset, .unset, .unset] [(.long (F11 (4 : Int32) (v7 + (1 : Int32)) (v2 + v12) q1 q2)), (.long v99)])) _
    refine XS.ladd Y100.here hx rfl (hb hby at_333) rfl ?_
    refine XS.iconst Y100.here hx rfl (hb hby at_334) ?_
    show Steps p.tables e below (T100.setTop (mkF m 335 #[.val (.long q0), .second, .val (.long q1), .second, .val (.long q2), .second, .val (.int p3), .val (.int v2), .val (.int v7), .val (.int v12), .val (.ref b13), .val (.int (v7 + (1 : Int32))), .val (.int (v2 + v12)), .val (.int v86), .unset, .unset, .unset] [(.int (5 : Int32)), (.long (v99 + (F11 (4 : Int32) (v7 + (1 : Int32)) (v2 + v12) q1 q2)))])) _
    refine XS.iload Y100.here hx rfl (hb hby at_335) rfl ?_
    refine XS.iload Y100.here hx rfl (hb hby at_337) rfl ?_
    refine XS.lloadN Y100.here hx rfl (hb hby at_339) rfl ?_
    show Steps p.tables e below (T100.setTop (mkF m 340 #[.val (.long q0), .second, .val (.long q1), .second, .val (.long q2), .second, .val (.int p3), .val (.int v2), .val (.int v7), .val (.int v12), .val (.ref b13), .val (.int (v7 + (1 : Int32))), .val (.int (v2 + v12)), .val (.int v86), .unset, .unset, .unset] [(.long q1), (.int (v2 + v12)), (.int (v7 + (1 : Int32))), (.int (5 : Int32)), (.long (v99 + (F11 (4 : Int32) (v7 + (1 : Int32)) (v2 + v12) q1 q2)))])) _
    refine XS.lload Y100.here hx rfl (hb hby at_340) rfl ?_
    exact k
  obtain ⟨v102, hv102⟩ : ∃ z : Int64, z = (v99 + (F11 (4 : Int32) (v7 + (1 : Int32)) (v2 + v12) q1 q2)) := ⟨_, rfl⟩
  have pre102 : Lead p e below G (T100.setTop (mkF m 342 #[.val (.long q0), .second, .val (.long q1), .second, .val (.long q2), .second, .val (.int p3), .val (.int v2), .val (.int v7), .val (.int v12), .val (.ref b13), .val (.int (v7 + (1 : Int32))), .val (.int (v2 + v12)), .val (.int v86), .unset, .unset, .unset] [(.long q2), (.long q1), (.int (v2 + v12)), (.int (v7 + (1 : Int32))), (.int (5 : Int32)), (.long v102)])) := by rw [hv102]; exact pre101
  obtain ⟨_, _, ⟨T103, L103, k103, n103⟩, -, X103, ⟨Lc103, hQ103, l103, y103, z103⟩, st103⟩ := Jvm.LawKit.callS Y100 hx (y := (⟨"com/example/lean_throttle/leanthrottle/TimeRingDropOldestPinLaw", "part", "(IIIJJ)J"⟩ : MethodName)) hown (mvT hZ (hw _ (List.mem_of_getElem? (i := 56) rfl))) (mvT hZ (hw _ (List.mem_of_getElem? (i := 57) rfl))) (mvT hZ (hw _ (List.mem_of_getElem? (i := 20) rfl))) (mvT hZ (hw _ (List.mem_of_getElem? (i := 58) rfl))) (by decide) (backOf (W := 2) (rm11 l Z a0 hw [] (5 : Int32) (v7 + (1 : Int32)) (v2 + v12) q1 q2  T84.heap n0 (Nat.le_trans Z0 K84.1) ) hZ (hw _ (List.mem_of_getElem? (i := 58) rfl)) (hw _ (List.mem_of_getElem? (i := 20) rfl)) (by decide) (by decide)) (g := (mkF m 342 #[.val (.long q0), .second, .val (.long q1), .second, .val (.long q2), .second, .val (.int p3), .val (.int v2), .val (.int v7), .val (.int v12), .val (.ref b13), .val (.int (v7 + (1 : Int32))), .val (.int (v2 + v12)), .val (.int v86), .unset, .unset, .unset] [(.long q2), (.long q1), (.int (v2 + v12)), (.int (v7 + (1 : Int32))), (.int (5 : Int32)), (.long v102)])) rfl (by rw [hml]; rfl) (argsL := [(.int (5 : Int32)), (.int (v7 + (1 : Int32))), (.int (v2 + v12)), (.long q1), (.long q2)]) (rest := [(.long v102)]) (lenOf pd__28_IIIJJ_29_J rfl) rfl (by show 2 * 0 + _ ≤ _; exact Nat.le_of_eq rfl) (hb hby at_342) (fun _ _ => ⟨rfl, e100, (by decide : 17 + 0 ≤ _), (by decide : 63 + 0 ≤ _)⟩)
  dsimp only [Pt.U, Pt.locs, Pt.cells, Pt.slots] at X103 l103 y103 z103 st103 hQ103
  subst l103 y103 z103
  obtain ⟨rfl, N103q, e103⟩ := hQ103
  have N103 := Fr.app N100 N103q
  obtain ⟨M103, Y103, N103⟩ : ∃ M, Stand p l e room_1 s m #[(.long q0), (.long q1), (.long q2), (.int p3)] below meth c T103 M 17 63 ∧ Fr n0 M := ⟨_, X103, N103⟩
  have pre103 : Lead p e below G (T103.setTop (mkF m 345 #[.val (.long q0), .second, .val (.long q1), .second, .val (.long q2), .second, .val (.int p3), .val (.int v2), .val (.int v7), .val (.int v12), .val (.ref b13), .val (.int (v7 + (1 : Int32))), .val (.int (v2 + v12)), .val (.int v86), .unset, .unset, .unset] [(.long (F11 (5 : Int32) (v7 + (1 : Int32)) (v2 + v12) q1 q2)), (.long v102)])) := fun t k => pre102 t (st103 _ k)
  have pre104 : Lead p e below G (T103.setTop (mkF m 355 #[.val (.long q0), .second, .val (.long q1), .second, .val (.long q2), .second, .val (.int p3), .val (.int v2), .val (.int v7), .val (.int v12), .val (.ref b13), .val (.int (v7 + (1 : Int32))), .val (.int (v2 + v12)), .val (.int v86), .unset, .unset, .unset] [(.long q2), (.long q1), (.int (v2 + v12)), (.int (v7 + (1 : Int32))), (.int (6 : Int32)), (.long (v102 + (F11 (5 : Int32) (v7 + (1 : Int32)) (v2 + v12) q1 q2)))])) := fun t k => by
    refine pre103 t ?_
    show Steps p.tables e below (T103.setTop (mkF m 345 #[.val (.long q0), .second, .val (.long q1), .second, .val (.long q2), .second, .val (.int p3), .val (.int v2), .val (.int v7), .val (.int v12), .val (.ref b13), .val (.int (v7 + (1 : Int32))), .val (.int (v2 + v12)), .val (.int v86), .unset, .unset, .unset] [(.long (F11 (5 : Int32) (v7 + (1 : Int32)) (v2 + v12) q1 q2)), (.long v102)])) _
    refine XS.ladd Y103.here hx rfl (hb hby at_345) rfl ?_
    refine XS.bipush Y103.here hx rfl (hb hby at_346) ?_
    show Steps p.tables e below (T103.setTop (mkF m 348 #[.val (.long q0), .second, .val (.long q1), .second, .val (.long q2), .second, .val (.int p3), .val (.int v2), .val (.int v7), .val (.int v12), .val (.ref b13), .val (.int (v7 + (1 : Int32))), .val (.int (v2 + v12)), .val (.int v86), .unset, .unset, .unset] [(.int (6 : Int32)), (.long (v102 + (F11 (5 : Int32) (v7 + (1 : Int32)) (v2 + v12) q1 q2)))])) _
    refine XS.iload Y103.here hx rfl (hb hby at_348) rfl ?_
    refine XS.iload Y103.here hx rfl (hb hby at_350) rfl ?_
    refine XS.lloadN Y103.here hx rfl (hb hby at_352) rfl ?_
    show Steps p.tables e below (T103.setTop (mkF m 353 #[.val (.long q0), .second, .val (.long q1), .second, .val (.long q2), .second, .val (.int p3), .val (.int v2), .val (.int v7), .val (.int v12), .val (.ref b13), .val (.int (v7 + (1 : Int32))), .val (.int (v2 + v12)), .val (.int v86), .unset, .unset, .unset] [(.long q1), (.int (v2 + v12)), (.int (v7 + (1 : Int32))), (.int (6 : Int32)), (.long (v102 + (F11 (5 : Int32) (v7 + (1 : Int32)) (v2 + v12) q1 q2)))])) _
    refine XS.lload Y103.here hx rfl (hb hby at_353) rfl ?_
    exact k
  obtain ⟨v105, hv105⟩ : ∃ z : Int64, z = (v102 + (F11 (5 : Int32) (v7 + (1 : Int32)) (v2 + v12) q1 q2)) := ⟨_, rfl⟩
  have pre105 : Lead p e below G (T103.setTop (mkF m 355 #[.val (.long q0), .second, .val (.long q1), .second, .val (.long q2), .second, .val (.int p3), .val (.int v2), .val (.int v7), .val (.int v12), .val (.ref b13), .val (.int (v7 + (1 : Int32))), .val (.int (v2 + v12)), .val (.int v86), .unset, .unset, .unset] [(.long q2), (.long q1), (.int (v2 + v12)), (.int (v7 + (1 : Int32))), (.int (6 : Int32)), (.long v105)])) := by rw [hv105]; exact pre104
  obtain ⟨_, _, ⟨T106, L106, k106, n106⟩, -, X106, ⟨Lc106, hQ106, l106, y106, z106⟩, st106⟩ := Jvm.LawKit.callS Y103 hx (y := (⟨"com/example/lean_throttle/leanthrottle/TimeRingDropOldestPinLaw", "part", "(IIIJJ)J"⟩ : MethodName)) hown (mvT hZ (hw _ (List.mem_of_getElem? (i := 56) rfl))) (mvT hZ (hw _ (List.mem_of_getElem? (i := 57) rfl))) (mvT hZ (hw _ (List.mem_of_getElem? (i := 20) rfl))) (mvT hZ (hw _ (List.mem_of_getElem? (i := 58) rfl))) (by decide) (backOf (W := 2) (rm11 l Z a0 hw [] (6 : Int32) (v7 + (1 : Int32)) (v2 + v12) q1 q2  T84.heap n0 (Nat.le_trans Z0 K84.1) ) hZ (hw _ (List.mem_of_getElem? (i := 58) rfl)) (hw _ (List.mem_of_getElem? (i := 20) rfl)) (by decide) (by decide)) (g := (mkF m 355 #[.val (.long q0), .second, .val (.long q1), .second, .val (.long q2), .second, .val (.int p3), .val (.int v2), .val (.int v7), .val (.int v12), .val (.ref b13), .val (.int (v7 + (1 : Int32))), .val (.int (v2 + v12)), .val (.int v86), .unset, .unset, .unset] [(.long q2), (.long q1), (.int (v2 + v12)), (.int (v7 + (1 : Int32))), (.int (6 : Int32)), (.long v105)])) rfl (by rw [hml]; rfl) (argsL := [(.int (6 : Int32)), (.int (v7 + (1 : Int32))), (.int (v2 + v12)), (.long q1), (.long q2)]) (rest := [(.long v105)]) (lenOf pd__28_IIIJJ_29_J rfl) rfl (by show 2 * 0 + _ ≤ _; exact Nat.le_of_eq rfl) (hb hby at_355) (fun _ _ => ⟨rfl, e103, (by decide : 17 + 0 ≤ _), (by decide : 63 + 0 ≤ _)⟩)
  dsimp only [Pt.U, Pt.locs, Pt.cells, Pt.slots] at X106 l106 y106 z106 st106 hQ106
  subst l106 y106 z106
  obtain ⟨rfl, N106q, e106⟩ := hQ106
  have N106 := Fr.app N103 N106q
  obtain ⟨M106, Y106, N106⟩ : ∃ M, Stand p l e room_1 s m #[(.long q0), (.long q1), (.long q2), (.int p3)] below meth c T106 M 17 63 ∧ Fr n0 M := ⟨_, X106, N106⟩
  have pre106 : Lead p e below G (T106.setTop (mkF m 358 #[.val (.long q0), .second, .val (.long q1), .second, .val (.long q2), .second, .val (.int p3), .val (.int v2), .val (.int v7), .val (.int v12), .val (.ref b13), .val (.int (v7 + (1 : Int32))), .val (.int (v2 + v12)), .val (.int v86), .unset, .unset, .unset] [(.long (F11 (6 : Int32) (v7 + (1 : Int32)) (v2 + v12) q1 q2)), (.long v105)])) := fun t k => pre105 t (st106 _ k)
  have pre107 : Lead p e below G (T106.setTop (mkF m 361 #[.val (.long q0), .second, .val (.long q1), .second, .val (.long q2), .second, .val (.int p3), .val (.int v2), .val (.int v7), .val (.int v12), .val (.ref b13), .val (.int (v7 + (1 : Int32))), .val (.int (v2 + v12)), .val (.int v86), .val (.long (v105 + (F11 (6 : Int32) (v7 + (1 : Int32)) (v2 + v12) q1 q2))), .second, .unset] [])) := fun t k => by
    refine pre106 t ?_
    show Steps p.tables e below (T106.setTop (mkF m 358 #[.val (.long q0), .second, .val (.long q1), .second, .val (.long q2), .second, .val (.int p3), .val (.int v2), .val (.int v7), .val (.int v12), .val (.ref b13), .val (.int (v7 + (1 : Int32))), .val (.int (v2 + v12)), .val (.int v86), .unset, .unset, .unset] [(.long (F11 (6 : Int32) (v7 + (1 : Int32)) (v2 + v12) q1 q2)), (.long v105)])) _
    refine XS.ladd Y106.here hx rfl (hb hby at_358) rfl ?_
    refine XS.lstore Y106.here hx rfl (hb hby at_359) rfl (l' := #[.val (.long q0), .second, .val (.long q1), .second, .val (.long q2), .second, .val (.int p3), .val (.int v2), .val (.int v7), .val (.int v12), .val (.ref b13), .val (.int (v7 + (1 : Int32))), .val (.int (v2 + v12)), .val (.int v86), .val (.long (v105 + (F11 (6 : Int32) (v7 + (1 : Int32)) (v2 + v12) q1 q2))), .second, .unset]) rfl ?_
    show Steps p.tables e below (T106.setTop (mkF m 361 #[.val (.long q0), .second, .val (.long q1), .second, .val (.long q2), .second, .val (.int p3), .val (.int v2), .val (.int v7), .val (.int v12), .val (.ref b13), .val (.int (v7 + (1 : Int32))), .val (.int (v2 + v12)), .val (.int v86), .val (.long (v105 + (F11 (6 : Int32) (v7 + (1 : Int32)) (v2 + v12) q1 q2))), .second, .unset] [])) _
    exact k
  obtain ⟨v108, hv108⟩ : ∃ z : Int64, z = (v105 + (F11 (6 : Int32) (v7 + (1 : Int32)) (v2 + v12) q1 q2)) := ⟨_, rfl⟩
  have pre108 : Lead p e below G (T106.setTop (mkF m 361 #[.val (.long q0), .second, .val (.long q1), .second, .val (.long q2), .second, .val (.int p3), .val (.int v2), .val (.int v7), .val (.int v12), .val (.ref b13), .val (.int (v7 + (1 : Int32))), .val (.int (v2 + v12)), .val (.int v86), .val (.long v108), .second, .unset] [])) := by rw [hv108]; exact pre107
  have pre109 : Lead p e below G (T106.setTop (mkF m 363 #[.val (.long q0), .second, .val (.long q1), .second, .val (.long q2), .second, .val (.int p3), .val (.int v2), .val (.int v7), .val (.int v12), .val (.ref b13), .val (.int (v7 + (1 : Int32))), .val (.int (v2 + v12)), .val (.int v86), .val (.long v108), .second, .unset] [(.ref b13)])) := fun t k => by
    refine pre108 t ?_
    show Steps p.tables e below (T106.setTop (mkF m 361 #[.val (.long q0), .second, .val (.long q1), .second, .val (.long q2), .second, .val (.int p3), .val (.int v2), .val (.int v7), .val (.int v12), .val (.ref b13), .val (.int (v7 + (1 : Int32))), .val (.int (v2 + v12)), .val (.int v86), .val (.long v108), .second, .unset] [])) _
    refine XS.aload Y106.here hx rfl (hb hby at_361) rfl rfl ?_
    exact k
  obtain ⟨cq110, kq110, q110a, q110b, q110c⟩ := isOf hZ e106 c84_0
  obtain ⟨_, _, ⟨T110, L110, k110, n110⟩, -, X110, ⟨Lc110, hQ110, l110, y110, z110⟩, st110⟩ := Y106.virtualBack hx (y := (⟨"com/example/lean_throttle/leanthrottle/TimeRing", "size", "()I"⟩ : MethodName)) (z := (⟨"com/example/lean_throttle/leanthrottle/TimeRing", "size", "()I"⟩ : MethodName)) hown (mvT hZ (hw _ (List.mem_of_getElem? (i := 59) rfl))) (mvT hZ (hw _ (List.mem_of_getElem? (i := 60) rfl))) (notFace_of_selects (args := #[]) (mvT hZ (hw _ (List.mem_of_getElem? (i := 62) rfl)))) (mvT hZ (hw _ (List.mem_of_getElem? (i := 62) rfl))) (mvT hZ (hw _ (List.mem_of_getElem? (i := 61) rfl))) (by decide) (backOf (W := 0) (rm12 l Z a0 hw [] b13 (rs_77 - (1 : Int32)) T84.heap n0 (Nat.le_trans Z0 K84.1) c84_4) hZ (hw _ (List.mem_of_getElem? (i := 63) rfl)) (hw _ (List.mem_of_getElem? (i := 6) rfl)) (by decide) (by decide)) q110a q110c (g := (mkF m 363 #[.val (.long q0), .second, .val (.long q1), .second, .val (.long q2), .second, .val (.int p3), .val (.int v2), .val (.int v7), .val (.int v12), .val (.ref b13), .val (.int (v7 + (1 : Int32))), .val (.int (v2 + v12)), .val (.int v86), .val (.long v108), .second, .unset] [(.ref b13)])) rfl (by rw [hml]; rfl) (Steps.refl _) (argsL := []) (rest := []) (lenOf pd__28__29_I rfl) rfl (by show 2 * 0 + _ ≤ _; exact Nat.le_of_eq rfl) (hb hby at_363) (fun _ _ => ⟨rfl, e106, (by decide : 17 + 0 ≤ _), (by decide : 63 + 0 ≤ _)⟩)
  dsimp only [Pt.U, Pt.locs, Pt.cells, Pt.slots] at X110 l110 y110 z110 st110 hQ110
  subst l110 y110 z110
  obtain ⟨rfl, N110q, e110⟩ := hQ110
  have N110 := Fr.app N106 N110q
  obtain ⟨M110, Y110, N110⟩ : ∃ M, Stand p l e room_1 s m #[(.long q0), (.long q1), (.long q2), (.int p3)] below meth c T110 M 17 63 ∧ Fr n0 M := ⟨_, X110, N110⟩
  have pre110 : Lead p e below G (T110.setTop (mkF m 366 #[.val (.long q0), .second, .val (.long q1), .second, .val (.long q2), .second, .val (.int p3), .val (.int v2), .val (.int v7), .val (.int v12), .val (.ref b13), .val (.int (v7 + (1 : Int32))), .val (.int (v2 + v12)), .val (.int v86), .val (.long v108), .second, .unset] [(.int (rs_77 - (1 : Int32)))])) := fun t k => pre109 t (st110.trans k)
  have hf111 : (rs_77 - (1 : Int32)) = v86 := ((by rw [hv86]; exact own_szeq RL hnpq (own_lend hnpq q56_1) q77_1))
  have pre112 : Lead p e below G (T110.setTop (mkF m 373 #[.val (.long q0), .second, .val (.long q1), .second, .val (.long q2), .second, .val (.int p3), .val (.int v2), .val (.int v7), .val (.int v12), .val (.ref b13), .val (.int (v7 + (1 : Int32))), .val (.int (v2 + v12)), .val (.int v86), .val (.long v108), .second, .unset] [(.ref b13)])) := fun t k => by
    refine pre110 t ?_
    show Steps p.tables e below (T110.setTop (mkF m 366 #[.val (.long q0), .second, .val (.long q1), .second, .val (.long q2), .second, .val (.int p3), .val (.int v2), .val (.int v7), .val (.int v12), .val (.ref b13), .val (.int (v7 + (1 : Int32))), .val (.int (v2 + v12)), .val (.int v86), .val (.long v108), .second, .unset] [(.int (rs_77 - (1 : Int32)))])) _
    refine XS.iload Y110.here hx rfl (hb hby at_366) rfl ?_
    refine XS.icmpNo Y110.here hx rfl (hb hby at_368) rfl (teq hf111).2 ?_
    show Steps p.tables e below (T110.setTop (mkF m 371 #[.val (.long q0), .second, .val (.long q1), .second, .val (.long q2), .second, .val (.int p3), .val (.int v2), .val (.int v7), .val (.int v12), .val (.ref b13), .val (.int (v7 + (1 : Int32))), .val (.int (v2 + v12)), .val (.int v86), .val (.long v108), .second, .unset] [])) _
    refine XS.aload Y110.here hx rfl (hb hby at_371) rfl rfl ?_
    exact k
  have f114 : JV Value.long Z T84.heap ra_77 .long rl_77 r1_77 := (f77_6.keep K84c (ninS (Ne.symm w77_2) nin0))
  have f115 : JV Value.long Z T84.heap rA_77 .long rl_77 r2_77 := (f77_7.keep K84c (ninS (Ne.symm w77_3) nin0))
  obtain ⟨cq113, kq113, q113a, q113b, q113c⟩ := isOf hZ e110 c84_0
  obtain ⟨_, _, ⟨T113, L113, k113, n113⟩, -, X113, ⟨Lc113, hQ113, l113, y113, z113⟩, st113⟩ := Y110.virtualBack hx (y := (⟨"com/example/lean_throttle/leanthrottle/TimeRing", "units", "()J"⟩ : MethodName)) (z := (⟨"com/example/lean_throttle/leanthrottle/TimeRing", "units", "()J"⟩ : MethodName)) hown (mvT hZ (hw _ (List.mem_of_getElem? (i := 64) rfl))) (mvT hZ (hw _ (List.mem_of_getElem? (i := 65) rfl))) (notFace_of_selects (args := #[]) (mvT hZ (hw _ (List.mem_of_getElem? (i := 67) rfl)))) (mvT hZ (hw _ (List.mem_of_getElem? (i := 67) rfl))) (mvT hZ (hw _ (List.mem_of_getElem? (i := 66) rfl))) (by decide) (backOf (W := 0) (rm13 l Z a0 hw [] b13 ra_77 rA_77 (AtI rf_77 (1 : Int32) rl_77) (rs_77 - (1 : Int32)) rl_77 (r2_77 (rf_77).toNatClampNeg) r1_77 r2_77 T84.heap n0 (Nat.le_trans Z0 K84.1) c84_0 c84_1 c84_2 c84_3 c84_4 c84_5 f114 f115 w77_2 w77_3 w77_4 (show 0 ≤ (AtI rf_77 (1 : Int32) rl_77).toInt ∧ (AtI rf_77 (1 : Int32) rl_77).toInt < rl_77.toInt from (own_hfi RL)) (show 0 ≤ (rs_77 - (1 : Int32)).toInt ∧ (rs_77 - (1 : Int32)).toInt ≤ rl_77.toInt from (own_hsz RL)) (show rl_77.toInt ≤ 4 from (own_hl4 RL))) hZ (hw _ (List.mem_of_getElem? (i := 68) rfl)) (hw _ (List.mem_of_getElem? (i := 6) rfl)) (by decide) (by decide)) q113a q113c (g := (mkF m 373 #[.val (.long q0), .second, .val (.long q1), .second, .val (.long q2), .second, .val (.int p3), .val (.int v2), .val (.int v7), .val (.int v12), .val (.ref b13), .val (.int (v7 + (1 : Int32))), .val (.int (v2 + v12)), .val (.int v86), .val (.long v108), .second, .unset] [(.ref b13)])) rfl (by rw [hml]; rfl) (Steps.refl _) (argsL := []) (rest := []) (lenOf pd__28__29_J rfl) rfl (by show 2 * 0 + _ ≤ _; exact Nat.le_of_eq rfl) (hb hby at_373) (fun _ _ => ⟨rfl, e110, (by decide : 17 + 0 ≤ _), (by decide : 63 + 0 ≤ _)⟩)
  dsimp only [Pt.U, Pt.locs, Pt.cells, Pt.slots] at X113 l113 y113 z113 st113 hQ113
  subst l113 y113 z113
  obtain ⟨rfl, N113q, e113⟩ := hQ113
  have N113 := Fr.app N110 N113q
  obtain ⟨M113, Y113, N113⟩ : ∃ M, Stand p l e room_1 s m #[(.long q0), (.long q1), (.long q2), (.int p3)] below meth c T113 M 17 63 ∧ Fr n0 M := ⟨_, X113, N113⟩
  have pre113 : Lead p e below G (T113.setTop (mkF m 376 #[.val (.long q0), .second, .val (.long q1), .second, .val (.long q2), .second, .val (.int p3), .val (.int v2), .val (.int v7), .val (.int v12), .val (.ref b13), .val (.int (v7 + (1 : Int32))), .val (.int (v2 + v12)), .val (.int v86), .val (.long v108), .second, .unset] [(.long (F13 (AtI rf_77 (1 : Int32) rl_77) (rs_77 - (1 : Int32)) rl_77 (r2_77 (rf_77).toNatClampNeg) r2_77))])) := fun t k => pre112 t (st113.trans k)
  have hf116 : (F13 (AtI rf_77 (1 : Int32) rl_77) (rs_77 - (1 : Int32)) rl_77 (r2_77 (rf_77).toNatClampNeg) r2_77) = v108 := ((by rw [hv108, hv105, hv102, hv99, hv96, hv93, hv90]; exact (own_units RL).trans (own_ueq q1 q2 hnpq (own_lend hnpq q56_1) q77_1)))
  have pre117 : Lead p e below G (T113.setTop (mkF m 392 #[.val (.long q0), .second, .val (.long q1), .second, .val (.long q2), .second, .val (.int p3), .val (.int v2), .val (.int v7), .val (.int v12), .val (.ref b13), .val (.int (v7 + (1 : Int32))), .val (.int (v2 + v12)), .val (.int v86), .val (.long v108), .second, .val (.int (1 : Int32))] [(.int (1 : Int32)), (.int v86)])) := fun t k => by
    refine pre113 t ?_
    show Steps p.tables e below (T113.setTop (mkF m 376 #[.val (.long q0), .second, .val (.long q1), .second, .val (.long q2), .second, .val (.int p3), .val (.int v2), .val (.int v7), .val (.int v12), .val (.ref b13), .val (.int (v7 + (1 : Int32))), .val (.int (v2 + v12)), .val (.int v86), .val (.long v108), .second, .unset] [(.long (F13 (AtI rf_77 (1 : Int32) rl_77) (rs_77 - (1 : Int32)) rl_77 (r2_77 (rf_77).toNatClampNeg) r2_77))])) _
    refine XS.lload Y113.here hx rfl (hb hby at_376) rfl ?_
    refine XS.lcmp Y113.here hx rfl (hb hby at_378) rfl ?_
    show Steps p.tables e below (T113.setTop (mkF m 379 #[.val (.long q0), .second, .val (.long q1), .second, .val (.long q2), .second, .val (.int p3), .val (.int v2), .val (.int v7), .val (.int v12), .val (.ref b13), .val (.int (v7 + (1 : Int32))), .val (.int (v2 + v12)), .val (.int v86), .val (.long v108), .second, .unset] [(.int (lcmpW (F13 (AtI rf_77 (1 : Int32) rl_77) (rs_77 - (1 : Int32)) rl_77 (r2_77 (rf_77).toNatClampNeg) r2_77) v108))])) _
    refine XS.ifNo Y113.here hx rfl (hb hby at_379) rfl ((if0 _ _).trans (teq (own_lc_eq.mpr hf116)).2) ?_
    refine XS.iconst Y113.here hx rfl (hb hby at_382) ?_
    refine XS.goto Y113.here hx rfl (pc0 := 383) (pc' := 387) rfl (hb hby at_383) (by decide) (by decide) ?_
    show Steps p.tables e below (T113.setTop (mkF m 387 #[.val (.long q0), .second, .val (.long q1), .second, .val (.long q2), .second, .val (.int p3), .val (.int v2), .val (.int v7), .val (.int v12), .val (.ref b13), .val (.int (v7 + (1 : Int32))), .val (.int (v2 + v12)), .val (.int v86), .val (.long v108), .second, .unset] [(.int (1 : Int32))])) _
    refine XS.istore Y113.here hx rfl (hb hby at_387) rfl (l' := #[.val (.long q0), .second, .val (.long q1), .second, .val (.long q2), .second, .val (.int p3), .val (.int v2), .val (.int v7), .val (.int v12), .val (.ref b13), .val (.int (v7 + (1 : Int32))), .val (.int (v2 + v12)), .val (.int v86), .val (.long v108), .second, .val (.int (1 : Int32))]) rfl ?_
    refine XS.iload Y113.here hx rfl (hb hby at_389) rfl ?_
    refine XS.iconst Y113.here hx rfl (hb hby at_391) ?_
    show Steps p.tables e below (T113.setTop (mkF m 392 #[.val (.long q0), .second, .val (.long q1), .second, .val (.long q2), .second, .val (.int p3), .val (.int v2), .val (.int v7), .val (.int v12), .val (.ref b13), .val (.int (v7 + (1 : Int32))), .val (.int (v2 + v12)), .val (.int v86), .val (.long v108), .second, .val (.int (1 : Int32))] [(.int (1 : Int32)), (.int v86)])) _
    exact k
  by_cases hs392_118 : v86 < (1 : Int32)
  · obtain ⟨fs, hr, hrun, hended, hW, hsame⟩ := Y113.leave (v := some (.int (nar .boolean (1 : Int32)))) (fun h => by rw [Bd.returns] at h; cases h)
    have preF : Lead p e below (s₁.setTop (entryFrame m #[(.long q0), (.long q1), (.long q2), (.int p3)] maxLocals)) (T113.setTop (mkF m 392 #[.val (.long q0), .second, .val (.long q1), .second, .val (.long q2), .second, .val (.int p3), .val (.int v2), .val (.int v7), .val (.int v12), .val (.ref b13), .val (.int (v7 + (1 : Int32))), .val (.int (v2 + v12)), .val (.int v86), .val (.long v108), .second, .val (.int (1 : Int32))] [(.int (1 : Int32)), (.int v86)])) := by rw [← hG]; exact pre117
    refine ⟨_, _, preF _ ?_, hrun, hended, _, _, rfl, ?_, ⟨_, rfl⟩, hW, hsame.mono (by decide) (by decide)⟩
    · show Steps p.tables e below (T113.setTop (mkF m 392 #[.val (.long q0), .second, .val (.long q1), .second, .val (.long q2), .second, .val (.int p3), .val (.int v2), .val (.int v7), .val (.int v12), .val (.ref b13), .val (.int (v7 + (1 : Int32))), .val (.int (v2 + v12)), .val (.int v86), .val (.long v108), .second, .val (.int (1 : Int32))] [(.int (1 : Int32)), (.int v86)])) _
      refine XS.icmpYes Y113.here hx rfl (pc0 := 392) (pc' := 455) rfl (hb hby at_392) rfl (tlt hs392_118).1 (by decide) (by decide) ?_
      refine XS.iload Y113.here hx rfl (hb hby at_455) rfl ?_
      exact retN Y113 hx (t := .boolean) Bd.returns (by simp) (hb hby at_457) hr
    · show Q0 Z q0 q1 q2 p3 h0 n0 _ T113.heap _
      refine ⟨congrArg (fun z => some (Value.int z)) (?_ : (nar .boolean (1 : Int32)) = 1), N113⟩
      decide
  · have hf119 : ¬ ((1 : Int32) = (0 : Int32)) := (by decide)
    have pre120 : Lead p e below G (T113.setTop (mkF m 402 #[.val (.long q0), .second, .val (.long q1), .second, .val (.long q2), .second, .val (.int p3), .val (.int v2), .val (.int v7), .val (.int v12), .val (.ref b13), .val (.int (v7 + (1 : Int32))), .val (.int (v2 + v12)), .val (.int v86), .val (.long v108), .second, .val (.int (1 : Int32))] [(.ref b13)])) := fun t k => by
      refine pre117 t ?_
      show Steps p.tables e below (T113.setTop (mkF m 392 #[.val (.long q0), .second, .val (.long q1), .second, .val (.long q2), .second, .val (.int p3), .val (.int v2), .val (.int v7), .val (.int v12), .val (.ref b13), .val (.int (v7 + (1 : Int32))), .val (.int (v2 + v12)), .val (.int v86), .val (.long v108), .second, .val (.int (1 : Int32))] [(.int (1 : Int32)), (.int v86)])) _
      refine XS.icmpNo Y113.here hx rfl (hb hby at_392) rfl (flt hs392_118).1 ?_
      show Steps p.tables e below (T113.setTop (mkF m 395 #[.val (.long q0), .second, .val (.long q1), .second, .val (.long q2), .second, .val (.int p3), .val (.int v2), .val (.int v7), .val (.int v12), .val (.ref b13), .val (.int (v7 + (1 : Int32))), .val (.int (v2 + v12)), .val (.int v86), .val (.long v108), .second, .val (.int (1 : Int32))] [])) _
      refine XS.iload Y113.here hx rfl (hb hby at_395) rfl ?_
      refine XS.ifNo Y113.here hx rfl (hb hby at_397) rfl ((if0 _ _).trans (feq hf119).1) ?_
      refine XS.aload Y113.here hx rfl (hb hby at_400) rfl rfl ?_
      show Steps p.tables e below (T113.setTop (mkF m 402 #[.val (.long q0), .second, .val (.long q1), .second, .val (.long q2), .second, .val (.int p3), .val (.int v2), .val (.int v7), .val (.int v12), .val (.ref b13), .val (.int (v7 + (1 : Int32))), .val (.int (v2 + v12)), .val (.int v86), .val (.long v108), .second, .val (.int (1 : Int32))] [(.ref b13)])) _
      exact k
    obtain ⟨cq121, kq121, q121a, q121b, q121c⟩ := isOf hZ e113 c84_0
    obtain ⟨_, _, ⟨T121, L121, k121, n121⟩, -, X121, ⟨Lc121, hQ121, l121, y121, z121⟩, st121⟩ := Y113.virtualBack hx (y := (⟨"com/example/lean_throttle/leanthrottle/TimeRing", "oldest", "()J"⟩ : MethodName)) (z := (⟨"com/example/lean_throttle/leanthrottle/TimeRing", "oldest", "()J"⟩ : MethodName)) hown (mvT hZ (hw _ (List.mem_of_getElem? (i := 69) rfl))) (mvT hZ (hw _ (List.mem_of_getElem? (i := 70) rfl))) (notFace_of_selects (args := #[]) (mvT hZ (hw _ (List.mem_of_getElem? (i := 72) rfl)))) (mvT hZ (hw _ (List.mem_of_getElem? (i := 72) rfl))) (mvT hZ (hw _ (List.mem_of_getElem? (i := 71) rfl))) (by decide) (backOf (W := 0) (rm14 l Z a0 hw [] b13 ra_77 rA_77 (AtI rf_77 (1 : Int32) rl_77) (rs_77 - (1 : Int32)) rl_77 (r2_77 (rf_77).toNatClampNeg) r1_77 r2_77 T84.heap n0 (Nat.le_trans Z0 K84.1) c84_0 c84_1 c84_2 c84_3 c84_4 c84_5 f114 f115 w77_2 w77_3 w77_4 (show 0 ≤ (AtI rf_77 (1 : Int32) rl_77).toInt ∧ (AtI rf_77 (1 : Int32) rl_77).toInt < rl_77.toInt from (own_hfi RL)) (show 0 ≤ (rs_77 - (1 : Int32)).toInt ∧ (rs_77 - (1 : Int32)).toInt ≤ rl_77.toInt from (own_hsz RL)) (show rl_77.toInt ≤ 4 from (own_hl4 RL))) hZ (hw _ (List.mem_of_getElem? (i := 73) rfl)) (hw _ (List.mem_of_getElem? (i := 6) rfl)) (by decide) (by decide)) q121a q121c (g := (mkF m 402 #[.val (.long q0), .second, .val (.long q1), .second, .val (.long q2), .second, .val (.int p3), .val (.int v2), .val (.int v7), .val (.int v12), .val (.ref b13), .val (.int (v7 + (1 : Int32))), .val (.int (v2 + v12)), .val (.int v86), .val (.long v108), .second, .val (.int (1 : Int32))] [(.ref b13)])) rfl (by rw [hml]; rfl) (Steps.refl _) (argsL := []) (rest := []) (lenOf pd__28__29_J rfl) rfl (by show 2 * 0 + _ ≤ _; exact Nat.le_of_eq rfl) (hb hby at_402) (fun _ _ => ⟨rfl, e113, (by decide : 17 + 0 ≤ _), (by decide : 63 + 0 ≤ _)⟩)
    dsimp only [Pt.U, Pt.locs, Pt.cells, Pt.slots] at X121 l121 y121 z121 st121 hQ121
    subst l121 y121 z121
    obtain ⟨rfl, N121q, e121⟩ := hQ121
    have N121 := Fr.app N113 N121q
    obtain ⟨M121, Y121, N121⟩ : ∃ M, Stand p l e room_1 s m #[(.long q0), (.long q1), (.long q2), (.int p3)] below meth c T121 M 17 63 ∧ Fr n0 M := ⟨_, X121, N121⟩
    have pre121 : Lead p e below G (T121.setTop (mkF m 405 #[.val (.long q0), .second, .val (.long q1), .second, .val (.long q2), .second, .val (.int p3), .val (.int v2), .val (.int v7), .val (.int v12), .val (.ref b13), .val (.int (v7 + (1 : Int32))), .val (.int (v2 + v12)), .val (.int v86), .val (.long v108), .second, .val (.int (1 : Int32))] [(.long (F14 (AtI rf_77 (1 : Int32) rl_77) r1_77))])) := fun t k => pre120 t (st121.trans k)
    have hf122 : (F14 (AtI rf_77 (1 : Int32) rl_77) r1_77) = (q0 + ((v7 + (1 : Int32)).toInt64)) := (own_old RL hnpq (own_lend hnpq q56_1) q77_1 (hv86 ▸ hs392_118))
    have pre123 : Lead p e below G (T121.setTop (mkF m 416 #[.val (.long q0), .second, .val (.long q1), .second, .val (.long q2), .second, .val (.int p3), .val (.int v2), .val (.int v7), .val (.int v12), .val (.ref b13), .val (.int (v7 + (1 : Int32))), .val (.int (v2 + v12)), .val (.int v86), .val (.long v108), .second, .val (.int (1 : Int32))] [(.ref b13)])) := fun t k => by
      refine pre121 t ?_
      show Steps p.tables e below (T121.setTop (mkF m 405 #[.val (.long q0), .second, .val (.long q1), .second, .val (.long q2), .second, .val (.int p3), .val (.int v2), .val (.int v7), .val (.int v12), .val (.ref b13), .val (.int (v7 + (1 : Int32))), .val (.int (v2 + v12)), .val (.int v86), .val (.long v108), .second, .val (.int (1 : Int32))] [(.long (F14 (AtI rf_77 (1 : Int32) rl_77) r1_77))])) _
      refine XS.lloadN Y121.here hx rfl (hb hby at_405) rfl ?_
      refine XS.iload Y121.here hx rfl (hb hby at_406) rfl ?_
      refine XS.i2l Y121.here hx rfl (hb hby at_408) rfl ?_
      show Steps p.tables e below (T121.setTop (mkF m 409 #[.val (.long q0), .second, .val (.long q1), .second, .val (.long q2), .second, .val (.int p3), .val (.int v2), .val (.int v7), .val (.int v12), .val (.ref b13), .val (.int (v7 + (1 : Int32))), .val (.int (v2 + v12)), .val (.int v86), .val (.long v108), .second, .val (.int (1 : Int32))] [(.long ((v7 + (1 : Int32)).toInt64)), (.long q0), (.long (F14 (AtI rf_77 (1 : Int32) rl_77) r1_77))])) _
      refine XS.ladd Y121.here hx rfl (hb hby at_409) rfl ?_
      refine XS.lcmp Y121.here hx rfl (hb hby at_410) rfl ?_
      refine XS.ifNo Y121.here hx rfl (hb hby at_411) rfl ((if0 _ _).trans (teq (own_lc_eq.mpr hf122)).2) ?_
      show Steps p.tables e below (T121.setTop (mkF m 414 #[.val (.long q0), .second, .val (.long q1), .second, .val (.long q2), .second, .val (.int p3), .val (.int v2), .val (.int v7), .val (.int v12), .val (.ref b13), .val (.int (v7 + (1 : Int32))), .val (.int (v2 + v12)), .val (.int v86), .val (.long v108), .second, .val (.int (1 : Int32))] [])) _
      refine XS.aload Y121.here hx rfl (hb hby at_414) rfl rfl ?_
      exact k
    obtain ⟨cq124, kq124, q124a, q124b, q124c⟩ := isOf hZ e121 c84_0
    obtain ⟨_, _, ⟨T124, L124, k124, n124⟩, -, X124, ⟨Lc124, hQ124, l124, y124, z124⟩, st124⟩ := Y121.virtualBack hx (y := (⟨"com/example/lean_throttle/leanthrottle/TimeRing", "newest", "()J"⟩ : MethodName)) (z := (⟨"com/example/lean_throttle/leanthrottle/TimeRing", "newest", "()J"⟩ : MethodName)) hown (mvT hZ (hw _ (List.mem_of_getElem? (i := 74) rfl))) (mvT hZ (hw _ (List.mem_of_getElem? (i := 75) rfl))) (notFace_of_selects (args := #[]) (mvT hZ (hw _ (List.mem_of_getElem? (i := 77) rfl)))) (mvT hZ (hw _ (List.mem_of_getElem? (i := 77) rfl))) (mvT hZ (hw _ (List.mem_of_getElem? (i := 76) rfl))) (by decide) (backOf (W := 0) (rm15 l Z a0 hw [] b13 ra_77 rA_77 (AtI rf_77 (1 : Int32) rl_77) (rs_77 - (1 : Int32)) rl_77 (r2_77 (rf_77).toNatClampNeg) r1_77 r2_77 T84.heap n0 (Nat.le_trans Z0 K84.1) c84_0 c84_1 c84_2 c84_3 c84_4 c84_5 f114 f115 w77_2 w77_3 w77_4 (show 0 ≤ (AtI rf_77 (1 : Int32) rl_77).toInt ∧ (AtI rf_77 (1 : Int32) rl_77).toInt < rl_77.toInt from (own_hfi RL)) (show 0 ≤ (rs_77 - (1 : Int32)).toInt ∧ (rs_77 - (1 : Int32)).toInt ≤ rl_77.toInt from (own_hsz RL)) (show rl_77.toInt ≤ 4 from (own_hl4 RL)) (show (0 : Int32) < (rs_77 - (1 : Int32)) from (own_pos RL (own_nl hnpq (own_lend hnpq q56_1) q77_1 (hv86 ▸ hs392_118))))) hZ (hw _ (List.mem_of_getElem? (i := 78) rfl)) (hw _ (List.mem_of_getElem? (i := 6) rfl)) (by decide) (by decide)) q124a q124c (g := (mkF m 416 #[.val (.long q0), .second, .val (.long q1), .second, .val (.long q2), .second, .val (.int p3), .val (.int v2), .val (.int v7), .val (.int v12), .val (.ref b13), .val (.int (v7 + (1 : Int32))), .val (.int (v2 + v12)), .val (.int v86), .val (.long v108), .second, .val (.int (1 : Int32))] [(.ref b13)])) rfl (by rw [hml]; rfl) (Steps.refl _) (argsL := []) (rest := []) (lenOf pd__28__29_J rfl) rfl (by show 2 * 0 + _ ≤ _; exact Nat.le_of_eq rfl) (hb hby at_416) (fun _ _ => ⟨rfl, e121, (by decide : 17 + 0 ≤ _), (by decide : 63 + 0 ≤ _)⟩)
    dsimp only [Pt.U, Pt.locs, Pt.cells, Pt.slots] at X124 l124 y124 z124 st124 hQ124
    subst l124 y124 z124
    obtain ⟨rfl, N124q, e124⟩ := hQ124
    have N124 := Fr.app N121 N124q
    obtain ⟨M124, Y124, N124⟩ : ∃ M, Stand p l e room_1 s m #[(.long q0), (.long q1), (.long q2), (.int p3)] below meth c T124 M 17 63 ∧ Fr n0 M := ⟨_, X124, N124⟩
    have pre124 : Lead p e below G (T124.setTop (mkF m 419 #[.val (.long q0), .second, .val (.long q1), .second, .val (.long q2), .second, .val (.int p3), .val (.int v2), .val (.int v7), .val (.int v12), .val (.ref b13), .val (.int (v7 + (1 : Int32))), .val (.int (v2 + v12)), .val (.int v86), .val (.long v108), .second, .val (.int (1 : Int32))] [(.long (F15 (AtI rf_77 (1 : Int32) rl_77) (rs_77 - (1 : Int32)) rl_77 r1_77))])) := fun t k => pre123 t (st124.trans k)
    have hf125 : (F15 (AtI rf_77 (1 : Int32) rl_77) (rs_77 - (1 : Int32)) rl_77 r1_77) = (q0 + (((v2 + v12) - (1 : Int32)).toInt64)) := (own_new RL hnpq (own_lend hnpq q56_1) q77_1 (hv86 ▸ hs392_118))
    have pre126 : Lead p e below G (T124.setTop (mkF m 433 #[.val (.long q0), .second, .val (.long q1), .second, .val (.long q2), .second, .val (.int p3), .val (.int v2), .val (.int v7), .val (.int v12), .val (.ref b13), .val (.int (v7 + (1 : Int32))), .val (.int (v2 + v12)), .val (.int v86), .val (.long v108), .second, .val (.int (1 : Int32))] [(.int (0 : Int32)), (.ref b13)])) := fun t k => by
      refine pre124 t ?_
      show Steps p.tables e below (T124.setTop (mkF m 419 #[.val (.long q0), .second, .val (.long q1), .second, .val (.long q2), .second, .val (.int p3), .val (.int v2), .val (.int v7), .val (.int v12), .val (.ref b13), .val (.int (v7 + (1 : Int32))), .val (.int (v2 + v12)), .val (.int v86), .val (.long v108), .second, .val (.int (1 : Int32))] [(.long (F15 (AtI rf_77 (1 : Int32) rl_77) (rs_77 - (1 : Int32)) rl_77 r1_77))])) _
      refine XS.lloadN Y124.here hx rfl (hb hby at_419) rfl ?_
      refine XS.iload Y124.here hx rfl (hb hby at_420) rfl ?_
      show Steps p.tables e below (T124.setTop (mkF m 422 #[.val (.long q0), .second, .val (.long q1), .second, .val (.long q2), .second, .val (.int p3), .val (.int v2), .val (.int v7), .val (.int v12), .val (.ref b13), .val (.int (v7 + (1 : Int32))), .val (.int (v2 + v12)), .val (.int v86), .val (.long v108), .second, .val (.int (1 : Int32))] [(.int (v2 + v12)), (.long q0), (.long (F15 (AtI rf_77 (1 : Int32) rl_77) (rs_77 - (1 : Int32)) rl_77 r1_77))])) _
      refine XS.iconst Y124.here hx rfl (hb hby at_422) ?_
      refine XS.isub Y124.here hx rfl (hb hby at_423) rfl ?_
      refine XS.i2l Y124.here hx rfl (hb hby at_424) rfl ?_
      show Steps p.tables e below (T124.setTop (mkF m 425 #[.val (.long q0), .second, .val (.long q1), .second, .val (.long q2), .second, .val (.int p3), .val (.int v2), .val (.int v7), .val (.int v12), .val (.ref b13), .val (.int (v7 + (1 : Int32))), .val (.int (v2 + v12)), .val (.int v86), .val (.long v108), .second, .val (.int (1 : Int32))] [(.long (((v2 + v12) - (1 : Int32)).toInt64)), (.long q0), (.long (F15 (AtI rf_77 (1 : Int32) rl_77) (rs_77 - (1 : Int32)) rl_77 r1_77))])) _
      refine XS.ladd Y124.here hx rfl (hb hby at_425) rfl ?_
      refine XS.lcmp Y124.here hx rfl (hb hby at_426) rfl ?_
      refine XS.ifNo Y124.here hx rfl (hb hby at_427) rfl ((if0 _ _).trans (teq (own_lc_eq.mpr hf125)).2) ?_
      show Steps p.tables e below (T124.setTop (mkF m 430 #[.val (.long q0), .second, .val (.long q1), .second, .val (.long q2), .second, .val (.int p3), .val (.int v2), .val (.int v7), .val (.int v12), .val (.ref b13), .val (.int (v7 + (1 : Int32))), .val (.int (v2 + v12)), .val (.int v86), .val (.long v108), .second, .val (.int (1 : Int32))] [])) _
      refine XS.aload Y124.here hx rfl (hb hby at_430) rfl rfl ?_
      refine XS.iconst Y124.here hx rfl (hb hby at_432) ?_
      exact k
    obtain ⟨cq127, kq127, q127a, q127b, q127c⟩ := isOf hZ e124 c84_0
    obtain ⟨_, _, ⟨T127, L127, k127, n127⟩, -, X127, ⟨Lc127, hQ127, l127, y127, z127⟩, st127⟩ := Y124.virtualBack hx (y := (⟨"com/example/lean_throttle/leanthrottle/TimeRing", "unitsOf", "(I)J"⟩ : MethodName)) (z := (⟨"com/example/lean_throttle/leanthrottle/TimeRing", "unitsOf", "(I)J"⟩ : MethodName)) hown (mvT hZ (hw _ (List.mem_of_getElem? (i := 79) rfl))) (mvT hZ (hw _ (List.mem_of_getElem? (i := 80) rfl))) (notFace_of_selects (args := #[]) (mvT hZ (hw _ (List.mem_of_getElem? (i := 82) rfl)))) (mvT hZ (hw _ (List.mem_of_getElem? (i := 82) rfl))) (mvT hZ (hw _ (List.mem_of_getElem? (i := 81) rfl))) (by decide) (backOf (W := 0) (rm16 l Z a0 hw [] b13 ra_77 rA_77 (AtI rf_77 (1 : Int32) rl_77) (rs_77 - (1 : Int32)) rl_77 (r2_77 (rf_77).toNatClampNeg) r1_77 r2_77 T84.heap n0 (Nat.le_trans Z0 K84.1) c84_0 c84_1 c84_2 c84_3 c84_4 c84_5 f114 f115 w77_2 w77_3 w77_4 (show 0 ≤ (AtI rf_77 (1 : Int32) rl_77).toInt ∧ (AtI rf_77 (1 : Int32) rl_77).toInt < rl_77.toInt from (own_hfi RL)) (show 0 ≤ (rs_77 - (1 : Int32)).toInt ∧ (rs_77 - (1 : Int32)).toInt ≤ rl_77.toInt from (own_hsz RL)) (show rl_77.toInt ≤ 4 from (own_hl4 RL))) hZ (hw _ (List.mem_of_getElem? (i := 83) rfl)) (hw _ (List.mem_of_getElem? (i := 6) rfl)) (by decide) (by decide)) q127a q127c (g := (mkF m 433 #[.val (.long q0), .second, .val (.long q1), .second, .val (.long q2), .second, .val (.int p3), .val (.int v2), .val (.int v7), .val (.int v12), .val (.ref b13), .val (.int (v7 + (1 : Int32))), .val (.int (v2 + v12)), .val (.int v86), .val (.long v108), .second, .val (.int (1 : Int32))] [(.int (0 : Int32)), (.ref b13)])) rfl (by rw [hml]; rfl) (Steps.refl _) (argsL := [(.int (0 : Int32))]) (rest := []) (lenOf pd__28_I_29_J rfl) rfl (by show 2 * 0 + _ ≤ _; exact Nat.le_of_eq rfl) (hb hby at_433) (fun _ _ => ⟨rfl, e124, (by decide : 17 + 0 ≤ _), (by decide : 63 + 0 ≤ _)⟩)
    dsimp only [Pt.U, Pt.locs, Pt.cells, Pt.slots] at X127 l127 y127 z127 st127 hQ127
    subst l127 y127 z127
    obtain ⟨rfl, N127q, e127⟩ := hQ127
    have N127 := Fr.app N124 N127q
    obtain ⟨M127, Y127, N127⟩ : ∃ M, Stand p l e room_1 s m #[(.long q0), (.long q1), (.long q2), (.int p3)] below meth c T127 M 17 63 ∧ Fr n0 M := ⟨_, X127, N127⟩
    have pre127 : Lead p e below G (T127.setTop (mkF m 436 #[.val (.long q0), .second, .val (.long q1), .second, .val (.long q2), .second, .val (.int p3), .val (.int v2), .val (.int v7), .val (.int v12), .val (.ref b13), .val (.int (v7 + (1 : Int32))), .val (.int (v2 + v12)), .val (.int v86), .val (.long v108), .second, .val (.int (1 : Int32))] [(.long (F16 (AtI rf_77 (1 : Int32) rl_77) rl_77 (r2_77 (rf_77).toNatClampNeg) r2_77))])) := fun t k => pre126 t (st127.trans k)
    have pre128 : Lead p e below G (T127.setTop (mkF m 441 #[.val (.long q0), .second, .val (.long q1), .second, .val (.long q2), .second, .val (.int p3), .val (.int v2), .val (.int v7), .val (.int v12), .val (.ref b13), .val (.int (v7 + (1 : Int32))), .val (.int (v2 + v12)), .val (.int v86), .val (.long v108), .second, .val (.int (1 : Int32))] [(.long q2), (.long q1), (.int (v7 + (1 : Int32))), (.long (F16 (AtI rf_77 (1 : Int32) rl_77) rl_77 (r2_77 (rf_77).toNatClampNeg) r2_77))])) := fun t k => by
      refine pre127 t ?_
      show Steps p.tables e below (T127.setTop (mkF m 436 #[.val (.long q0), .second, .val (.long q1), .second, .val (.long q2), .second, .val (.int p3), .val (.int v2), .val (.int v7), .val (.int v12), .val (.ref b13), .val (.int (v7 + (1 : Int32))), .val (.int (v2 + v12)), .val (.int v86), .val (.long v108), .second, .val (.int (1 : Int32))] [(.long (F16 (AtI rf_77 (1 : Int32) rl_77) rl_77 (r2_77 (rf_77).toNatClampNeg) r2_77))])) _
      refine XS.iload Y127.here hx rfl (hb hby at_436) rfl ?_
      show Steps p.tables e below (T127.setTop (mkF m 438 #[.val (.long q0), .second, .val (.long q1), .second, .val (.long q2), .second, .val (.int p3), .val (.int v2), .val (.int v7), .val (.int v12), .val (.ref b13), .val (.int (v7 + (1 : Int32))), .val (.int (v2 + v12)), .val (.int v86), .val (.long v108), .second, .val (.int (1 : Int32))] [(.int (v7 + (1 : Int32))), (.long (F16 (AtI rf_77 (1 : Int32) rl_77) rl_77 (r2_77 (rf_77).toNatClampNeg) r2_77))])) _
      refine XS.lloadN Y127.here hx rfl (hb hby at_438) rfl ?_
      refine XS.lload Y127.here hx rfl (hb hby at_439) rfl ?_
      exact k
    obtain ⟨v129, hv129⟩ : ∃ z : Int64, z = (F16 (AtI rf_77 (1 : Int32) rl_77) rl_77 (r2_77 (rf_77).toNatClampNeg) r2_77) := ⟨_, rfl⟩
    have pre129 : Lead p e below G (T127.setTop (mkF m 441 #[.val (.long q0), .second, .val (.long q1), .second, .val (.long q2), .second, .val (.int p3), .val (.int v2), .val (.int v7), .val (.int v12), .val (.ref b13), .val (.int (v7 + (1 : Int32))), .val (.int (v2 + v12)), .val (.int v86), .val (.long v108), .second, .val (.int (1 : Int32))] [(.long q2), (.long q1), (.int (v7 + (1 : Int32))), (.long v129)])) := by rw [hv129]; exact pre128
    obtain ⟨_, _, ⟨T130, L130, k130, n130⟩, -, X130, ⟨Lc130, hQ130, l130, y130, z130⟩, st130⟩ := Jvm.LawKit.callS Y127 hx (y := (⟨"com/example/lean_throttle/leanthrottle/TimeRingDropOldestPinLaw", "u", "(IJJ)J"⟩ : MethodName)) hown (mvT hZ (hw _ (List.mem_of_getElem? (i := 18) rfl))) (mvT hZ (hw _ (List.mem_of_getElem? (i := 19) rfl))) (mvT hZ (hw _ (List.mem_of_getElem? (i := 20) rfl))) (mvT hZ (hw _ (List.mem_of_getElem? (i := 21) rfl))) (by decide) (backOf (W := 2) (rm4 l Z a0 hw [] (v7 + (1 : Int32)) q1 q2  T84.heap n0 (Nat.le_trans Z0 K84.1) ) hZ (hw _ (List.mem_of_getElem? (i := 21) rfl)) (hw _ (List.mem_of_getElem? (i := 20) rfl)) (by decide) (by decide)) (g := (mkF m 441 #[.val (.long q0), .second, .val (.long q1), .second, .val (.long q2), .second, .val (.int p3), .val (.int v2), .val (.int v7), .val (.int v12), .val (.ref b13), .val (.int (v7 + (1 : Int32))), .val (.int (v2 + v12)), .val (.int v86), .val (.long v108), .second, .val (.int (1 : Int32))] [(.long q2), (.long q1), (.int (v7 + (1 : Int32))), (.long v129)])) rfl (by rw [hml]; rfl) (argsL := [(.int (v7 + (1 : Int32))), (.long q1), (.long q2)]) (rest := [(.long v129)]) (lenOf pd__28_IJJ_29_J rfl) rfl (by show 2 * 0 + _ ≤ _; exact Nat.le_of_eq rfl) (hb hby at_441) (fun _ _ => ⟨rfl, e127, (by decide : 17 + 0 ≤ _), (by decide : 63 + 0 ≤ _)⟩)
    dsimp only [Pt.U, Pt.locs, Pt.cells, Pt.slots] at X130 l130 y130 z130 st130 hQ130
    subst l130 y130 z130
    obtain ⟨rfl, N130q, e130⟩ := hQ130
    have N130 := Fr.app N127 N130q
    obtain ⟨M130, Y130, N130⟩ : ∃ M, Stand p l e room_1 s m #[(.long q0), (.long q1), (.long q2), (.int p3)] below meth c T130 M 17 63 ∧ Fr n0 M := ⟨_, X130, N130⟩
    have pre130 : Lead p e below G (T130.setTop (mkF m 444 #[.val (.long q0), .second, .val (.long q1), .second, .val (.long q2), .second, .val (.int p3), .val (.int v2), .val (.int v7), .val (.int v12), .val (.ref b13), .val (.int (v7 + (1 : Int32))), .val (.int (v2 + v12)), .val (.int v86), .val (.long v108), .second, .val (.int (1 : Int32))] [(.long (F4 (v7 + (1 : Int32)) q1 q2)), (.long v129)])) := fun t k => pre129 t (st130 _ k)
    have hf131 : v129 = (F4 (v7 + (1 : Int32)) q1 q2) := ((by rw [hv129]; exact own_u0 RL hnpq (own_lend hnpq q56_1) q77_1 (hv86 ▸ hs392_118)))
    obtain ⟨fs, hr, hrun, hended, hW, hsame⟩ := Y130.leave (v := some (.int (nar .boolean (1 : Int32)))) (fun h => by rw [Bd.returns] at h; cases h)
    have preF : Lead p e below (s₁.setTop (entryFrame m #[(.long q0), (.long q1), (.long q2), (.int p3)] maxLocals)) (T130.setTop (mkF m 444 #[.val (.long q0), .second, .val (.long q1), .second, .val (.long q2), .second, .val (.int p3), .val (.int v2), .val (.int v7), .val (.int v12), .val (.ref b13), .val (.int (v7 + (1 : Int32))), .val (.int (v2 + v12)), .val (.int v86), .val (.long v108), .second, .val (.int (1 : Int32))] [(.long (F4 (v7 + (1 : Int32)) q1 q2)), (.long v129)])) := by rw [← hG]; exact pre130
    refine ⟨_, _, preF _ ?_, hrun, hended, _, _, rfl, ?_, ⟨_, rfl⟩, hW, hsame.mono (by decide) (by decide)⟩
    · show Steps p.tables e below (T130.setTop (mkF m 444 #[.val (.long q0), .second, .val (.long q1), .second, .val (.long q2), .second, .val (.int p3), .val (.int v2), .val (.int v7), .val (.int v12), .val (.ref b13), .val (.int (v7 + (1 : Int32))), .val (.int (v2 + v12)), .val (.int v86), .val (.long v108), .second, .val (.int (1 : Int32))] [(.long (F4 (v7 + (1 : Int32)) q1 q2)), (.long v129)])) _
      refine XS.lcmp Y130.here hx rfl (hb hby at_444) rfl ?_
      show Steps p.tables e below (T130.setTop (mkF m 445 #[.val (.long q0), .second, .val (.long q1), .second, .val (.long q2), .second, .val (.int p3), .val (.int v2), .val (.int v7), .val (.int v12), .val (.ref b13), .val (.int (v7 + (1 : Int32))), .val (.int (v2 + v12)), .val (.int v86), .val (.long v108), .second, .val (.int (1 : Int32))] [(.int (lcmpW v129 (F4 (v7 + (1 : Int32)) q1 q2)))])) _
      refine XS.ifNo Y130.here hx rfl (hb hby at_445) rfl ((if0 _ _).trans (teq (own_lc_eq.mpr hf131)).2) ?_
      refine XS.iconst Y130.here hx rfl (hb hby at_448) ?_
      refine XS.goto Y130.here hx rfl (pc0 := 449) (pc' := 453) rfl (hb hby at_449) (by decide) (by decide) ?_
      show Steps p.tables e below (T130.setTop (mkF m 453 #[.val (.long q0), .second, .val (.long q1), .second, .val (.long q2), .second, .val (.int p3), .val (.int v2), .val (.int v7), .val (.int v12), .val (.ref b13), .val (.int (v7 + (1 : Int32))), .val (.int (v2 + v12)), .val (.int v86), .val (.long v108), .second, .val (.int (1 : Int32))] [(.int (1 : Int32))])) _
      refine XS.istore Y130.here hx rfl (hb hby at_453) rfl (l' := #[.val (.long q0), .second, .val (.long q1), .second, .val (.long q2), .second, .val (.int p3), .val (.int v2), .val (.int v7), .val (.int v12), .val (.ref b13), .val (.int (v7 + (1 : Int32))), .val (.int (v2 + v12)), .val (.int v86), .val (.long v108), .second, .val (.int (1 : Int32))]) rfl ?_
      refine XS.iload Y130.here hx rfl (hb hby at_455) rfl ?_
      exact retN Y130 hx (t := .boolean) Bd.returns (by simp) (hb hby at_457) hr
    · show Q0 Z q0 q1 q2 p3 h0 n0 _ T130.heap _
      refine ⟨congrArg (fun z => some (Value.int z)) (?_ : (nar .boolean (1 : Int32)) = 1), N130⟩
      decide
set_option maxRecDepth 65536 in
set_option maxHeartbeats 40000000 in
theorem comes_1 {Post : Tables → Env → Array Value → State → Outcome → State → Prop} (hpost : ∀ tb e args s v u, (limb_1_1.after args s (.returned v) u = true ∧ limb_1_2.after args s (.returned v) u = true ∧ True) → FrameEnd s (.returned v) u (Jvm.fieldLocs frame_1_writes args s ++ Jvm.arrayLocs frame_1_arrays args s ++ Jvm.staticLocs frame_1_statics s) 24 128 → Post tb e args s (.returned v) u) :
    ArmFor flags0 classFile x code maxLocals ret World_1 tables_1 room_1 Calls_1 rest_1 Pre_1 Post := by
  intro l hfl _ _ p e ha hc hk s m args below hf hA hF happ hP
  obtain ⟨hcalls, hrest, hpre⟩ := hP
  obtain ⟨-, -, -, hnamed, -, -, -, hat⟩ := (Spec.applies_iff hf).mp happ
  obtain ⟨hg, hn⟩ := and_e (Cond.before_iff.mp (show (Jvm.Cond.and given_1 narrow_1).before args s = true from hpre))
  obtain ⟨g1, g2⟩ := and_e hg
  obtain ⟨g3, g4⟩ := and_e g2
  obtain ⟨g5, g6⟩ := and_e g4
  obtain ⟨g7, g8⟩ := and_e g6
  obtain ⟨w0, w1, w2, w3, rfl⟩ : ∃ w0 w1 w2 w3 : Value, args = #[w0, w1, w2, w3] := by
    have hs : args.size = 4 := by simpa [Cond.value, given_1] using g1
    obtain ⟨L⟩ := args
    match L, hs with
    | [w0, w1, w2, w3], _ => exact ⟨w0, w1, w2, w3, rfl⟩
  have hw := fun d (hd : d ∈ tables_1) => atoms_spec (ws := Jvm.Cond.code x code maxLocals ret :: tables_1) hat d (List.mem_cons_of_mem _ hd)
  obtain ⟨i0, ei0⟩ := isL_v g3
  obtain rfl : w0 = (.long i0) := Option.some.inj ei0
  obtain ⟨i1, ei1⟩ := isL_v g5
  obtain rfl : w1 = (.long i1) := Option.some.inj ei1
  obtain ⟨i2, ei2⟩ := isL_v g7
  obtain rfl : w2 = (.long i2) := Option.some.inj ei2
  obtain ⟨i3, ei3⟩ := is_v g8
  obtain rfl : w3 = (.int i3) := Option.some.inj ei3
  obtain ⟨n, o, h1, h2, h3, _, L, rfl, ⟨rfl, N⟩, hq⟩ := rm0 l s _ hw tables_1 i0 i1 i2 i3 s.heap s.heap.size (Nat.le_refl _) p e ha hc hk s m _ below hf ((Spec.applies_iff_loose hf).mp happ).1 ⟨rfl, State.Warmed39.refl s, rfl⟩ trivial
  refine ⟨n, _, h1, h2, h3, hpost _ _ _ _ _ _ ⟨Cond.after_iff.mpr rfl, Cond.after_iff.mpr (eq_i res_at (Term.int_eval (1)) rfl), trivial⟩ ⟨hq.1, hq.2.1, (hq.2.2.sift fun y hy => Or.inr (N y hy)).mono (by decide) (by decide)⟩⟩
theorem main_1_1 : Claimed_1_1 := comes_1 fun _ _ _ _ _ _ h hF => ⟨h.1, hF⟩
theorem main_1_2 : Claimed_1_2 := comes_1 fun _ _ _ _ _ _ h hF => ⟨h.2.1, hF⟩
end Jvm.Pilot.@@N@@
namespace Jvm.Pilot.@@N@@
open Jvm Jvm.ClassFile Sem Op Lib Jvm.Free Jvm.Stand Jvm.Pilot.@@N@@.Jvm.D
/-! MADE BY PROGRAM (witnessworld.py) out of the Statement's table words and the real class files: 12 classes; the members and pool entries that the words name. The judged class is class 1, her method 3. -/
namespace start1
open Jvm.ClassFile
def u (s : String) : CpInfo := .utf8 (stringToUtf16 s)
/-- a pool by its gaps: so many unusable entries, then the entry; so many at the end -/
def gap : Nat → List CpInfo → List CpInfo
  | 0, r => r
  | n + 1, r => .unusable :: gap n r
def poolList (es : List (Nat × CpInfo)) (last : Nat) : List CpInfo := es.foldr (fun e r => gap e.1 (e.2 :: r)) (gap last [])
def pool (es : List (Nat × CpInfo)) (last : Nat) : Array CpInfo := ⟨poolList es last⟩
def fileOf (pool : Array CpInfo) (this : Nat) (attrs : Array Attribute := #[]) (ms : Array MethodInfo := #[]) (fl : Nat := 33) (sup : Nat := 0) (ifs : Array Nat := #[]) (fds : Array FieldInfo := #[]) : ClassFile where
  minorVersion := 0
  majorVersion := 65
  constantPool := pool
  accessFlags := fl
  thisClass := this
  superClass := sup
  interfaces := ifs
  fields := fds
  methods := ms
  attributes := attrs
def plain (name : String) (sup : Option ClassId) : Class where
  name := name
  kind := .ordinary
  loader := none
  accessFlags := 33
  super := sup
  interfaces := #[]
  cf := none
  fields := #[]
  methods := #[]
  instanceTypes := #[]
  staticTypes := #[]
  resolved := #[]
  callSites := []
  init := .initialized
  statics := none
  mirror := none

def pool0 : Array CpInfo := pool [(5, u "<init>"), (0, u "()V"), (1, .class_ 10), (1, u "java/lang/Object")] 113

def k0c0 : Code := { maxStack := 0, maxLocals := 1, code := object_method_1_code, exceptionTable := #[], attributes := #[] }
def k0m0 : Method := { name := "<init>", desc := "()V", sig := { parameters := [], returnType := none }, accessFlags := 1, code := some k0c0 }
/-- java/lang/Object -/
def k0 : Class := { plain "java/lang/Object" none with
  accessFlags := 33
  interfaces := #[]
  cf := some (fileOf pool0 8 #[] #[{ accessFlags := 1, nameIndex := 5, descriptorIndex := 6, attributes := #[] }] 33 0 #[] #[])
  fields := #[]
  methods := #[k0m0]
  instanceTypes := #[]
  staticTypes := #[]
  resolved := Array.replicate 124 none
  statics := none }

def pool1 : Array CpInfo := pool [(2, .class_ 4), (0, .nameAndType 5 6), (0, u "java/lang/Object"), (0, u "<init>"), (0, u "()V"), (0, .long 1152921504606846975), (1, .methodref 10 11), (0, .class_ 12), (0, .nameAndType 13 14), (0, u "com/example/lean_throttle/leanthrottle/TimeRingDropOldestPinLaw"), (0, u "u"), (0, u "(IJJ)J"), (0, .methodref 16 17), (0, .class_ 18), (0, .nameAndType 19 20), (0, u "java/lang/Math"), (0, u "min"), (0, u "(II)I"), (0, .class_ 22), (0, u "com/example/lean_throttle/leanthrottle/TimeRing"), (0, .methodref 21 3), (0, .methodref 21 25), (0, .nameAndType 26 27), (0, u "add"), (0, u "(JJI)V"), (0, .long 2), (1, .long 3), (1, .methodref 21 33), (0, .nameAndType 34 6), (0, u "dropOldest"), (0, .methodref 10 36), (0, .nameAndType 37 38), (0, u "part"), (0, u "(IIIJJ)J"), (0, .methodref 21 40), (0, .nameAndType 41 42), (0, u "size"), (0, u "()I"), (0, .methodref 21 44), (0, .nameAndType 45 46), (0, u "units"), (0, u "()J"), (0, .methodref 21 48), (0, .nameAndType 49 46), (0, u "oldest"), (0, .methodref 21 51), (0, .nameAndType 52 46), (0, u "newest"), (0, .methodref 21 54), (0, .nameAndType 55 56), (0, u "unitsOf"), (0, u "(I)J"), (3, u "law"), (0, u "(JJJI)Z")] 2

def k1m0 : Method := { name := "<init>", desc := "()V", sig := { parameters := [], returnType := none }, accessFlags := 1, code := none }
def k1c1 : Code := { maxStack := 4, maxLocals := 7, code := method_2_code, exceptionTable := #[], attributes := #[] }
def k1m1 : Method := { name := "u", desc := "(IJJ)J", sig := { parameters := [.int, .long, .long], returnType := some .long }, accessFlags := 10, code := some k1c1 }
def k1c2 : Code := { maxStack := 5, maxLocals := 7, code := method_3_code, exceptionTable := #[], attributes := #[] }
def k1m2 : Method := { name := "part", desc := "(IIIJJ)J", sig := { parameters := [.int, .int, .int, .long, .long], returnType := some .long }, accessFlags := 10, code := some k1c2 }
def k1c3 : Code := { maxStack := 9, maxLocals := 17, code := code, exceptionTable := #[], attributes := #[] }
def k1m3 : Method := { name := "law", desc := "(JJJI)Z", sig := { parameters := [.long, .long, .long, .int], returnType := some .boolean }, accessFlags := 9, code := some k1c3 }
/-- com/example/lean_throttle/leanthrottle/TimeRingDropOldestPinLaw -/
def k1 : Class := { plain "com/example/lean_throttle/leanthrottle/TimeRingDropOldestPinLaw" (some 0) with
  accessFlags := 49
  interfaces := #[]
  cf := some (fileOf pool1 10 #[] #[{ accessFlags := 1, nameIndex := 5, descriptorIndex := 6, attributes := #[] }, { accessFlags := 10, nameIndex := 13, descriptorIndex := 14, attributes := #[] }, { accessFlags := 10, nameIndex := 37, descriptorIndex := 38, attributes := #[] }, { accessFlags := 9, nameIndex := 60, descriptorIndex := 61, attributes := #[] }] 49 2 #[] #[])
  fields := #[]
  methods := #[k1m0, k1m1, k1m2, k1m3]
  instanceTypes := #[]
  staticTypes := #[]
  resolved := Array.replicate 64 none
  statics := none }

def pool2 : Array CpInfo := pool [(1, .class_ 2), (0, u "java/lang/Math"), (1, .class_ 6), (1, u "java/lang/Object"), (0, u "<init>"), (0, u "()V"), (89, .class_ 100), (1, u "java/lang/Math$RandomNumberGeneratorHolder"), (20, u "(JJ)J"), (50, u "negativeZeroFloatBits"), (0, u "J"), (2, u "negativeZeroDoubleBits"), (24, u "min"), (43, u "$assertionsDisabled"), (0, u "Z"), (88, u "(II)I"), (2, u "twoToTheDoubleScaleDown"), (0, u "D"), (4, u "twoToTheDoubleScaleUp"), (9, u "E"), (3, u "PI"), (2, u "TAU"), (2, u "DEGREES_TO_RADIANS"), (0, u "RADIANS_TO_DEGREES")] 94

def k2m0 : Method := { name := "<init>", desc := "()V", sig := { parameters := [], returnType := none }, accessFlags := 2, code := none }
def k2c1 : Code := { maxStack := 2, maxLocals := 2, code := jdk_29_method_69_code, exceptionTable := #[], attributes := #[] }
def k2m1 : Method := { name := "min", desc := "(II)I", sig := { parameters := [.int, .int], returnType := some .int }, accessFlags := 9, code := some k2c1 }
def k2c2 : Code := { maxStack := 4, maxLocals := 4, code := jdk_29_method_70_code, exceptionTable := #[], attributes := #[] }
def k2m2 : Method := { name := "min", desc := "(JJ)J", sig := { parameters := [.long, .long], returnType := some .long }, accessFlags := 9, code := some k2c2 }
/-- java/lang/Math -/
def k2 : Class := { plain "java/lang/Math" (some 0) with
  accessFlags := 49
  interfaces := #[]
  cf := some (fileOf pool2 1 #[.nestMembers #[98]] #[{ accessFlags := 2, nameIndex := 7, descriptorIndex := 8, attributes := #[] }, { accessFlags := 9, nameIndex := 201, descriptorIndex := 335, attributes := #[] }, { accessFlags := 9, nameIndex := 201, descriptorIndex := 121, attributes := #[] }] 49 4 #[] #[{ accessFlags := 25, nameIndex := 354, descriptorIndex := 339, attributes := #[] }, { accessFlags := 25, nameIndex := 358, descriptorIndex := 339, attributes := #[] }, { accessFlags := 25, nameIndex := 361, descriptorIndex := 339, attributes := #[] }, { accessFlags := 26, nameIndex := 364, descriptorIndex := 339, attributes := #[] }, { accessFlags := 26, nameIndex := 365, descriptorIndex := 339, attributes := #[] }, { accessFlags := 26, nameIndex := 172, descriptorIndex := 173, attributes := #[] }, { accessFlags := 26, nameIndex := 176, descriptorIndex := 173, attributes := #[] }, { accessFlags := 8, nameIndex := 344, descriptorIndex := 339, attributes := #[] }, { accessFlags := 8, nameIndex := 338, descriptorIndex := 339, attributes := #[] }, { accessFlags := 4120, nameIndex := 245, descriptorIndex := 246, attributes := #[] }])
  fields := #[{ name := "E", type := .double, accessFlags := 25, slot := 0, constantValue := 0 }, { name := "PI", type := .double, accessFlags := 25, slot := 1, constantValue := 0 }, { name := "TAU", type := .double, accessFlags := 25, slot := 2, constantValue := 0 }, { name := "DEGREES_TO_RADIANS", type := .double, accessFlags := 26, slot := 3, constantValue := 0 }, { name := "RADIANS_TO_DEGREES", type := .double, accessFlags := 26, slot := 4, constantValue := 0 }, { name := "negativeZeroFloatBits", type := .long, accessFlags := 26, slot := 5, constantValue := 0 }, { name := "negativeZeroDoubleBits", type := .long, accessFlags := 26, slot := 6, constantValue := 0 }, { name := "twoToTheDoubleScaleUp", type := .double, accessFlags := 8, slot := 7, constantValue := 0 }, { name := "twoToTheDoubleScaleDown", type := .double, accessFlags := 8, slot := 8, constantValue := 0 }, { name := "$assertionsDisabled", type := .boolean, accessFlags := 4120, slot := 9, constantValue := 0 }]
  methods := #[k2m0, k2m1, k2m2]
  instanceTypes := #[]
  staticTypes := #[.double, .double, .double, .double, .double, .long, .long, .double, .double, .boolean]
  resolved := Array.replicate 460 none
  statics := none }

def pool3 : Array CpInfo := pool [(1, .methodref 2 3), (0, .class_ 4), (0, .nameAndType 5 6), (0, u "java/lang/Object"), (0, u "<init>"), (0, u "()V"), (0, .fieldref 8 9), (0, .class_ 10), (0, .nameAndType 11 12), (0, u "com/example/lean_throttle/leanthrottle/TimeRing"), (0, u "times"), (0, u "[J"), (0, .fieldref 8 14), (0, .nameAndType 15 12), (0, u "totals"), (0, .fieldref 8 17), (0, .nameAndType 18 19), (0, u "size"), (0, u "I"), (0, .fieldref 8 21), (0, .nameAndType 22 19), (0, u "first"), (0, .methodref 8 24), (0, .nameAndType 25 26), (0, u "at"), (0, u "(I)I"), (0, .methodref 8 28), (0, .nameAndType 29 30), (0, u "newestTotal"), (0, u "()J"), (0, .fieldref 8 32), (0, .nameAndType 33 34), (0, u "totalBefore"), (0, u "J"), (1, .class_ 38), (1, u "java/lang/Math"), (1, u "(JJ)J"), (0, .long 2), (1, .methodref 36 44), (0, .nameAndType 45 40), (0, u "min"), (0, .methodref 8 47), (0, .nameAndType 48 49), (0, u "unwrapped"), (0, u "([JI)[J"), (2, u "()I"), (0, u "oldest"), (0, u "newest"), (1, u "(I)J"), (0, u "units"), (0, u "unitsOf"), (3, u "dropOldest"), (0, u "add"), (0, u "(JJI)V")] 3

def k3c0 : Code := { maxStack := 2, maxLocals := 1, code := prog_21_method_1_code, exceptionTable := #[], attributes := #[] }
def k3m0 : Method := { name := "<init>", desc := "()V", sig := { parameters := [], returnType := none }, accessFlags := 0, code := some k3c0 }
def k3c1 : Code := { maxStack := 1, maxLocals := 1, code := prog_21_method_2_code, exceptionTable := #[], attributes := #[] }
def k3m1 : Method := { name := "size", desc := "()I", sig := { parameters := [], returnType := some .int }, accessFlags := 0, code := some k3c1 }
def k3c2 : Code := { maxStack := 2, maxLocals := 1, code := prog_21_method_3_code, exceptionTable := #[], attributes := #[] }
def k3m2 : Method := { name := "oldest", desc := "()J", sig := { parameters := [], returnType := some .long }, accessFlags := 0, code := some k3c2 }
def k3c3 : Code := { maxStack := 4, maxLocals := 1, code := prog_21_method_4_code, exceptionTable := #[], attributes := #[] }
def k3m3 : Method := { name := "newest", desc := "()J", sig := { parameters := [], returnType := some .long }, accessFlags := 0, code := some k3c3 }
def k3c4 : Code := { maxStack := 4, maxLocals := 1, code := prog_21_method_6_code, exceptionTable := #[], attributes := #[] }
def k3m4 : Method := { name := "units", desc := "()J", sig := { parameters := [], returnType := some .long }, accessFlags := 0, code := some k3c4 }
def k3c5 : Code := { maxStack := 4, maxLocals := 4, code := prog_21_method_7_code, exceptionTable := #[], attributes := #[] }
def k3m5 : Method := { name := "unitsOf", desc := "(I)J", sig := { parameters := [.int], returnType := some .long }, accessFlags := 0, code := some k3c5 }
def k3c6 : Code := { maxStack := 3, maxLocals := 1, code := prog_21_method_9_code, exceptionTable := #[], attributes := #[] }
def k3m6 : Method := { name := "dropOldest", desc := "()V", sig := { parameters := [], returnType := none }, accessFlags := 0, code := some k3c6 }
def k3c7 : Code := { maxStack := 6, maxLocals := 11, code := prog_21_method_10_code, exceptionTable := #[], attributes := #[] }
def k3m7 : Method := { name := "add", desc := "(JJI)V", sig := { parameters := [.long, .long, .int], returnType := none }, accessFlags := 0, code := some k3c7 }
def k3c8 : Code := { maxStack := 4, maxLocals := 1, code := prog_21_method_11_code, exceptionTable := #[], attributes := #[] }
def k3m8 : Method := { name := "newestTotal", desc := "()J", sig := { parameters := [], returnType := some .long }, accessFlags := 2, code := some k3c8 }
def k3c9 : Code := { maxStack := 5, maxLocals := 5, code := prog_21_method_12_code, exceptionTable := #[], attributes := #[] }
def k3m9 : Method := { name := "unwrapped", desc := "([JI)[J", sig := { parameters := [(.array .long), .int], returnType := some (.array .long) }, accessFlags := 2, code := some k3c9 }
def k3c10 : Code := { maxStack := 2, maxLocals := 3, code := prog_21_method_13_code, exceptionTable := #[], attributes := #[] }
def k3m10 : Method := { name := "at", desc := "(I)I", sig := { parameters := [.int], returnType := some .int }, accessFlags := 2, code := some k3c10 }
/-- com/example/lean_throttle/leanthrottle/TimeRing -/
def k3 : Class := { plain "com/example/lean_throttle/leanthrottle/TimeRing" (some 0) with
  accessFlags := 32
  interfaces := #[]
  cf := some (fileOf pool3 8 #[] #[{ accessFlags := 0, nameIndex := 5, descriptorIndex := 6, attributes := #[] }, { accessFlags := 0, nameIndex := 18, descriptorIndex := 52, attributes := #[] }, { accessFlags := 0, nameIndex := 53, descriptorIndex := 30, attributes := #[] }, { accessFlags := 0, nameIndex := 54, descriptorIndex := 30, attributes := #[] }, { accessFlags := 0, nameIndex := 57, descriptorIndex := 30, attributes := #[] }, { accessFlags := 0, nameIndex := 58, descriptorIndex := 56, attributes := #[] }, { accessFlags := 0, nameIndex := 62, descriptorIndex := 6, attributes := #[] }, { accessFlags := 0, nameIndex := 63, descriptorIndex := 64, attributes := #[] }, { accessFlags := 2, nameIndex := 29, descriptorIndex := 30, attributes := #[] }, { accessFlags := 2, nameIndex := 48, descriptorIndex := 49, attributes := #[] }, { accessFlags := 2, nameIndex := 25, descriptorIndex := 26, attributes := #[] }] 32 2 #[] #[{ accessFlags := 2, nameIndex := 11, descriptorIndex := 12, attributes := #[] }, { accessFlags := 2, nameIndex := 15, descriptorIndex := 12, attributes := #[] }, { accessFlags := 2, nameIndex := 22, descriptorIndex := 19, attributes := #[] }, { accessFlags := 2, nameIndex := 18, descriptorIndex := 19, attributes := #[] }, { accessFlags := 2, nameIndex := 33, descriptorIndex := 34, attributes := #[] }])
  fields := #[{ name := "times", type := (.array .long), accessFlags := 2, slot := 0, constantValue := 0 }, { name := "totals", type := (.array .long), accessFlags := 2, slot := 1, constantValue := 0 }, { name := "first", type := .int, accessFlags := 2, slot := 2, constantValue := 0 }, { name := "size", type := .int, accessFlags := 2, slot := 3, constantValue := 0 }, { name := "totalBefore", type := .long, accessFlags := 2, slot := 4, constantValue := 0 }]
  methods := #[k3m0, k3m1, k3m2, k3m3, k3m4, k3m5, k3m6, k3m7, k3m8, k3m9, k3m10]
  instanceTypes := #[(.array .long), (.array .long), .int, .int, .long]
  staticTypes := #[]
  resolved := Array.replicate 68 none
  statics := none }

def pool4 : Array CpInfo := pool [(1, u "java/lang/Cloneable"), (0, .class_ 1), (0, u "java/lang/Object"), (0, .class_ 3)] 3

/-- java/lang/Cloneable -/
def k4 : Class := { plain "java/lang/Cloneable" (some 0) with
  accessFlags := 1537
  interfaces := #[]
  cf := some (fileOf pool4 2 #[] #[] 1537 4 #[] #[])
  fields := #[]
  methods := #[]
  instanceTypes := #[]
  staticTypes := #[]
  resolved := Array.replicate 8 none
  statics := none }

def pool5 : Array CpInfo := pool [(1, u "java/io/Serializable"), (0, .class_ 1), (0, u "java/lang/Object"), (0, .class_ 3)] 3

/-- java/io/Serializable -/
def k5 : Class := { plain "java/io/Serializable" (some 0) with
  accessFlags := 1537
  interfaces := #[]
  cf := some (fileOf pool5 2 #[] #[] 1537 4 #[] #[])
  fields := #[]
  methods := #[]
  instanceTypes := #[]
  staticTypes := #[]
  resolved := Array.replicate 8 none
  statics := none }

/-- the primitive byte -/
def k6 : Class := { plain "byte" none with kind := .primitive 'B', accessFlags := 0x411 }
/-- [B -/
def k7 : Class := { plain "[B" (some 0) with kind := .array 6 .byte, interfaces := #[4, 5], accessFlags := 1041 }

/-- the primitive int -/
def k8 : Class := { plain "int" none with kind := .primitive 'I', accessFlags := 0x411 }
/-- [I -/
def k9 : Class := { plain "[I" (some 0) with kind := .array 8 .int, interfaces := #[4, 5], accessFlags := 1041 }

/-- the primitive long -/
def k10 : Class := { plain "long" none with kind := .primitive 'J', accessFlags := 0x411 }
/-- [J -/
def k11 : Class := { plain "[J" (some 0) with kind := .array 10 .long, interfaces := #[4, 5], accessFlags := 1041 }

def heap : Heap := #[]
def classes : Array Class := #[k0, k1, k2, k3, k4, k5, k6, k7, k8, k9, k10, k11]
def interned : List (Array UInt16 × Addr) := []
def slotsUsed : Nat := 0
def theMethod : MethodId := ⟨1, 3⟩
def args0 : Array Value := #[.long 5, .long 9, .long 9, .int 9]
def aboutOver (below : List Frame) : State where
  vm := { classes := classes, interned := interned.toArray }
  heap := heap
  slotsUsed := slotsUsed
  threads := #[{ frames := .invoking theMethod args0 :: below }]
def below0 : List Frame := [.native { method := ⟨0, 0⟩, args := #[] }]
def about1 : State := aboutOver below0
def p0 : Program := .bare "" "" ""
def e0 : Env := launch0.env 0 0 0
theorem w_frames : about1.frames = Frame.invoking theMethod args0 :: below0 := rfl
set_option maxRecDepth 65536 in
theorem w_args : argsFit about1.vm theMethod args0 = true := by decide +kernel
set_option maxRecDepth 65536 in
theorem w_heap : heapFits about1 = true := by decide +kernel
set_option maxRecDepth 65536 in
theorem w_runnable : about1.curStatus? = some .runnable := by decide +kernel
set_option maxRecDepth 65536 in
theorem w_alone : about1.alone = true := by decide +kernel
set_option maxRecDepth 65536 in
theorem w_named : about1.methodNamed? x = some theMethod := by decide +kernel
set_option maxRecDepth 65536 in
theorem w_hears : about1.hears theMethod below0 = true := by decide +kernel
set_option maxRecDepth 65536 in
theorem w_ripe : about1.ripe theMethod args0 below0 = true := by decide +kernel
theorem w_running : about1.status = .running := rfl
set_option maxRecDepth 65536 in
theorem w_room : about1.hasRoom e0.platform room_1 = true :=
  launch0.hasRoom_least _ room_1 (by decide +kernel) (by decide +kernel) (by decide +kernel) (by decide +kernel) (by decide +kernel) (by decide +kernel)
theorem allAtoms_all (ts : List Jvm.Cond) (a : Array Jvm.Value) (st : Jvm.State) : (allAtoms ts).before a st = ts.all (fun c => c.before a st) := by
  induction ts with
  | nil => rfl
  | cons c t ih =>
    show (Jvm.Cond.and c (allAtoms t)).before a st = _
    rw [Jvm.Cond.before_and, ih, List.all_cons]
def words1 : List Jvm.Cond := Jvm.Cond.code x code maxLocals ret :: tables_1
/-- a 'code' word, met by the world's own term for the bytes: nothing is compared byte by byte -/
theorem code_word {y : MethodName} {bytes : ByteArray} {mx : Nat} {rt : Option FieldType} {a : Array Value} {s : State} {m : MethodId} {meth : Method} {c : Code} (h1 : s.methodNamed? y = some m) (h2 : s.vm.method? m = some meth) (h3 : meth.code = some c) (h4 : c.code = bytes)
    (h5 : (c.maxLocals == mx && c.exceptionTable.isEmpty && decide (c.maxStack ≤ mostOperands) && decide (meth.sig.returnType = rt) && !meth.locks && decide (parseMethodDescriptor y.desc = some meth.sig)) = true) : (Jvm.Cond.code y bytes mx rt).before a s = true := by
  simp only [Bool.and_eq_true, beq_iff_eq, Bool.not_eq_true', decide_eq_true_eq] at h5
  obtain ⟨⟨⟨⟨⟨g1, g2⟩, g3⟩, g4⟩, g5⟩, g6⟩ := h5
  simp [Cond.before, Cond.holds, Cond.value, h1, h2, h3, h4, g1, g2, g3, g4, g5, g6]
def isCode : Jvm.Cond → Bool
  | .code _ _ _ _ => true
  | _ => false
theorem all_split {L : List Jvm.Cond} {P : Jvm.Cond → Bool} (h1 : L.all (fun c => isCode c || P c) = true) (h2 : ∀ c ∈ L.filter isCode, P c = true) : L.all P = true := by
  refine List.all_eq_true.mpr fun c hc => ?_
  have h := List.all_eq_true.mp h1 c hc
  rcases Bool.eq_false_or_eq_true (isCode c) with hi | hi
  · exact h2 c (List.mem_filter.mpr ⟨hc, hi⟩)
  · simpa [hi] using h
set_option maxRecDepth 65536 in
theorem w_c0 : (Jvm.Cond.code x code maxLocals ret).before args0 about1 = true := code_word (m := ⟨1, 3⟩) (meth := k1m3) (c := k1c3) (by decide +kernel) rfl rfl rfl (by decide +kernel)
set_option maxRecDepth 65536 in
theorem w_c1 : (Jvm.Cond.code ({ cls := "java/lang/Math", name := "min", desc := "(II)I" } : Jvm.MethodName) jdk_29_method_69_code (2 : Nat) (Option.some Jvm.ClassFile.FieldType.int)).before args0 about1 = true := code_word (m := ⟨2, 1⟩) (meth := k2m1) (c := k2c1) (by decide +kernel) rfl rfl rfl (by decide +kernel)
set_option maxRecDepth 65536 in
theorem w_c2 : (Jvm.Cond.code ({ cls := "com/example/lean_throttle/leanthrottle/TimeRing", name := "<init>", desc := "()V" } : Jvm.MethodName) prog_21_method_1_code (1 : Nat) (Option.none : Option Jvm.ClassFile.FieldType)).before args0 about1 = true := code_word (m := ⟨3, 0⟩) (meth := k3m0) (c := k3c0) (by decide +kernel) rfl rfl rfl (by decide +kernel)
set_option maxRecDepth 65536 in
theorem w_c3 : (Jvm.Cond.code ({ cls := "java/lang/Object", name := "<init>", desc := "()V" } : Jvm.MethodName) object_method_1_code (1 : Nat) (Option.none : Option Jvm.ClassFile.FieldType)).before args0 about1 = true := code_word (m := ⟨0, 0⟩) (meth := k0m0) (c := k0c0) (by decide +kernel) rfl rfl rfl (by decide +kernel)
set_option maxRecDepth 65536 in
theorem w_c4 : (Jvm.Cond.code ({ cls := "com/example/lean_throttle/leanthrottle/TimeRingDropOldestPinLaw", name := "u", desc := "(IJJ)J" } : Jvm.MethodName) method_2_code (7 : Nat) (Option.some Jvm.ClassFile.FieldType.long)).before args0 about1 = true := code_word (m := ⟨1, 1⟩) (meth := k1m1) (c := k1c1) (by decide +kernel) rfl rfl rfl (by decide +kernel)
set_option maxRecDepth 65536 in
theorem w_c5 : (Jvm.Cond.code ({ cls := "com/example/lean_throttle/leanthrottle/TimeRing", name := "add", desc := "(JJI)V" } : Jvm.MethodName) prog_21_method_10_code (11 : Nat) (Option.none : Option Jvm.ClassFile.FieldType)).before args0 about1 = true := code_word (m := ⟨3, 7⟩) (meth := k3m7) (c := k3c7) (by decide +kernel) rfl rfl rfl (by decide +kernel)
set_option maxRecDepth 65536 in
theorem w_c6 : (Jvm.Cond.code ({ cls := "com/example/lean_throttle/leanthrottle/TimeRing", name := "newestTotal", desc := "()J" } : Jvm.MethodName) prog_21_method_11_code (1 : Nat) (Option.some Jvm.ClassFile.FieldType.long)).before args0 about1 = true := code_word (m := ⟨3, 8⟩) (meth := k3m8) (c := k3c8) (by decide +kernel) rfl rfl rfl (by decide +kernel)
set_option maxRecDepth 65536 in
theorem w_c7 : (Jvm.Cond.code ({ cls := "com/example/lean_throttle/leanthrottle/TimeRing", name := "at", desc := "(I)I" } : Jvm.MethodName) prog_21_method_13_code (3 : Nat) (Option.some Jvm.ClassFile.FieldType.int)).before args0 about1 = true := code_word (m := ⟨3, 10⟩) (meth := k3m10) (c := k3c10) (by decide +kernel) rfl rfl rfl (by decide +kernel)
set_option maxRecDepth 65536 in
theorem w_c8 : (Jvm.Cond.code ({ cls := "java/lang/Math", name := "min", desc := "(JJ)J" } : Jvm.MethodName) jdk_29_method_70_code (4 : Nat) (Option.some Jvm.ClassFile.FieldType.long)).before args0 about1 = true := code_word (m := ⟨2, 2⟩) (meth := k2m2) (c := k2c2) (by decide +kernel) rfl rfl rfl (by decide +kernel)
set_option maxRecDepth 65536 in
theorem w_c9 : (Jvm.Cond.code ({ cls := "com/example/lean_throttle/leanthrottle/TimeRing", name := "unwrapped", desc := "([JI)[J" } : Jvm.MethodName) prog_21_method_12_code (5 : Nat) (Option.some (Jvm.ClassFile.FieldType.array Jvm.ClassFile.FieldType.long))).before args0 about1 = true := code_word (m := ⟨3, 9⟩) (meth := k3m9) (c := k3c9) (by decide +kernel) rfl rfl rfl (by decide +kernel)
set_option maxRecDepth 65536 in
theorem w_c10 : (Jvm.Cond.code ({ cls := "com/example/lean_throttle/leanthrottle/TimeRing", name := "dropOldest", desc := "()V" } : Jvm.MethodName) prog_21_method_9_code (1 : Nat) (Option.none : Option Jvm.ClassFile.FieldType)).before args0 about1 = true := code_word (m := ⟨3, 6⟩) (meth := k3m6) (c := k3c6) (by decide +kernel) rfl rfl rfl (by decide +kernel)
set_option maxRecDepth 65536 in
theorem w_c11 : (Jvm.Cond.code ({ cls := "com/example/lean_throttle/leanthrottle/TimeRingDropOldestPinLaw", name := "part", desc := "(IIIJJ)J" } : Jvm.MethodName) method_3_code (7 : Nat) (Option.some Jvm.ClassFile.FieldType.long)).before args0 about1 = true := code_word (m := ⟨1, 2⟩) (meth := k1m2) (c := k1c2) (by decide +kernel) rfl rfl rfl (by decide +kernel)
set_option maxRecDepth 65536 in
theorem w_c12 : (Jvm.Cond.code ({ cls := "com/example/lean_throttle/leanthrottle/TimeRing", name := "size", desc := "()I" } : Jvm.MethodName) prog_21_method_2_code (1 : Nat) (Option.some Jvm.ClassFile.FieldType.int)).before args0 about1 = true := code_word (m := ⟨3, 1⟩) (meth := k3m1) (c := k3c1) (by decide +kernel) rfl rfl rfl (by decide +kernel)
set_option maxRecDepth 65536 in
theorem w_c13 : (Jvm.Cond.code ({ cls := "com/example/lean_throttle/leanthrottle/TimeRing", name := "units", desc := "()J" } : Jvm.MethodName) prog_21_method_6_code (1 : Nat) (Option.some Jvm.ClassFile.FieldType.long)).before args0 about1 = true := code_word (m := ⟨3, 4⟩) (meth := k3m4) (c := k3c4) (by decide +kernel) rfl rfl rfl (by decide +kernel)
set_option maxRecDepth 65536 in
theorem w_c14 : (Jvm.Cond.code ({ cls := "com/example/lean_throttle/leanthrottle/TimeRing", name := "oldest", desc := "()J" } : Jvm.MethodName) prog_21_method_3_code (1 : Nat) (Option.some Jvm.ClassFile.FieldType.long)).before args0 about1 = true := code_word (m := ⟨3, 2⟩) (meth := k3m2) (c := k3c2) (by decide +kernel) rfl rfl rfl (by decide +kernel)
set_option maxRecDepth 65536 in
theorem w_c15 : (Jvm.Cond.code ({ cls := "com/example/lean_throttle/leanthrottle/TimeRing", name := "newest", desc := "()J" } : Jvm.MethodName) prog_21_method_4_code (1 : Nat) (Option.some Jvm.ClassFile.FieldType.long)).before args0 about1 = true := code_word (m := ⟨3, 3⟩) (meth := k3m3) (c := k3c3) (by decide +kernel) rfl rfl rfl (by decide +kernel)
set_option maxRecDepth 65536 in
theorem w_c16 : (Jvm.Cond.code ({ cls := "com/example/lean_throttle/leanthrottle/TimeRing", name := "unitsOf", desc := "(I)J" } : Jvm.MethodName) prog_21_method_7_code (4 : Nat) (Option.some Jvm.ClassFile.FieldType.long)).before args0 about1 = true := code_word (m := ⟨3, 5⟩) (meth := k3m5) (c := k3c5) (by decide +kernel) rfl rfl rfl (by decide +kernel)
def codes1 : List Jvm.Cond := [Jvm.Cond.code x code maxLocals ret, Jvm.Cond.code ({ cls := "java/lang/Math", name := "min", desc := "(II)I" } : Jvm.MethodName) jdk_29_method_69_code (2 : Nat) (Option.some Jvm.ClassFile.FieldType.int), Jvm.Cond.code ({ cls := "com/example/lean_throttle/leanthrottle/TimeRing", name := "<init>", desc := "()V" } : Jvm.MethodName) prog_21_method_1_code (1 : Nat) (Option.none : Option Jvm.ClassFile.FieldType), Jvm.Cond.code ({ cls := "java/lang/Object", name := "<init>", desc := "()V" } : Jvm.MethodName) object_method_1_code (1 : Nat) (Option.none : Option Jvm.ClassFile.FieldType), Jvm.Cond.code ({ cls := "com/example/lean_throttle/leanthrottle/TimeRingDropOldestPinLaw", name := "u", desc := "(IJJ)J" } : Jvm.MethodName) method_2_code (7 : Nat) (Option.some Jvm.ClassFile.FieldType.long), Jvm.Cond.code ({ cls := "com/example/lean_throttle/leanthrottle/TimeRing", name := "add", desc := "(JJI)V" } : Jvm.MethodName) prog_21_method_10_code (11 : Nat) (Option.none : Option Jvm.ClassFile.FieldType), Jvm.Cond.code ({ cls := "com/example/lean_throttle/leanthrottle/TimeRing", name := "newestTotal", desc := "()J" } : Jvm.MethodName) prog_21_method_11_code (1 : Nat) (Option.some Jvm.ClassFile.FieldType.long), Jvm.Cond.code ({ cls := "com/example/lean_throttle/leanthrottle/TimeRing", name := "at", desc := "(I)I" } : Jvm.MethodName) prog_21_method_13_code (3 : Nat) (Option.some Jvm.ClassFile.FieldType.int), Jvm.Cond.code ({ cls := "java/lang/Math", name := "min", desc := "(JJ)J" } : Jvm.MethodName) jdk_29_method_70_code (4 : Nat) (Option.some Jvm.ClassFile.FieldType.long), Jvm.Cond.code ({ cls := "com/example/lean_throttle/leanthrottle/TimeRing", name := "unwrapped", desc := "([JI)[J" } : Jvm.MethodName) prog_21_method_12_code (5 : Nat) (Option.some (Jvm.ClassFile.FieldType.array Jvm.ClassFile.FieldType.long)), Jvm.Cond.code ({ cls := "com/example/lean_throttle/leanthrottle/TimeRing", name := "dropOldest", desc := "()V" } : Jvm.MethodName) prog_21_method_9_code (1 : Nat) (Option.none : Option Jvm.ClassFile.FieldType), Jvm.Cond.code ({ cls := "com/example/lean_throttle/leanthrottle/TimeRingDropOldestPinLaw", name := "part", desc := "(IIIJJ)J" } : Jvm.MethodName) method_3_code (7 : Nat) (Option.some Jvm.ClassFile.FieldType.long), Jvm.Cond.code ({ cls := "com/example/lean_throttle/leanthrottle/TimeRing", name := "size", desc := "()I" } : Jvm.MethodName) prog_21_method_2_code (1 : Nat) (Option.some Jvm.ClassFile.FieldType.int), Jvm.Cond.code ({ cls := "com/example/lean_throttle/leanthrottle/TimeRing", name := "units", desc := "()J" } : Jvm.MethodName) prog_21_method_6_code (1 : Nat) (Option.some Jvm.ClassFile.FieldType.long), Jvm.Cond.code ({ cls := "com/example/lean_throttle/leanthrottle/TimeRing", name := "oldest", desc := "()J" } : Jvm.MethodName) prog_21_method_3_code (1 : Nat) (Option.some Jvm.ClassFile.FieldType.long), Jvm.Cond.code ({ cls := "com/example/lean_throttle/leanthrottle/TimeRing", name := "newest", desc := "()J" } : Jvm.MethodName) prog_21_method_4_code (1 : Nat) (Option.some Jvm.ClassFile.FieldType.long), Jvm.Cond.code ({ cls := "com/example/lean_throttle/leanthrottle/TimeRing", name := "unitsOf", desc := "(I)J" } : Jvm.MethodName) prog_21_method_7_code (4 : Nat) (Option.some Jvm.ClassFile.FieldType.long)]
set_option maxRecDepth 65536 in
theorem codes_eq : words1.filter isCode = codes1 := rfl
theorem w_codes : ∀ c ∈ words1.filter isCode, c.before args0 about1 = true := by
  rw [codes_eq]
  intro c hc
  simp only [codes1, List.mem_cons, List.not_mem_nil, or_false] at hc
  rcases hc with rfl | rfl | rfl | rfl | rfl | rfl | rfl | rfl | rfl | rfl | rfl | rfl | rfl | rfl | rfl | rfl | rfl
  · exact w_c0
  · exact w_c1
  · exact w_c2
  · exact w_c3
  · exact w_c4
  · exact w_c5
  · exact w_c6
  · exact w_c7
  · exact w_c8
  · exact w_c9
  · exact w_c10
  · exact w_c11
  · exact w_c12
  · exact w_c13
  · exact w_c14
  · exact w_c15
  · exact w_c16
set_option maxRecDepth 65536 in
theorem w_t1 : (words1.take 24).all (fun c => isCode c || c.before args0 about1) = true := by decide +kernel
set_option maxRecDepth 65536 in
theorem w_t2 : ((words1.drop 24).take 24).all (fun c => isCode c || c.before args0 about1) = true := by decide +kernel
set_option maxRecDepth 65536 in
theorem w_t3 : (((words1.drop 24).drop 24).take 24).all (fun c => isCode c || c.before args0 about1) = true := by decide +kernel
set_option maxRecDepth 65536 in
theorem w_t4 : (((words1.drop 24).drop 24).drop 24).all (fun c => isCode c || c.before args0 about1) = true := by decide +kernel
theorem w_tables : (allAtoms (Jvm.Cond.code x code maxLocals ret :: tables_1)).before args0 about1 = true := by
  rw [allAtoms_all]
  show words1.all (fun c => c.before args0 about1) = true
  refine all_split ?_ w_codes
  rw [← List.take_append_drop 24 words1, List.all_append, w_t1, ← List.take_append_drop 24 (words1.drop 24), List.all_append, w_t2, ← List.take_append_drop 24 ((words1.drop 24).drop 24), List.all_append, w_t3, w_t4]
  rfl
set_option maxRecDepth 65536 in
theorem w_case : (Jvm.Cond.and given_1 narrow_1).before args0 about1 = true := by decide +kernel
theorem w_applies : (headSpec (Jvm.Cond.code x code maxLocals ret :: tables_1) room_1).applies x e0.platform about1 = true :=
  (Spec.applies_iff w_frames).mpr ⟨w_running, w_runnable, w_alone, w_named, w_hears, w_ripe, w_room, w_tables⟩
theorem atStart : AtStart classFile x code maxLocals ret World_1 tables_1 room_1 Calls_1 rest_1 Pre_1 launch0 p0 e0 about1 theMethod args0 below0 :=
  ⟨lists_1, trivial, launch0.admits_env _ _ _, launch0.least_env, fairChoices_fair.cas, fairChoices_fair.clock, w_frames, w_args, w_heap, w_applies, trivial, trivial, w_case⟩
end start1
theorem witness_1 : WitnessClaimed_1 := ⟨start1.p0, start1.e0, start1.about1, start1.theMethod, start1.args0, start1.below0, start1.atStart⟩
end Jvm.Pilot.@@N@@

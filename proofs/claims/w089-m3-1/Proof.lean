import JvmDerived
import JvmDerived.Pilot.@@N@@Statement
import JvmDerived.Pilot.@@N@@Code
set_option linter.unusedVariables false
set_option linter.unusedSimpArgs false
namespace Jvm.RoadKit
open Sem ClassFile Op Lib Jvm.Stand Jvm.Free Jvm.LawKit
section New
variable {p : Program} {l : Launch} {e : Env} {R : Room} {s : State} {m : MethodId} {args : Array Value} {below : List Frame} {meth : Method} {c : Code} {T : State} {locs : List Loc} {cells slots : Nat}
theorem retI (X : Stand p l e R s m args below meth c T locs cells slots) (hx : p.tables.exec = Jvm.exec) {pc : Nat} {Ls : Array Slot} {z : Int32} {rest : List Value} (hret : meth.sig.returnType = some .int) (hd : decode c.code pc = .ok (.ireturn, 1)) {fs : List Frame}
    (hl : ∀ (f : JFrame) (acts : List Action), f.method = m → f.locked = none → f.entered = [] → (doReturn e (T.setTop f) acts (some (.int z))).1 = T.setFrames fs) : Steps p.tables e below (T.setTop (mkF m pc Ls (.int z :: rest))) (T.setFrames fs) := by
  have hm' : T.vm.method? m = some meth := X.method'
  have hn : narrow .int (.int z) = .int z := rfl
  show Steps p.tables e below (T.setTop { method := m, pc := pc, locals := Ls, stack := _ :: rest, locked := none }) _
  jvm_step X.here [X.here.top, hx, hd, hm', hret, hn]
  first | (intro acts; rw [hl _ acts rfl rfl rfl]) | rw [hl _ _ rfl rfl rfl]
  exact Steps.refl _
end New
end Jvm.RoadKit
namespace Jvm.Pilot.@@N@@
open Jvm Jvm.ClassFile Sem Op Lib Jvm.Free Jvm.Stand Jvm.LawKit Jvm.RoadKit Bundle Jvm.Pilot.@@N@@.Jvm.D
/-- two slots that hold nothing, or one double or long -/
def own_Two (s t : Slot) : Prop := (s = .unset ∧ t = .unset) ∨ (∃ d, s = .val (.double d) ∧ t = .second) ∨ ∃ d, s = .val (.long d) ∧ t = .second
theorem own_pad {p : Program} {l : Launch} {e : Env} {R : Room} {s : State} {m : MethodId} {args : Array Value} {below : List Frame} {meth : Method} {c : Code} {T : State} {locs : List Loc} {k n k' n' : Nat} (X : Stand p l e R s m args below meth c T locs k n) (hk : k ≤ k') (hn : n ≤ n') : Stand p l e R s m args below meth c T locs k' n' := { X with same := X.same.mono hk hn }
/-- the walk from S on comes to an end of which Q is true -/
def own_End (p : Program) (e : Env) (below : List Frame) (Q : Outcome → State → Prop) (S : State) : Prop := ∃ s₂ o, Steps p.tables e below S s₂ ∧ s₂.status = .running ∧ Ended s₂ below o ∧ Q o s₂
theorem own_go {p : Program} {e : Env} {below : List Frame} {Q : Outcome → State → Prop} {S S' : State} (h : ∀ t, Steps p.tables e below S' t → Steps p.tables e below S t) (k : own_End p e below Q S') : own_End p e below Q S := by
  obtain ⟨s₂, o, h1, h2⟩ := k
  exact ⟨s₂, o, h s₂ h1, h2⟩
/-- an array of z places, of which the j-th holds f j -/
def own_Ar (Z : State) (h : Heap) (a : Addr) (ty : FieldType) (z : Int32) (f : Nat → Value) : Prop := ∃ cl : Cell, Arr Z h a cl ty ∧ cl.slots.size = z.toNatClampNeg ∧ ¬ z < 0 ∧ ∀ j, j < z.toNatClampNeg → cl.slots[j]? = some (f j)
section OwnAr
variable {Z : State} {h h' : Heap} {a b : Addr} {ty : FieldType} {z : Int32} {f g : Nat → Value} {ws : List Addr} {sl : Nat} {v : Value}
theorem own_Ar.lt (F : own_Ar Z h a ty z f) : a < h.size := by obtain ⟨c, A, -⟩ := F; exact A.lt
theorem own_Ar.ext (F : own_Ar Z h a ty z f) (E : Ext h h') : own_Ar Z h' a ty z f := by obtain ⟨c, A, r⟩ := F; exact ⟨c, A.ext E, r⟩
theorem own_Ar.other (F : own_Ar Z h b ty z f) (W : Wr h h' a sl v) (q : b ≠ a) : own_Ar Z h' b ty z f := by obtain ⟨c, A, r⟩ := F; exact ⟨c, A.other W q, r⟩
theorem own_Ar.keep (F : own_Ar Z h a ty z f) (K : Keep h h' ws) (q : a ∉ ws) : own_Ar Z h' a ty z f := by obtain ⟨c, A, r⟩ := F; exact ⟨c, ⟨K.2.1 a c A.1 q, A.2⟩, r⟩
theorem own_Ar.turn (F : own_Ar Z h a ty z f) (q : ∀ j, j < z.toNatClampNeg → f j = g j) : own_Ar Z h a ty z g := by obtain ⟨c, A, r1, r2, r3⟩ := F; exact ⟨c, A, r1, r2, fun j hj => by rw [r3 j hj, q j hj]⟩
theorem own_Ar.new {k : ClassId} (A : Arr Z h a (newA k ty z) ty) (q : ¬ z < 0) : own_Ar Z h a ty z (fun _ => defaultValue ty) := ⟨_, A, sz_new _ _ _, q, fun j hj => by simp [newA, hj]⟩
theorem own_Ar_set {c : Cell} (A : Arr Z h a c ty) (S : c.slots.size = z.toNatClampNeg) (M : ¬ z < 0) (H : ∀ j, j < z.toNatClampNeg → c.slots[j]? = some (f j)) (W : Wr h h' a sl v) : own_Ar Z h' a ty z (fun j => if j = sl then v else f j) := by
  refine ⟨_, A.same W, (sz_set _ _ _).trans S, M, fun j hj => ?_⟩
  show (c.setSlot sl v).slots[j]? = some (if j = sl then v else f j)
  by_cases e : j = sl
  · subst e; simp [Cell.setSlot, S, hj]
  · have e' : ¬ sl = j := fun q => e q.symm
    simp [Cell.setSlot, e, e', Array.getElem?_setIfInBounds, H j hj]
theorem own_in {c : Cell} {z j : Int32} (S : c.slots.size = z.toNatClampNeg) (q : ¬ (j < 0 ∨ c.slots.size ≤ j.toNatClampNeg)) : j.toNatClampNeg < z.toNatClampNeg := by
  rw [← S]; exact Nat.lt_of_not_le fun y => q (Or.inr y)
/-- the same of an array of references, whose class is known -/
def own_Rr (Z : State) (h : Heap) (a : Addr) (C : String) (z : Int32) (f : Nat → Value) : Prop := ∃ cl : Cell, Arr Z h a cl (.object C) ∧ cl.slots.size = z.toNatClampNeg ∧ ¬ z < 0 ∧ (∀ j, j < z.toNatClampNeg → cl.slots[j]? = some (f j)) ∧ Ovr Z cl.cls C
variable {C : String}
theorem own_Rr.lt (F : own_Rr Z h a C z f) : a < h.size := by obtain ⟨c, A, -⟩ := F; exact A.lt
theorem own_Rr.ext (F : own_Rr Z h a C z f) (E : Ext h h') : own_Rr Z h' a C z f := by obtain ⟨c, A, r⟩ := F; exact ⟨c, A.ext E, r⟩
theorem own_Rr.other (F : own_Rr Z h b C z f) (W : Wr h h' a sl v) (q : b ≠ a) : own_Rr Z h' b C z f := by obtain ⟨c, A, r⟩ := F; exact ⟨c, A.other W q, r⟩
theorem own_Rr.keep (F : own_Rr Z h a C z f) (K : Keep h h' ws) (q : a ∉ ws) : own_Rr Z h' a C z f := by obtain ⟨c, A, r⟩ := F; exact ⟨c, ⟨K.2.1 a c A.1 q, A.2⟩, r⟩
theorem own_Rr.turn (F : own_Rr Z h a C z f) (q : ∀ j, j < z.toNatClampNeg → f j = g j) : own_Rr Z h a C z g := by obtain ⟨c, A, r1, r2, r3, r4⟩ := F; exact ⟨c, A, r1, r2, fun j hj => by rw [r3 j hj, q j hj], r4⟩
theorem own_Rr.new {k : ClassId} (A : Arr Z h a (newA k (.object C) z) (.object C)) (O : Ovr Z k C) (q : ¬ z < 0) : own_Rr Z h a C z (fun _ => .null) := ⟨_, A, sz_new _ _ _, q, fun j hj => by simp [newA, hj, defaultValue], O⟩
theorem own_Rr_set {c : Cell} (A : Arr Z h a c (.object C)) (S : c.slots.size = z.toNatClampNeg) (M : ¬ z < 0) (H : ∀ j, j < z.toNatClampNeg → c.slots[j]? = some (f j)) (O : Ovr Z c.cls C) (W : Wr h h' a sl v) : own_Rr Z h' a C z (fun j => if j = sl then v else f j) := by
  refine ⟨_, A.same W, (sz_set _ _ _).trans S, M, fun j hj => ?_, O⟩
  show (c.setSlot sl v).slots[j]? = some (if j = sl then v else f j)
  by_cases e : j = sl
  · subst e; simp [Cell.setSlot, S, hj]
  · have e' : ¬ sl = j := fun q => e q.symm
    simp [Cell.setSlot, e, e', Array.getElem?_setIfInBounds, H j hj]
end OwnAr
theorem own_three (x : Int32) : ∃ n : Nat, n ≤ 2 ∧ ((x &&& (2147483647 : Int32)) % (3 : Int32)).toInt = n := by
  have a := c_and x (2147483647 : Int32) (by decide)
  have b := (c_irem (x &&& (2147483647 : Int32)) (3 : Int32) 3 (by decide)).1 a.1
  refine ⟨(((x &&& (2147483647 : Int32)) % (3 : Int32)).toInt).toNat, ?_, ?_⟩ <;> omega
theorem own_cnt (x : Int32) : ((1 : Int32) + (x &&& (2147483647 : Int32)) % (3 : Int32)) = 1 ∨ ((1 : Int32) + (x &&& (2147483647 : Int32)) % (3 : Int32)) = 2 ∨ ((1 : Int32) + (x &&& (2147483647 : Int32)) % (3 : Int32)) = 3 := by
  obtain ⟨n, hn, e⟩ := own_three x
  generalize (x &&& (2147483647 : Int32)) % (3 : Int32) = z at e ⊢
  have h : n = 0 ∨ n = 1 ∨ n = 2 := by omega
  have a := c_iadd 1 z; have b := rng32 (1 + z); have o1 : (1 : Int32).toInt = 1 := by decide
  have o2 : (2 : Int32).toInt = 2 := by decide
  have o3 : (3 : Int32).toInt = 3 := by decide
  rcases h with h | h | h
  · exact Or.inl (Int32.toInt_inj.mp (by omega))
  · exact Or.inr (Or.inl (Int32.toInt_inj.mp (by omega)))
  · exact Or.inr (Or.inr (Int32.toInt_inj.mp (by omega)))
theorem own_len0 {args : Array Value} {s : State} {t : Term} {a : Addr} {c : Cell} {ty : FieldType} (h : (Cond.eq (Term.length t) (Term.int (0 : Int32))).value args s none s [] = some true) (ht : t.eval args s none [] s = some (.ref a)) (A : Arr s s.heap a c ty) : c.slots.size = 0 := by
  have ha : s.arrayAt? a = some c := Arr.fin (Vm.Alike.refl _) A
  obtain ⟨x, y, hx, -, -, -⟩ := cmp_v (Or.inl h)
  have hl : c.slots.size < 2 ^ 31 := by
    rcases Nat.lt_or_ge c.slots.size (2 ^ 31) with q | q
    · exact q
    · exfalso; simp [Term.eval, ht, ha, Nat.not_lt.mpr q] at hx
  have e := len_f ht ha hl
  have r := gotT (Cond.eq_ints e (Term.int_eval (0))) h
  have u := congrArg Int32.toInt r
  rw [len_toInt hl] at u
  have z : (0 : Int32).toInt = 0 := by decide
  omega
theorem dR_0 : decode jdk_30_method_1_code 0 = .ok (.aload_n 0, 1) := by decide +kernel
theorem dR_1 : decode jdk_30_method_1_code 1 = .ok (.invokespecial 1, 3) := by decide +kernel
theorem dR_4 : decode jdk_30_method_1_code 4 = .ok (.return_, 1) := by decide +kernel
theorem pn_0 : plainName "java/lang/Record" = true := by first | (simp [plainName, overriddenIn]; done) | decide +kernel
theorem ef_R (m : MethodId) (x0 : Addr) : entryFrame m #[(.ref x0)] 1 = mkF m 0 #[.val (.ref x0)] [] := by first | (simp [entryFrame, mkF, argsToLocals, Value.category]; done) | rfl
def QR (Z : State) (a : Addr) (h0 : Heap) (n0 : Nat) (v : Option Value) (h : Heap) (L : List Loc) : Prop := v = none ∧ Fr n0 L ∧ h = h0
def PR (Z : State) (a : Addr) (h0 : Heap) (n0 : Nat) (s : State) (oQ : Outcome) (U : State) : Prop := ∃ v L, oQ = .returned v ∧ QR Z a h0 n0 v U.heap L ∧ FrameEnd s oQ U L ({ frames := 1, cells := 0, slots := 0, locals := 12 } : Room).cells ({ frames := 1, cells := 0, slots := 0, locals := 12 } : Room).slots
set_option maxRecDepth 65536 in
set_option maxHeartbeats 40000000 in
theorem rmR (l : Launch) (Z : State) (a0 : Array Value) (hw : ∀ d ∈ tables_1, d.before a0 Z = true) (ws : List Jvm.Cond) (a : Addr) (h0 : Heap) (n0 : Nat) (Z0 : n0 ≤ h0.size)  :
    MetFree l (⟨"java/lang/Record", "<init>", "()V"⟩ : MethodName) (head1 (Jvm.Cond.code (⟨"java/lang/Record", "<init>", "()V"⟩ : MethodName) jdk_30_method_1_code 1 none :: ws) ({ frames := 1, cells := 0, slots := 0, locals := 12 } : Room)) (fun aQ U => aQ = #[(.ref a)] ∧ Z.Warmed39 U.vm ∧ U.heap = h0) (fun _ _ _ _ _ => True) (fun _ U oQ U' => ∃ v L, oQ = .returned v ∧ QR Z a h0 n0 v U'.heap L ∧ FrameEnd U oQ U' L ({ frames := 1, cells := 0, slots := 0, locals := 12 } : Room).cells ({ frames := 1, cells := 0, slots := 0, locals := 12 } : Room).slots) := by
  refine MetFree.of_bodySF (plainFor_of_name pn_0) hisR ?_
  intro p e s m args below meth c s₁ Bd hml0 hP hK
  obtain ⟨rfl, hZ, hh⟩ := hP
  have hx := Bd.exec
  have hby := Bd.bytes
  have hml : c.maxLocals = 1 := hml0
  have hown : s.vm.findClass "java/lang/Record" = some m.cls := findClass_of_methodNamed Bd.named
  have hnm := (name_of_methodNamed Bd.named Bd.method).1
  have X0 : Stand p l e ({ frames := 1, cells := 0, slots := 0, locals := 12 } : Room) s m #[(.ref a)] below meth c s₁ [] 0 0 := Stand.of_body Bd
  have e0 : s₁.heap = h0 := by rw [← hh, Bd.state]; rfl
  have Nf := Fr.nil n0
  have Zs : n0 ≤ h0.size := Z0
  have Kp : Keep h0 h0 [] := Keep.refl _ _
  have szr : h0.size ≤ h0.size := Nat.le_refl _
  show own_End p e below (PR Z a h0 n0 s) (s₁.setTop (entryFrame m #[(.ref a)] 1))
  rw [ef_R]
  refine own_go (fun tQ kQ => XS.aloadN X0.here hx rfl (hb hby dR_0) rfl rfl kQ) ?_
  show own_End p e below _ (s₁.setTop (mkF m 1 #[.val (.ref a)] [(.ref a)]))
  obtain ⟨T1, X1, e1, st1⟩ := initO X0 hx hZ hown (hw _ (List.mem_of_getElem? (i := 12) rfl)) (hw _ (List.mem_of_getElem? (i := 13) rfl)) (hw _ (List.mem_of_getElem? (i := 14) rfl)) e0 (g := (mkF m 1 #[.val (.ref a)] [(.ref a)])) rfl (by rw [hml]; rfl) rfl (hb hby dR_1) (by decide) (W := 0) (by show 2 * 0 + _ ≤ _; exact Nat.le_of_eq rfl) (by decide)
  refine own_go (fun tQ kQ => st1 tQ kQ) ?_
  show own_End p e below _ (T1.setTop (mkF m 4 #[.val (.ref a)] []))
  obtain ⟨fs, hr, hrun, hended, hW, hsame⟩ := X1.leave (v := none) (fun _ => rfl)
  refine ⟨_, _, X1.returnOut hx Bd.returns (hb hby dR_4) hr, hrun, hended, _, _, rfl, ?_, ⟨_, rfl⟩, hW, hsame.mono (by decide) (by decide)⟩
  show QR Z a h0 n0 _ T1.heap _
  rw [e1]
  exact ⟨rfl, Nf, rfl⟩
theorem dAC_0 : decode jdk_22_method_1_code 0 = .ok (.aload_n 0, 1) := by decide +kernel
theorem dAC_1 : decode jdk_22_method_1_code 1 = .ok (.invokespecial 1, 3) := by decide +kernel
theorem dAC_4 : decode jdk_22_method_1_code 4 = .ok (.return_, 1) := by decide +kernel
theorem pn_1 : plainName "java/util/AbstractCollection" = true := by first | (simp [plainName, overriddenIn]; done) | decide +kernel
theorem ef_AC (m : MethodId) (x0 : Addr) : entryFrame m #[(.ref x0)] 1 = mkF m 0 #[.val (.ref x0)] [] := by first | (simp [entryFrame, mkF, argsToLocals, Value.category]; done) | rfl
def QAC (Z : State) (a : Addr) (h0 : Heap) (n0 : Nat) (v : Option Value) (h : Heap) (L : List Loc) : Prop := v = none ∧ Fr n0 L ∧ h = h0
def PAC (Z : State) (a : Addr) (h0 : Heap) (n0 : Nat) (s : State) (oQ : Outcome) (U : State) : Prop := ∃ v L, oQ = .returned v ∧ QAC Z a h0 n0 v U.heap L ∧ FrameEnd s oQ U L ({ frames := 1, cells := 0, slots := 0, locals := 12 } : Room).cells ({ frames := 1, cells := 0, slots := 0, locals := 12 } : Room).slots
set_option maxRecDepth 65536 in
set_option maxHeartbeats 40000000 in
theorem rmAC (l : Launch) (Z : State) (a0 : Array Value) (hw : ∀ d ∈ tables_1, d.before a0 Z = true) (ws : List Jvm.Cond) (a : Addr) (h0 : Heap) (n0 : Nat) (Z0 : n0 ≤ h0.size)  :
    MetFree l (⟨"java/util/AbstractCollection", "<init>", "()V"⟩ : MethodName) (head1 (Jvm.Cond.code (⟨"java/util/AbstractCollection", "<init>", "()V"⟩ : MethodName) jdk_22_method_1_code 1 none :: ws) ({ frames := 1, cells := 0, slots := 0, locals := 12 } : Room)) (fun aQ U => aQ = #[(.ref a)] ∧ Z.Warmed39 U.vm ∧ U.heap = h0) (fun _ _ _ _ _ => True) (fun _ U oQ U' => ∃ v L, oQ = .returned v ∧ QAC Z a h0 n0 v U'.heap L ∧ FrameEnd U oQ U' L ({ frames := 1, cells := 0, slots := 0, locals := 12 } : Room).cells ({ frames := 1, cells := 0, slots := 0, locals := 12 } : Room).slots) := by
  refine MetFree.of_bodySF (plainFor_of_name pn_1) hisR ?_
  intro p e s m args below meth c s₁ Bd hml0 hP hK
  obtain ⟨rfl, hZ, hh⟩ := hP
  have hx := Bd.exec
  have hby := Bd.bytes
  have hml : c.maxLocals = 1 := hml0
  have hown : s.vm.findClass "java/util/AbstractCollection" = some m.cls := findClass_of_methodNamed Bd.named
  have hnm := (name_of_methodNamed Bd.named Bd.method).1
  have X0 : Stand p l e ({ frames := 1, cells := 0, slots := 0, locals := 12 } : Room) s m #[(.ref a)] below meth c s₁ [] 0 0 := Stand.of_body Bd
  have e0 : s₁.heap = h0 := by rw [← hh, Bd.state]; rfl
  have Nf := Fr.nil n0
  have Zs : n0 ≤ h0.size := Z0
  have Kp : Keep h0 h0 [] := Keep.refl _ _
  have szr : h0.size ≤ h0.size := Nat.le_refl _
  show own_End p e below (PAC Z a h0 n0 s) (s₁.setTop (entryFrame m #[(.ref a)] 1))
  rw [ef_AC]
  refine own_go (fun tQ kQ => XS.aloadN X0.here hx rfl (hb hby dAC_0) rfl rfl kQ) ?_
  show own_End p e below _ (s₁.setTop (mkF m 1 #[.val (.ref a)] [(.ref a)]))
  obtain ⟨T1, X1, e1, st1⟩ := initO X0 hx hZ hown (hw _ (List.mem_of_getElem? (i := 37) rfl)) (hw _ (List.mem_of_getElem? (i := 13) rfl)) (hw _ (List.mem_of_getElem? (i := 14) rfl)) e0 (g := (mkF m 1 #[.val (.ref a)] [(.ref a)])) rfl (by rw [hml]; rfl) rfl (hb hby dAC_1) (by decide) (W := 0) (by show 2 * 0 + _ ≤ _; exact Nat.le_of_eq rfl) (by decide)
  refine own_go (fun tQ kQ => st1 tQ kQ) ?_
  show own_End p e below _ (T1.setTop (mkF m 4 #[.val (.ref a)] []))
  obtain ⟨fs, hr, hrun, hended, hW, hsame⟩ := X1.leave (v := none) (fun _ => rfl)
  refine ⟨_, _, X1.returnOut hx Bd.returns (hb hby dAC_4) hr, hrun, hended, _, _, rfl, ?_, ⟨_, rfl⟩, hW, hsame.mono (by decide) (by decide)⟩
  show QAC Z a h0 n0 _ T1.heap _
  rw [e1]
  exact ⟨rfl, Nf, rfl⟩
theorem pd_2 : parseMethodDescriptor "()V" = some ⟨[], none⟩ := by decide +kernel
theorem dAbL_0 : decode jdk_39_method_1_code 0 = .ok (.aload_n 0, 1) := by decide +kernel
theorem dAbL_1 : decode jdk_39_method_1_code 1 = .ok (.invokespecial 1, 3) := by decide +kernel
theorem dAbL_4 : decode jdk_39_method_1_code 4 = .ok (.aload_n 0, 1) := by decide +kernel
theorem dAbL_5 : decode jdk_39_method_1_code 5 = .ok (.iconst 0, 1) := by decide +kernel
theorem dAbL_6 : decode jdk_39_method_1_code 6 = .ok (.putfield 7, 3) := by decide +kernel
theorem dAbL_9 : decode jdk_39_method_1_code 9 = .ok (.return_, 1) := by decide +kernel
theorem pn_3 : plainName "java/util/AbstractList" = true := by first | (simp [plainName, overriddenIn]; done) | decide +kernel
theorem ef_AbL (m : MethodId) (x0 : Addr) : entryFrame m #[(.ref x0)] 1 = mkF m 0 #[.val (.ref x0)] [] := by first | (simp [entryFrame, mkF, argsToLocals, Value.category]; done) | rfl
def QAbL (Z : State) (a : Addr) (h0 : Heap) (n0 : Nat) (v : Option Value) (h : Heap) (L : List Loc) : Prop := v = none ∧ Fr n0 L ∧ Keep h0 h [a] ∧ Fld Z h a "java/util/AbstractList" "modCount" "I" (.int (0 : Int32)) ∧ Fld Z h a "java/util/ArrayList" "elementData" "[Ljava/lang/Object;" .null ∧ Fld Z h a "java/util/ArrayList" "size" "I" (.int (0 : Int32))
def PAbL (Z : State) (a : Addr) (h0 : Heap) (n0 : Nat) (s : State) (oQ : Outcome) (U : State) : Prop := ∃ v L, oQ = .returned v ∧ QAbL Z a h0 n0 v U.heap L ∧ FrameEnd s oQ U L ({ frames := 2, cells := 0, slots := 0, locals := 24 } : Room).cells ({ frames := 2, cells := 0, slots := 0, locals := 24 } : Room).slots
set_option maxRecDepth 65536 in
set_option maxHeartbeats 40000000 in
theorem rmAbL (l : Launch) (Z : State) (a0 : Array Value) (hw : ∀ d ∈ tables_1, d.before a0 Z = true) (ws : List Jvm.Cond) (a : Addr) (h0 : Heap) (n0 : Nat) (Z0 : n0 ≤ h0.size) (E_a : Exa Z h0 a "java/util/ArrayList") (F_modCount_a : Fld Z h0 a "java/util/AbstractList" "modCount" "I" (.int (0 : Int32))) (F_elementData_a : Fld Z h0 a "java/util/ArrayList" "elementData" "[Ljava/lang/Object;" .null) (F_size_a : Fld Z h0 a "java/util/ArrayList" "size" "I" (.int (0 : Int32))) (g_a : n0 ≤ a) :
    MetFree l (⟨"java/util/AbstractList", "<init>", "()V"⟩ : MethodName) (head1 (Jvm.Cond.code (⟨"java/util/AbstractList", "<init>", "()V"⟩ : MethodName) jdk_39_method_1_code 1 none :: ws) ({ frames := 2, cells := 0, slots := 0, locals := 24 } : Room)) (fun aQ U => aQ = #[(.ref a)] ∧ Z.Warmed39 U.vm ∧ U.heap = h0) (fun _ _ _ _ _ => True) (fun _ U oQ U' => ∃ v L, oQ = .returned v ∧ QAbL Z a h0 n0 v U'.heap L ∧ FrameEnd U oQ U' L ({ frames := 2, cells := 0, slots := 0, locals := 24 } : Room).cells ({ frames := 2, cells := 0, slots := 0, locals := 24 } : Room).slots) := by
  refine MetFree.of_bodySF (plainFor_of_name pn_3) hisR ?_
  intro p e s m args below meth c s₁ Bd hml0 hP hK
  obtain ⟨rfl, hZ, hh⟩ := hP
  have hx := Bd.exec
  have hby := Bd.bytes
  have hml : c.maxLocals = 1 := hml0
  have hown : s.vm.findClass "java/util/AbstractList" = some m.cls := findClass_of_methodNamed Bd.named
  have hnm := (name_of_methodNamed Bd.named Bd.method).1
  have X0 : Stand p l e ({ frames := 2, cells := 0, slots := 0, locals := 24 } : Room) s m #[(.ref a)] below meth c s₁ [] 0 0 := Stand.of_body Bd
  have e0 : s₁.heap = h0 := by rw [← hh, Bd.state]; rfl
  have Nf := Fr.nil n0
  have Zs : n0 ≤ h0.size := Z0
  have Kp : Keep h0 h0 [a] := Keep.refl _ _
  have szr : h0.size ≤ h0.size := Nat.le_refl _
  show own_End p e below (PAbL Z a h0 n0 s) (s₁.setTop (entryFrame m #[(.ref a)] 1))
  rw [ef_AbL]
  refine own_go (fun tQ kQ => XS.aloadN X0.here hx rfl (hb hby dAbL_0) rfl rfl kQ) ?_
  show own_End p e below _ (s₁.setTop (mkF m 1 #[.val (.ref a)] [(.ref a)]))
  obtain ⟨_, _, ⟨T1, L1, k1, n1⟩, -, X1, ⟨Lc1, hQ1, l1, y1, z1⟩, st1⟩ := X0.specialBack hx (y := (⟨"java/util/AbstractCollection", "<init>", "()V"⟩ : MethodName)) rfl hown (mvT hZ (hw _ (List.mem_of_getElem? (i := 31) rfl))) (mvT hZ (hw _ (List.mem_of_getElem? (i := 32) rfl))) (mvT hZ (hw _ (List.mem_of_getElem? (i := 36) rfl))) (by decide) (backOf (W := 0) (rmAC l Z a0 hw [] a h0 n0 Zs ) hZ (hw _ (List.mem_of_getElem? (i := 36) rfl)) (hw _ (List.mem_of_getElem? (i := 35) rfl)) (by decide) (by decide)) (g := (mkF m 1 #[.val (.ref a)] [(.ref a)])) rfl (by rw [hml]; rfl) (Steps.refl _) (a := a) (argsL := []) (rest := []) (lenOf pd_2 rfl) rfl (by show 2 * 0 + _ ≤ _; exact Nat.le_of_eq rfl) (hb hby dAbL_1) (fun _ _ => ⟨rfl, e0, (Nat.le_of_ble_eq_true rfl), (Nat.le_of_ble_eq_true rfl)⟩)
  dsimp only [Pt.U, Pt.locs, Pt.cells, Pt.slots] at X1 l1 y1 z1 st1 hQ1
  subst l1 y1 z1
  obtain ⟨rfl, N1q, e1⟩ := hQ1
  have Nf := Fr.app Nf N1q
  refine own_go (fun tQ kQ => st1.trans kQ) ?_
  show own_End p e below _ (T1.setTop (mkF m 4 #[.val (.ref a)] []))
  refine own_go (fun tQ kQ => XS.aloadN X1.here hx rfl (hb hby dAbL_4) rfl rfl kQ) ?_
  show own_End p e below _ (T1.setTop (mkF m 5 #[.val (.ref a)] [(.ref a)]))
  refine own_go (fun tQ kQ => XS.iconst X1.here hx rfl (hb hby dAbL_5) kQ) ?_
  show own_End p e below _ (T1.setTop (mkF m 6 #[.val (.ref a)] [(.int (0 : Int32)), (.ref a)]))
  obtain ⟨T2, h2, X2, e2, W2, st2⟩ := putF X1 hx hZ hown (host := "") (Or.inl (hw _ (List.mem_of_getElem? (i := 38) rfl))) Via.refl e1 F_modCount_a E_a (Or.inl (hw _ (List.mem_of_getElem? (i := 39) rfl))) (hw _ (List.mem_of_getElem? (i := 20) rfl)) (ty := .int) (by decide) rfl rfl (g := (mkF m 6 #[.val (.ref a)] [(.int (0 : Int32)), (.ref a)])) rfl rfl (hb hby dAbL_6)
  have F_modCount_a := F_modCount_a.same W2
  have E_a := E_a.wr W2
  have F_elementData_a := F_elementData_a.other W2 (Or.inr (slot_ne (Or.inl (hw _ (List.mem_of_getElem? (i := 42) rfl))) (Or.inl (hw _ (List.mem_of_getElem? (i := 39) rfl))) (by decide) (t := (.array (.object "java/lang/Object"))) (t' := .int) (by decide) (by decide)))
  have F_size_a := F_size_a.other W2 (Or.inr (slot_ne (Or.inl (hw _ (List.mem_of_getElem? (i := 66) rfl))) (Or.inl (hw _ (List.mem_of_getElem? (i := 39) rfl))) (by decide) (t := .int) (t' := .int) (by decide) (by decide)))
  have Kp := Kp.wr W2 (Or.inl (List.mem_of_getElem? (i := 0) rfl))
  have Nf := Fr.snoc X2 Nf g_a
  have Zs := Nat.le_trans Zs (Keep.of_wr W2).1
  have szr := Nat.le_trans szr (Keep.of_wr W2).1
  refine own_go (fun tQ kQ => st2 tQ kQ) ?_
  show own_End p e below _ (T2.setTop (mkF m 9 #[.val (.ref a)] []))
  obtain ⟨fs, hr, hrun, hended, hW, hsame⟩ := X2.leave (v := none) (fun _ => rfl)
  refine ⟨_, _, X2.returnOut hx Bd.returns (hb hby dAbL_9) hr, hrun, hended, _, _, rfl, ?_, ⟨_, rfl⟩, hW, hsame.mono (by decide) (by decide)⟩
  show QAbL Z a h0 n0 _ T2.heap _
  rw [e2]
  exact ⟨rfl, Nf, Kp, F_modCount_a, F_elementData_a, F_size_a⟩
theorem dAlI_0 : decode jdk_38_method_2_code 0 = .ok (.aload_n 0, 1) := by decide +kernel
theorem dAlI_1 : decode jdk_38_method_2_code 1 = .ok (.invokespecial 1, 3) := by decide +kernel
theorem dAlI_4 : decode jdk_38_method_2_code 4 = .ok (.aload_n 0, 1) := by decide +kernel
theorem dAlI_5 : decode jdk_38_method_2_code 5 = .ok (.getstatic 39, 3) := by decide +kernel
theorem dAlI_8 : decode jdk_38_method_2_code 8 = .ok (.putfield 9, 3) := by decide +kernel
theorem dAlI_11 : decode jdk_38_method_2_code 11 = .ok (.return_, 1) := by decide +kernel
theorem pn_4 : plainName "java/util/ArrayList" = true := by first | (simp [plainName, overriddenIn]; done) | decide +kernel
theorem ef_AlI (m : MethodId) (x0 : Addr) : entryFrame m #[(.ref x0)] 1 = mkF m 0 #[.val (.ref x0)] [] := by first | (simp [entryFrame, mkF, argsToLocals, Value.category]; done) | rfl
def QAlI (Z : State) (a : Addr) (de : Addr) (h0 : Heap) (n0 : Nat) (v : Option Value) (h : Heap) (L : List Loc) : Prop := v = none ∧ Fr n0 L ∧ Keep h0 h [a] ∧ Fld Z h a "java/util/AbstractList" "modCount" "I" (.int (0 : Int32)) ∧ Fld Z h a "java/util/ArrayList" "elementData" "[Ljava/lang/Object;" (.ref de) ∧ Fld Z h a "java/util/ArrayList" "size" "I" (.int (0 : Int32))
def PAlI (Z : State) (a : Addr) (de : Addr) (h0 : Heap) (n0 : Nat) (s : State) (oQ : Outcome) (U : State) : Prop := ∃ v L, oQ = .returned v ∧ QAlI Z a de h0 n0 v U.heap L ∧ FrameEnd s oQ U L ({ frames := 3, cells := 0, slots := 0, locals := 36 } : Room).cells ({ frames := 3, cells := 0, slots := 0, locals := 36 } : Room).slots
set_option maxRecDepth 65536 in
set_option maxHeartbeats 40000000 in
theorem rmAlI (l : Launch) (Z : State) (a0 : Array Value) (hw : ∀ d ∈ tables_1, d.before a0 Z = true) (ws : List Jvm.Cond) (a : Addr) (de : Addr) (h0 : Heap) (n0 : Nat) (Z0 : n0 ≤ h0.size) (E_a : Exa Z h0 a "java/util/ArrayList") (F_modCount_a : Fld Z h0 a "java/util/AbstractList" "modCount" "I" (.int (0 : Int32))) (F_elementData_a : Fld Z h0 a "java/util/ArrayList" "elementData" "[Ljava/lang/Object;" .null) (F_size_a : Fld Z h0 a "java/util/ArrayList" "size" "I" (.int (0 : Int32))) (g_a : n0 ≤ a) (Ol : Old Z n0 h0) (S_de : Sta Z Z.heap "java/util/ArrayList" "DEFAULTCAPACITY_EMPTY_ELEMENTDATA" "[Ljava/lang/Object;" (.ref de)) :
    MetFree l (⟨"java/util/ArrayList", "<init>", "()V"⟩ : MethodName) (head1 (Jvm.Cond.code (⟨"java/util/ArrayList", "<init>", "()V"⟩ : MethodName) jdk_38_method_2_code 1 none :: ws) ({ frames := 3, cells := 0, slots := 0, locals := 36 } : Room)) (fun aQ U => aQ = #[(.ref a)] ∧ Z.Warmed39 U.vm ∧ U.heap = h0) (fun _ _ _ _ _ => True) (fun _ U oQ U' => ∃ v L, oQ = .returned v ∧ QAlI Z a de h0 n0 v U'.heap L ∧ FrameEnd U oQ U' L ({ frames := 3, cells := 0, slots := 0, locals := 36 } : Room).cells ({ frames := 3, cells := 0, slots := 0, locals := 36 } : Room).slots) := by
  refine MetFree.of_bodySF (plainFor_of_name pn_4) hisR ?_
  intro p e s m args below meth c s₁ Bd hml0 hP hK
  obtain ⟨rfl, hZ, hh⟩ := hP
  have hx := Bd.exec
  have hby := Bd.bytes
  have hml : c.maxLocals = 1 := hml0
  have hown : s.vm.findClass "java/util/ArrayList" = some m.cls := findClass_of_methodNamed Bd.named
  have hnm := (name_of_methodNamed Bd.named Bd.method).1
  have X0 : Stand p l e ({ frames := 3, cells := 0, slots := 0, locals := 36 } : Room) s m #[(.ref a)] below meth c s₁ [] 0 0 := Stand.of_body Bd
  have e0 : s₁.heap = h0 := by rw [← hh, Bd.state]; rfl
  have Nf := Fr.nil n0
  have Zs : n0 ≤ h0.size := Z0
  have Kp : Keep h0 h0 [a] := Keep.refl _ _
  have szr : h0.size ≤ h0.size := Nat.le_refl _
  show own_End p e below (PAlI Z a de h0 n0 s) (s₁.setTop (entryFrame m #[(.ref a)] 1))
  rw [ef_AlI]
  refine own_go (fun tQ kQ => XS.aloadN X0.here hx rfl (hb hby dAlI_0) rfl rfl kQ) ?_
  show own_End p e below _ (s₁.setTop (mkF m 1 #[.val (.ref a)] [(.ref a)]))
  obtain ⟨_, _, ⟨T1, L1, k1, n1⟩, -, X1, ⟨Lc1, hQ1, l1, y1, z1⟩, st1⟩ := X0.specialBack hx (y := (⟨"java/util/AbstractList", "<init>", "()V"⟩ : MethodName)) rfl hown (mvT hZ (hw _ (List.mem_of_getElem? (i := 25) rfl))) (mvT hZ (hw _ (List.mem_of_getElem? (i := 26) rfl))) (mvT hZ (hw _ (List.mem_of_getElem? (i := 30) rfl))) (by decide) (backOf (W := 0) (rmAbL l Z a0 hw [] a h0 n0 Zs E_a F_modCount_a F_elementData_a F_size_a g_a) hZ (hw _ (List.mem_of_getElem? (i := 30) rfl)) (hw _ (List.mem_of_getElem? (i := 29) rfl)) (by decide) (by decide)) (g := (mkF m 1 #[.val (.ref a)] [(.ref a)])) rfl (by rw [hml]; rfl) (Steps.refl _) (a := a) (argsL := []) (rest := []) (lenOf pd_2 rfl) rfl (by show 2 * 0 + _ ≤ _; exact Nat.le_of_eq rfl) (hb hby dAlI_1) (fun _ _ => ⟨rfl, e0, (Nat.le_of_ble_eq_true rfl), (Nat.le_of_ble_eq_true rfl)⟩)
  dsimp only [Pt.U, Pt.locs, Pt.cells, Pt.slots] at X1 l1 y1 z1 st1 hQ1
  subst l1 y1 z1
  obtain ⟨rfl, N1q, K1, F_modCount_a, F_elementData_a, F_size_a⟩ := hQ1
  have Nf := Fr.app Nf N1q
  have E_a := E_a.keep K1
  have Ol := Ol.keep K1 (allS g_a all0)
  have Kp := Kp.trans K1 (allS (Or.inl (List.mem_of_getElem? (i := 0) rfl)) all0)
  have Zs := Nat.le_trans Zs K1.1
  have szr := Nat.le_trans szr K1.1
  refine own_go (fun tQ kQ => st1.trans kQ) ?_
  show own_End p e below _ (T1.setTop (mkF m 4 #[.val (.ref a)] []))
  refine own_go (fun tQ kQ => XS.aloadN X1.here hx rfl (hb hby dAlI_4) rfl rfl kQ) ?_
  show own_End p e below _ (T1.setTop (mkF m 5 #[.val (.ref a)] [(.ref a)]))
  obtain ⟨T2, X2, e2, st2⟩ := getS2 X1 hx hZ hown (host := "") (Or.inl (hw _ (List.mem_of_getElem? (i := 40) rfl))) Via.refl rfl (S_de.ext Ol.2) (g := (mkF m 5 #[.val (.ref a)] [(.ref a)])) rfl (hb hby dAlI_5)
  refine own_go (fun tQ kQ => st2 tQ kQ) ?_
  show own_End p e below _ (T2.setTop (mkF m 8 #[.val (.ref a)] [(.ref de), (.ref a)]))
  obtain ⟨T3, h3, X3, e3, W3, st3⟩ := putF X2 hx hZ hown (host := "") (Or.inl (hw _ (List.mem_of_getElem? (i := 41) rfl))) Via.refl e2 F_elementData_a E_a (Or.inl (hw _ (List.mem_of_getElem? (i := 42) rfl))) (hw _ (List.mem_of_getElem? (i := 20) rfl)) (ty := (.array (.object "java/lang/Object"))) (by decide) rfl rfl (g := (mkF m 8 #[.val (.ref a)] [(.ref de), (.ref a)])) rfl rfl (hb hby dAlI_8)
  have F_elementData_a := F_elementData_a.same W3
  have E_a := E_a.wr W3
  have Ol := Ol.wr W3 g_a
  have F_modCount_a := F_modCount_a.other W3 (Or.inr (slot_ne (Or.inl (hw _ (List.mem_of_getElem? (i := 39) rfl))) (Or.inl (hw _ (List.mem_of_getElem? (i := 42) rfl))) (by decide) (t := .int) (t' := (.array (.object "java/lang/Object"))) (by decide) (by decide)))
  have F_size_a := F_size_a.other W3 (Or.inr (slot_ne (Or.inl (hw _ (List.mem_of_getElem? (i := 66) rfl))) (Or.inl (hw _ (List.mem_of_getElem? (i := 42) rfl))) (by decide) (t := .int) (t' := (.array (.object "java/lang/Object"))) (by decide) (by decide)))
  have Kp := Kp.wr W3 (Or.inl (List.mem_of_getElem? (i := 0) rfl))
  have Nf := Fr.snoc X3 Nf g_a
  have Zs := Nat.le_trans Zs (Keep.of_wr W3).1
  have szr := Nat.le_trans szr (Keep.of_wr W3).1
  refine own_go (fun tQ kQ => st3 tQ kQ) ?_
  show own_End p e below _ (T3.setTop (mkF m 11 #[.val (.ref a)] []))
  obtain ⟨fs, hr, hrun, hended, hW, hsame⟩ := X3.leave (v := none) (fun _ => rfl)
  refine ⟨_, _, X3.returnOut hx Bd.returns (hb hby dAlI_11) hr, hrun, hended, _, _, rfl, ?_, ⟨_, rfl⟩, hW, hsame.mono (by decide) (by decide)⟩
  show QAlI Z a de h0 n0 _ T3.heap _
  rw [e3]
  exact ⟨rfl, Nf, Kp, F_modCount_a, F_elementData_a, F_size_a⟩
theorem dCA_0 : decode prog_7_method_1_code 0 = .ok (.aload_n 0, 1) := by decide +kernel
theorem dCA_1 : decode prog_7_method_1_code 1 = .ok (.invokespecial 1, 3) := by decide +kernel
theorem dCA_4 : decode prog_7_method_1_code 4 = .ok (.aload_n 0, 1) := by decide +kernel
theorem dCA_5 : decode prog_7_method_1_code 5 = .ok (.iload_n 1, 1) := by decide +kernel
theorem dCA_6 : decode prog_7_method_1_code 6 = .ok (.putfield 7, 3) := by decide +kernel
theorem dCA_9 : decode prog_7_method_1_code 9 = .ok (.aload_n 0, 1) := by decide +kernel
theorem dCA_10 : decode prog_7_method_1_code 10 = .ok (.aload_n 2, 1) := by decide +kernel
theorem dCA_11 : decode prog_7_method_1_code 11 = .ok (.putfield 13, 3) := by decide +kernel
theorem dCA_14 : decode prog_7_method_1_code 14 = .ok (.return_, 1) := by decide +kernel
theorem pn_5 : plainName "com/example/resolvent/resolvent/resolution/CompiledAction" = true := by first | (simp [plainName, overriddenIn]; done) | decide +kernel
theorem ef_CA (m : MethodId) (x0 : Addr) (x1 : Int32) : entryFrame m #[(.ref x0), (.int x1), .null] 3 = mkF m 0 #[.val (.ref x0), .val (.int x1), .val .null] [] := by first | (simp [entryFrame, mkF, argsToLocals, Value.category]; done) | rfl
def QCA (Z : State) (a : Addr) (st : Int32) (h0 : Heap) (n0 : Nat) (v : Option Value) (h : Heap) (L : List Loc) : Prop := v = none ∧ Fr n0 L ∧ Keep h0 h [a] ∧ Fld Z h a "com/example/resolvent/resolvent/resolution/CompiledAction" "status" "I" (.int st) ∧ Fld Z h a "com/example/resolvent/resolvent/resolution/CompiledAction" "target" "Lcom/example/resolvent/resolvent/resolution/Target;" .null
def PCA (Z : State) (a : Addr) (st : Int32) (h0 : Heap) (n0 : Nat) (s : State) (oQ : Outcome) (U : State) : Prop := ∃ v L, oQ = .returned v ∧ QCA Z a st h0 n0 v U.heap L ∧ FrameEnd s oQ U L ({ frames := 2, cells := 0, slots := 0, locals := 24 } : Room).cells ({ frames := 2, cells := 0, slots := 0, locals := 24 } : Room).slots
set_option maxRecDepth 65536 in
set_option maxHeartbeats 40000000 in
theorem rmCA (l : Launch) (Z : State) (a0 : Array Value) (hw : ∀ d ∈ tables_1, d.before a0 Z = true) (ws : List Jvm.Cond) (a : Addr) (st : Int32) (h0 : Heap) (n0 : Nat) (Z0 : n0 ≤ h0.size) (E_a : Exa Z h0 a "com/example/resolvent/resolvent/resolution/CompiledAction") (F_status_a : Fld Z h0 a "com/example/resolvent/resolvent/resolution/CompiledAction" "status" "I" (.int (0 : Int32))) (F_target_a : Fld Z h0 a "com/example/resolvent/resolvent/resolution/CompiledAction" "target" "Lcom/example/resolvent/resolvent/resolution/Target;" .null) (g_a : n0 ≤ a) :
    MetFree l (⟨"com/example/resolvent/resolvent/resolution/CompiledAction", "<init>", "(ILcom/example/resolvent/resolvent/resolution/Target;)V"⟩ : MethodName) (head1 (Jvm.Cond.code (⟨"com/example/resolvent/resolvent/resolution/CompiledAction", "<init>", "(ILcom/example/resolvent/resolvent/resolution/Target;)V"⟩ : MethodName) prog_7_method_1_code 3 none :: ws) ({ frames := 2, cells := 0, slots := 0, locals := 24 } : Room)) (fun aQ U => aQ = #[(.ref a), (.int st), .null] ∧ Z.Warmed39 U.vm ∧ U.heap = h0) (fun _ _ _ _ _ => True) (fun _ U oQ U' => ∃ v L, oQ = .returned v ∧ QCA Z a st h0 n0 v U'.heap L ∧ FrameEnd U oQ U' L ({ frames := 2, cells := 0, slots := 0, locals := 24 } : Room).cells ({ frames := 2, cells := 0, slots := 0, locals := 24 } : Room).slots) := by
  refine MetFree.of_bodySF (plainFor_of_name pn_5) hisR ?_
  intro p e s m args below meth c s₁ Bd hml0 hP hK
  obtain ⟨rfl, hZ, hh⟩ := hP
  have hx := Bd.exec
  have hby := Bd.bytes
  have hml : c.maxLocals = 3 := hml0
  have hown : s.vm.findClass "com/example/resolvent/resolvent/resolution/CompiledAction" = some m.cls := findClass_of_methodNamed Bd.named
  have hnm := (name_of_methodNamed Bd.named Bd.method).1
  have X0 : Stand p l e ({ frames := 2, cells := 0, slots := 0, locals := 24 } : Room) s m #[(.ref a), (.int st), .null] below meth c s₁ [] 0 0 := Stand.of_body Bd
  have e0 : s₁.heap = h0 := by rw [← hh, Bd.state]; rfl
  have Nf := Fr.nil n0
  have Zs : n0 ≤ h0.size := Z0
  have Kp : Keep h0 h0 [a] := Keep.refl _ _
  have szr : h0.size ≤ h0.size := Nat.le_refl _
  show own_End p e below (PCA Z a st h0 n0 s) (s₁.setTop (entryFrame m #[(.ref a), (.int st), .null] 3))
  rw [ef_CA]
  refine own_go (fun tQ kQ => XS.aloadN X0.here hx rfl (hb hby dCA_0) rfl rfl kQ) ?_
  show own_End p e below _ (s₁.setTop (mkF m 1 #[.val (.ref a), .val (.int st), .val .null] [(.ref a)]))
  obtain ⟨_, _, ⟨T1, L1, k1, n1⟩, -, X1, ⟨Lc1, hQ1, l1, y1, z1⟩, st1⟩ := X0.specialBack hx (y := (⟨"java/lang/Record", "<init>", "()V"⟩ : MethodName)) rfl hown (mvT hZ (hw _ (List.mem_of_getElem? (i := 7) rfl))) (mvT hZ (hw _ (List.mem_of_getElem? (i := 8) rfl))) (mvT hZ (hw _ (List.mem_of_getElem? (i := 11) rfl))) (by decide) (backOf (W := 0) (rmR l Z a0 hw [] a h0 n0 Zs ) hZ (hw _ (List.mem_of_getElem? (i := 11) rfl)) (hw _ (List.mem_of_getElem? (i := 10) rfl)) (by decide) (by decide)) (g := (mkF m 1 #[.val (.ref a), .val (.int st), .val .null] [(.ref a)])) rfl (by rw [hml]; rfl) (Steps.refl _) (a := a) (argsL := []) (rest := []) (lenOf pd_2 rfl) rfl (by show 2 * 0 + _ ≤ _; exact Nat.le_of_eq rfl) (hb hby dCA_1) (fun _ _ => ⟨rfl, e0, (Nat.le_of_ble_eq_true rfl), (Nat.le_of_ble_eq_true rfl)⟩)
  dsimp only [Pt.U, Pt.locs, Pt.cells, Pt.slots] at X1 l1 y1 z1 st1 hQ1
  subst l1 y1 z1
  obtain ⟨rfl, N1q, e1⟩ := hQ1
  have Nf := Fr.app Nf N1q
  refine own_go (fun tQ kQ => st1.trans kQ) ?_
  show own_End p e below _ (T1.setTop (mkF m 4 #[.val (.ref a), .val (.int st), .val .null] []))
  refine own_go (fun tQ kQ => XS.aloadN X1.here hx rfl (hb hby dCA_4) rfl rfl kQ) ?_
  show own_End p e below _ (T1.setTop (mkF m 5 #[.val (.ref a), .val (.int st), .val .null] [(.ref a)]))
  refine own_go (fun tQ kQ => XS.iloadN X1.here hx rfl (hb hby dCA_5) rfl kQ) ?_
  show own_End p e below _ (T1.setTop (mkF m 6 #[.val (.ref a), .val (.int st), .val .null] [(.int st), (.ref a)]))
  obtain ⟨T2, h2, X2, e2, W2, st2⟩ := putF X1 hx hZ hown (host := "") (Or.inl (hw _ (List.mem_of_getElem? (i := 15) rfl))) Via.refl e1 F_status_a E_a (Or.inr ⟨(hw _ (List.mem_of_getElem? (i := 16) rfl)), rfl, hnm⟩) (hw _ (List.mem_of_getElem? (i := 2) rfl)) (ty := .int) (by decide) rfl rfl (g := (mkF m 6 #[.val (.ref a), .val (.int st), .val .null] [(.int st), (.ref a)])) rfl rfl (hb hby dCA_6)
  have F_status_a := F_status_a.same W2
  have E_a := E_a.wr W2
  have F_target_a := F_target_a.other W2 (Or.inr (slot_ne (Or.inr (hw _ (List.mem_of_getElem? (i := 18) rfl))) (Or.inr (hw _ (List.mem_of_getElem? (i := 16) rfl))) (by decide) (t := (.object "com/example/resolvent/resolvent/resolution/Target")) (t' := .int) (by decide) (by decide)))
  have Kp := Kp.wr W2 (Or.inl (List.mem_of_getElem? (i := 0) rfl))
  have Nf := Fr.snoc X2 Nf g_a
  have Zs := Nat.le_trans Zs (Keep.of_wr W2).1
  have szr := Nat.le_trans szr (Keep.of_wr W2).1
  refine own_go (fun tQ kQ => st2 tQ kQ) ?_
  show own_End p e below _ (T2.setTop (mkF m 9 #[.val (.ref a), .val (.int st), .val .null] []))
  refine own_go (fun tQ kQ => XS.aloadN X2.here hx rfl (hb hby dCA_9) rfl rfl kQ) ?_
  show own_End p e below _ (T2.setTop (mkF m 10 #[.val (.ref a), .val (.int st), .val .null] [(.ref a)]))
  refine own_go (fun tQ kQ => XS.aloadN X2.here hx rfl (hb hby dCA_10) rfl rfl kQ) ?_
  show own_End p e below _ (T2.setTop (mkF m 11 #[.val (.ref a), .val (.int st), .val .null] [.null, (.ref a)]))
  obtain ⟨T3, h3, X3, e3, W3, st3⟩ := putF X2 hx hZ hown (host := "") (Or.inl (hw _ (List.mem_of_getElem? (i := 17) rfl))) Via.refl e2 F_target_a E_a (Or.inr ⟨(hw _ (List.mem_of_getElem? (i := 18) rfl)), rfl, hnm⟩) (hw _ (List.mem_of_getElem? (i := 2) rfl)) (ty := (.object "com/example/resolvent/resolvent/resolution/Target")) (by decide) rfl rfl (g := (mkF m 11 #[.val (.ref a), .val (.int st), .val .null] [.null, (.ref a)])) rfl rfl (hb hby dCA_11)
  have F_target_a := F_target_a.same W3
  have E_a := E_a.wr W3
  have F_status_a := F_status_a.other W3 (Or.inr (slot_ne (Or.inr (hw _ (List.mem_of_getElem? (i := 16) rfl))) (Or.inr (hw _ (List.mem_of_getElem? (i := 18) rfl))) (by decide) (t := .int) (t' := (.object "com/example/resolvent/resolvent/resolution/Target")) (by decide) (by decide)))
  have Kp := Kp.wr W3 (Or.inl (List.mem_of_getElem? (i := 0) rfl))
  have Nf := Fr.snoc X3 Nf g_a
  have Zs := Nat.le_trans Zs (Keep.of_wr W3).1
  have szr := Nat.le_trans szr (Keep.of_wr W3).1
  refine own_go (fun tQ kQ => st3 tQ kQ) ?_
  show own_End p e below _ (T3.setTop (mkF m 14 #[.val (.ref a), .val (.int st), .val .null] []))
  obtain ⟨fs, hr, hrun, hended, hW, hsame⟩ := X3.leave (v := none) (fun _ => rfl)
  refine ⟨_, _, X3.returnOut hx Bd.returns (hb hby dCA_14) hr, hrun, hended, _, _, rfl, ?_, ⟨_, rfl⟩, hW, hsame.mono (by decide) (by decide)⟩
  show QCA Z a st h0 n0 _ T3.heap _
  rw [e3]
  exact ⟨rfl, Nf, Kp, F_status_a, F_target_a⟩
theorem dOF_0 : decode prog_34_method_1_code 0 = .ok (.aload_n 0, 1) := by decide +kernel
theorem dOF_1 : decode prog_34_method_1_code 1 = .ok (.invokespecial 1, 3) := by decide +kernel
theorem dOF_4 : decode prog_34_method_1_code 4 = .ok (.aload_n 0, 1) := by decide +kernel
theorem dOF_5 : decode prog_34_method_1_code 5 = .ok (.aload_n 1, 1) := by decide +kernel
theorem dOF_6 : decode prog_34_method_1_code 6 = .ok (.putfield 7, 3) := by decide +kernel
theorem dOF_9 : decode prog_34_method_1_code 9 = .ok (.aload_n 0, 1) := by decide +kernel
theorem dOF_10 : decode prog_34_method_1_code 10 = .ok (.aload_n 2, 1) := by decide +kernel
theorem dOF_11 : decode prog_34_method_1_code 11 = .ok (.putfield 13, 3) := by decide +kernel
theorem dOF_14 : decode prog_34_method_1_code 14 = .ok (.return_, 1) := by decide +kernel
theorem pn_6 : plainName "com/example/resolvent/resolvent/resolution/Trial$Offer" = true := by first | (simp [plainName, overriddenIn]; done) | decide +kernel
theorem ef_OF (m : MethodId) (x0 : Addr) (x2 : Addr) : entryFrame m #[(.ref x0), .null, (.ref x2)] 3 = mkF m 0 #[.val (.ref x0), .val .null, .val (.ref x2)] [] := by first | (simp [entryFrame, mkF, argsToLocals, Value.category]; done) | rfl
def QOF (Z : State) (a : Addr) (ac : Addr) (h0 : Heap) (n0 : Nat) (v : Option Value) (h : Heap) (L : List Loc) : Prop := v = none ∧ Fr n0 L ∧ Keep h0 h [a] ∧ Fld Z h a "com/example/resolvent/resolvent/resolution/Trial$Offer" "match" "Ljava/util/regex/Pattern;" .null ∧ Fld Z h a "com/example/resolvent/resolvent/resolution/Trial$Offer" "action" "Lcom/example/resolvent/resolvent/resolution/CompiledAction;" (.ref ac)
def POF (Z : State) (a : Addr) (ac : Addr) (h0 : Heap) (n0 : Nat) (s : State) (oQ : Outcome) (U : State) : Prop := ∃ v L, oQ = .returned v ∧ QOF Z a ac h0 n0 v U.heap L ∧ FrameEnd s oQ U L ({ frames := 2, cells := 0, slots := 0, locals := 24 } : Room).cells ({ frames := 2, cells := 0, slots := 0, locals := 24 } : Room).slots
set_option maxRecDepth 65536 in
set_option maxHeartbeats 40000000 in
theorem rmOF (l : Launch) (Z : State) (a0 : Array Value) (hw : ∀ d ∈ tables_1, d.before a0 Z = true) (ws : List Jvm.Cond) (a : Addr) (ac : Addr) (h0 : Heap) (n0 : Nat) (Z0 : n0 ≤ h0.size) (E_a : Exa Z h0 a "com/example/resolvent/resolvent/resolution/Trial$Offer") (F_match_a : Fld Z h0 a "com/example/resolvent/resolvent/resolution/Trial$Offer" "match" "Ljava/util/regex/Pattern;" .null) (F_action_a : Fld Z h0 a "com/example/resolvent/resolvent/resolution/Trial$Offer" "action" "Lcom/example/resolvent/resolvent/resolution/CompiledAction;" .null) (g_a : n0 ≤ a) :
    MetFree l (⟨"com/example/resolvent/resolvent/resolution/Trial$Offer", "<init>", "(Ljava/util/regex/Pattern;Lcom/example/resolvent/resolvent/resolution/CompiledAction;)V"⟩ : MethodName) (head1 (Jvm.Cond.code (⟨"com/example/resolvent/resolvent/resolution/Trial$Offer", "<init>", "(Ljava/util/regex/Pattern;Lcom/example/resolvent/resolvent/resolution/CompiledAction;)V"⟩ : MethodName) prog_34_method_1_code 3 none :: ws) ({ frames := 2, cells := 0, slots := 0, locals := 24 } : Room)) (fun aQ U => aQ = #[(.ref a), .null, (.ref ac)] ∧ Z.Warmed39 U.vm ∧ U.heap = h0) (fun _ _ _ _ _ => True) (fun _ U oQ U' => ∃ v L, oQ = .returned v ∧ QOF Z a ac h0 n0 v U'.heap L ∧ FrameEnd U oQ U' L ({ frames := 2, cells := 0, slots := 0, locals := 24 } : Room).cells ({ frames := 2, cells := 0, slots := 0, locals := 24 } : Room).slots) := by
  refine MetFree.of_bodySF (plainFor_of_name pn_6) hisR ?_
  intro p e s m args below meth c s₁ Bd hml0 hP hK
  obtain ⟨rfl, hZ, hh⟩ := hP
  have hx := Bd.exec
  have hby := Bd.bytes
  have hml : c.maxLocals = 3 := hml0
  have hown : s.vm.findClass "com/example/resolvent/resolvent/resolution/Trial$Offer" = some m.cls := findClass_of_methodNamed Bd.named
  have hnm := (name_of_methodNamed Bd.named Bd.method).1
  have X0 : Stand p l e ({ frames := 2, cells := 0, slots := 0, locals := 24 } : Room) s m #[(.ref a), .null, (.ref ac)] below meth c s₁ [] 0 0 := Stand.of_body Bd
  have e0 : s₁.heap = h0 := by rw [← hh, Bd.state]; rfl
  have Nf := Fr.nil n0
  have Zs : n0 ≤ h0.size := Z0
  have Kp : Keep h0 h0 [a] := Keep.refl _ _
  have szr : h0.size ≤ h0.size := Nat.le_refl _
  show own_End p e below (POF Z a ac h0 n0 s) (s₁.setTop (entryFrame m #[(.ref a), .null, (.ref ac)] 3))
  rw [ef_OF]
  refine own_go (fun tQ kQ => XS.aloadN X0.here hx rfl (hb hby dOF_0) rfl rfl kQ) ?_
  show own_End p e below _ (s₁.setTop (mkF m 1 #[.val (.ref a), .val .null, .val (.ref ac)] [(.ref a)]))
  obtain ⟨_, _, ⟨T1, L1, k1, n1⟩, -, X1, ⟨Lc1, hQ1, l1, y1, z1⟩, st1⟩ := X0.specialBack hx (y := (⟨"java/lang/Record", "<init>", "()V"⟩ : MethodName)) rfl hown (mvT hZ (hw _ (List.mem_of_getElem? (i := 49) rfl))) (mvT hZ (hw _ (List.mem_of_getElem? (i := 8) rfl))) (mvT hZ (hw _ (List.mem_of_getElem? (i := 11) rfl))) (by decide) (backOf (W := 0) (rmR l Z a0 hw [] a h0 n0 Zs ) hZ (hw _ (List.mem_of_getElem? (i := 11) rfl)) (hw _ (List.mem_of_getElem? (i := 10) rfl)) (by decide) (by decide)) (g := (mkF m 1 #[.val (.ref a), .val .null, .val (.ref ac)] [(.ref a)])) rfl (by rw [hml]; rfl) (Steps.refl _) (a := a) (argsL := []) (rest := []) (lenOf pd_2 rfl) rfl (by show 2 * 0 + _ ≤ _; exact Nat.le_of_eq rfl) (hb hby dOF_1) (fun _ _ => ⟨rfl, e0, (Nat.le_of_ble_eq_true rfl), (Nat.le_of_ble_eq_true rfl)⟩)
  dsimp only [Pt.U, Pt.locs, Pt.cells, Pt.slots] at X1 l1 y1 z1 st1 hQ1
  subst l1 y1 z1
  obtain ⟨rfl, N1q, e1⟩ := hQ1
  have Nf := Fr.app Nf N1q
  refine own_go (fun tQ kQ => st1.trans kQ) ?_
  show own_End p e below _ (T1.setTop (mkF m 4 #[.val (.ref a), .val .null, .val (.ref ac)] []))
  refine own_go (fun tQ kQ => XS.aloadN X1.here hx rfl (hb hby dOF_4) rfl rfl kQ) ?_
  show own_End p e below _ (T1.setTop (mkF m 5 #[.val (.ref a), .val .null, .val (.ref ac)] [(.ref a)]))
  refine own_go (fun tQ kQ => XS.aloadN X1.here hx rfl (hb hby dOF_5) rfl rfl kQ) ?_
  show own_End p e below _ (T1.setTop (mkF m 6 #[.val (.ref a), .val .null, .val (.ref ac)] [.null, (.ref a)]))
  obtain ⟨T2, h2, X2, e2, W2, st2⟩ := putF X1 hx hZ hown (host := "") (Or.inl (hw _ (List.mem_of_getElem? (i := 50) rfl))) Via.refl e1 F_match_a E_a (Or.inr ⟨(hw _ (List.mem_of_getElem? (i := 51) rfl)), rfl, hnm⟩) (hw _ (List.mem_of_getElem? (i := 44) rfl)) (ty := (.object "java/util/regex/Pattern")) (by decide) rfl rfl (g := (mkF m 6 #[.val (.ref a), .val .null, .val (.ref ac)] [.null, (.ref a)])) rfl rfl (hb hby dOF_6)
  have F_match_a := F_match_a.same W2
  have E_a := E_a.wr W2
  have F_action_a := F_action_a.other W2 (Or.inr (slot_ne (Or.inr (hw _ (List.mem_of_getElem? (i := 53) rfl))) (Or.inr (hw _ (List.mem_of_getElem? (i := 51) rfl))) (by decide) (t := (.object "com/example/resolvent/resolvent/resolution/CompiledAction")) (t' := (.object "java/util/regex/Pattern")) (by decide) (by decide)))
  have Kp := Kp.wr W2 (Or.inl (List.mem_of_getElem? (i := 0) rfl))
  have Nf := Fr.snoc X2 Nf g_a
  have Zs := Nat.le_trans Zs (Keep.of_wr W2).1
  have szr := Nat.le_trans szr (Keep.of_wr W2).1
  refine own_go (fun tQ kQ => st2 tQ kQ) ?_
  show own_End p e below _ (T2.setTop (mkF m 9 #[.val (.ref a), .val .null, .val (.ref ac)] []))
  refine own_go (fun tQ kQ => XS.aloadN X2.here hx rfl (hb hby dOF_9) rfl rfl kQ) ?_
  show own_End p e below _ (T2.setTop (mkF m 10 #[.val (.ref a), .val .null, .val (.ref ac)] [(.ref a)]))
  refine own_go (fun tQ kQ => XS.aloadN X2.here hx rfl (hb hby dOF_10) rfl rfl kQ) ?_
  show own_End p e below _ (T2.setTop (mkF m 11 #[.val (.ref a), .val .null, .val (.ref ac)] [(.ref ac), (.ref a)]))
  obtain ⟨T3, h3, X3, e3, W3, st3⟩ := putF X2 hx hZ hown (host := "") (Or.inl (hw _ (List.mem_of_getElem? (i := 52) rfl))) Via.refl e2 F_action_a E_a (Or.inr ⟨(hw _ (List.mem_of_getElem? (i := 53) rfl)), rfl, hnm⟩) (hw _ (List.mem_of_getElem? (i := 44) rfl)) (ty := (.object "com/example/resolvent/resolvent/resolution/CompiledAction")) (by decide) rfl rfl (g := (mkF m 11 #[.val (.ref a), .val .null, .val (.ref ac)] [(.ref ac), (.ref a)])) rfl rfl (hb hby dOF_11)
  have F_action_a := F_action_a.same W3
  have E_a := E_a.wr W3
  have F_match_a := F_match_a.other W3 (Or.inr (slot_ne (Or.inr (hw _ (List.mem_of_getElem? (i := 51) rfl))) (Or.inr (hw _ (List.mem_of_getElem? (i := 53) rfl))) (by decide) (t := (.object "java/util/regex/Pattern")) (t' := (.object "com/example/resolvent/resolvent/resolution/CompiledAction")) (by decide) (by decide)))
  have Kp := Kp.wr W3 (Or.inl (List.mem_of_getElem? (i := 0) rfl))
  have Nf := Fr.snoc X3 Nf g_a
  have Zs := Nat.le_trans Zs (Keep.of_wr W3).1
  have szr := Nat.le_trans szr (Keep.of_wr W3).1
  refine own_go (fun tQ kQ => st3 tQ kQ) ?_
  show own_End p e below _ (T3.setTop (mkF m 14 #[.val (.ref a), .val .null, .val (.ref ac)] []))
  obtain ⟨fs, hr, hrun, hended, hW, hsame⟩ := X3.leave (v := none) (fun _ => rfl)
  refine ⟨_, _, X3.returnOut hx Bd.returns (hb hby dOF_14) hr, hrun, hended, _, _, rfl, ?_, ⟨_, rfl⟩, hW, hsame.mono (by decide) (by decide)⟩
  show QOF Z a ac h0 n0 _ T3.heap _
  rw [e3]
  exact ⟨rfl, Nf, Kp, F_match_a, F_action_a⟩
theorem dNG_0 : decode prog_33_method_1_code 0 = .ok (.aload_n 0, 1) := by decide +kernel
theorem dNG_1 : decode prog_33_method_1_code 1 = .ok (.invokespecial 1, 3) := by decide +kernel
theorem dNG_4 : decode prog_33_method_1_code 4 = .ok (.aload_n 0, 1) := by decide +kernel
theorem dNG_5 : decode prog_33_method_1_code 5 = .ok (.aload_n 1, 1) := by decide +kernel
theorem dNG_6 : decode prog_33_method_1_code 6 = .ok (.putfield 7, 3) := by decide +kernel
theorem dNG_9 : decode prog_33_method_1_code 9 = .ok (.return_, 1) := by decide +kernel
theorem pn_7 : plainName "com/example/resolvent/resolvent/resolution/Trial$Negotiation" = true := by first | (simp [plainName, overriddenIn]; done) | decide +kernel
theorem ef_NG (m : MethodId) (x0 : Addr) (x1 : Addr) : entryFrame m #[(.ref x0), (.ref x1)] 2 = mkF m 0 #[.val (.ref x0), .val (.ref x1)] [] := by first | (simp [entryFrame, mkF, argsToLocals, Value.category]; done) | rfl
def QNG (Z : State) (a : Addr) (ls : Addr) (h0 : Heap) (n0 : Nat) (v : Option Value) (h : Heap) (L : List Loc) : Prop := v = none ∧ Fr n0 L ∧ Keep h0 h [a] ∧ Fld Z h a "com/example/resolvent/resolvent/resolution/Trial$Negotiation" "offers" "Ljava/util/List;" (.ref ls)
def PNG (Z : State) (a : Addr) (ls : Addr) (h0 : Heap) (n0 : Nat) (s : State) (oQ : Outcome) (U : State) : Prop := ∃ v L, oQ = .returned v ∧ QNG Z a ls h0 n0 v U.heap L ∧ FrameEnd s oQ U L ({ frames := 2, cells := 0, slots := 0, locals := 24 } : Room).cells ({ frames := 2, cells := 0, slots := 0, locals := 24 } : Room).slots
set_option maxRecDepth 65536 in
set_option maxHeartbeats 40000000 in
theorem rmNG (l : Launch) (Z : State) (a0 : Array Value) (hw : ∀ d ∈ tables_1, d.before a0 Z = true) (ws : List Jvm.Cond) (a : Addr) (ls : Addr) (h0 : Heap) (n0 : Nat) (Z0 : n0 ≤ h0.size) (E_a : Exa Z h0 a "com/example/resolvent/resolvent/resolution/Trial$Negotiation") (F_offers_a : Fld Z h0 a "com/example/resolvent/resolvent/resolution/Trial$Negotiation" "offers" "Ljava/util/List;" .null) (g_a : n0 ≤ a) :
    MetFree l (⟨"com/example/resolvent/resolvent/resolution/Trial$Negotiation", "<init>", "(Ljava/util/List;)V"⟩ : MethodName) (head1 (Jvm.Cond.code (⟨"com/example/resolvent/resolvent/resolution/Trial$Negotiation", "<init>", "(Ljava/util/List;)V"⟩ : MethodName) prog_33_method_1_code 2 none :: ws) ({ frames := 2, cells := 0, slots := 0, locals := 24 } : Room)) (fun aQ U => aQ = #[(.ref a), (.ref ls)] ∧ Z.Warmed39 U.vm ∧ U.heap = h0) (fun _ _ _ _ _ => True) (fun _ U oQ U' => ∃ v L, oQ = .returned v ∧ QNG Z a ls h0 n0 v U'.heap L ∧ FrameEnd U oQ U' L ({ frames := 2, cells := 0, slots := 0, locals := 24 } : Room).cells ({ frames := 2, cells := 0, slots := 0, locals := 24 } : Room).slots) := by
  refine MetFree.of_bodySF (plainFor_of_name pn_7) hisR ?_
  intro p e s m args below meth c s₁ Bd hml0 hP hK
  obtain ⟨rfl, hZ, hh⟩ := hP
  have hx := Bd.exec
  have hby := Bd.bytes
  have hml : c.maxLocals = 2 := hml0
  have hown : s.vm.findClass "com/example/resolvent/resolvent/resolution/Trial$Negotiation" = some m.cls := findClass_of_methodNamed Bd.named
  have hnm := (name_of_methodNamed Bd.named Bd.method).1
  have X0 : Stand p l e ({ frames := 2, cells := 0, slots := 0, locals := 24 } : Room) s m #[(.ref a), (.ref ls)] below meth c s₁ [] 0 0 := Stand.of_body Bd
  have e0 : s₁.heap = h0 := by rw [← hh, Bd.state]; rfl
  have Nf := Fr.nil n0
  have Zs : n0 ≤ h0.size := Z0
  have Kp : Keep h0 h0 [a] := Keep.refl _ _
  have szr : h0.size ≤ h0.size := Nat.le_refl _
  show own_End p e below (PNG Z a ls h0 n0 s) (s₁.setTop (entryFrame m #[(.ref a), (.ref ls)] 2))
  rw [ef_NG]
  refine own_go (fun tQ kQ => XS.aloadN X0.here hx rfl (hb hby dNG_0) rfl rfl kQ) ?_
  show own_End p e below _ (s₁.setTop (mkF m 1 #[.val (.ref a), .val (.ref ls)] [(.ref a)]))
  obtain ⟨_, _, ⟨T1, L1, k1, n1⟩, -, X1, ⟨Lc1, hQ1, l1, y1, z1⟩, st1⟩ := X0.specialBack hx (y := (⟨"java/lang/Record", "<init>", "()V"⟩ : MethodName)) rfl hown (mvT hZ (hw _ (List.mem_of_getElem? (i := 95) rfl))) (mvT hZ (hw _ (List.mem_of_getElem? (i := 8) rfl))) (mvT hZ (hw _ (List.mem_of_getElem? (i := 11) rfl))) (by decide) (backOf (W := 0) (rmR l Z a0 hw [] a h0 n0 Zs ) hZ (hw _ (List.mem_of_getElem? (i := 11) rfl)) (hw _ (List.mem_of_getElem? (i := 10) rfl)) (by decide) (by decide)) (g := (mkF m 1 #[.val (.ref a), .val (.ref ls)] [(.ref a)])) rfl (by rw [hml]; rfl) (Steps.refl _) (a := a) (argsL := []) (rest := []) (lenOf pd_2 rfl) rfl (by show 2 * 0 + _ ≤ _; exact Nat.le_of_eq rfl) (hb hby dNG_1) (fun _ _ => ⟨rfl, e0, (Nat.le_of_ble_eq_true rfl), (Nat.le_of_ble_eq_true rfl)⟩)
  dsimp only [Pt.U, Pt.locs, Pt.cells, Pt.slots] at X1 l1 y1 z1 st1 hQ1
  subst l1 y1 z1
  obtain ⟨rfl, N1q, e1⟩ := hQ1
  have Nf := Fr.app Nf N1q
  refine own_go (fun tQ kQ => st1.trans kQ) ?_
  show own_End p e below _ (T1.setTop (mkF m 4 #[.val (.ref a), .val (.ref ls)] []))
  refine own_go (fun tQ kQ => XS.aloadN X1.here hx rfl (hb hby dNG_4) rfl rfl kQ) ?_
  show own_End p e below _ (T1.setTop (mkF m 5 #[.val (.ref a), .val (.ref ls)] [(.ref a)]))
  refine own_go (fun tQ kQ => XS.aloadN X1.here hx rfl (hb hby dNG_5) rfl rfl kQ) ?_
  show own_End p e below _ (T1.setTop (mkF m 6 #[.val (.ref a), .val (.ref ls)] [(.ref ls), (.ref a)]))
  obtain ⟨T2, h2, X2, e2, W2, st2⟩ := putF X1 hx hZ hown (host := "") (Or.inl (hw _ (List.mem_of_getElem? (i := 96) rfl))) Via.refl e1 F_offers_a E_a (Or.inr ⟨(hw _ (List.mem_of_getElem? (i := 97) rfl)), rfl, hnm⟩) (hw _ (List.mem_of_getElem? (i := 90) rfl)) (ty := (.object "java/util/List")) (by decide) rfl rfl (g := (mkF m 6 #[.val (.ref a), .val (.ref ls)] [(.ref ls), (.ref a)])) rfl rfl (hb hby dNG_6)
  have F_offers_a := F_offers_a.same W2
  have E_a := E_a.wr W2
  have Kp := Kp.wr W2 (Or.inl (List.mem_of_getElem? (i := 0) rfl))
  have Nf := Fr.snoc X2 Nf g_a
  have Zs := Nat.le_trans Zs (Keep.of_wr W2).1
  have szr := Nat.le_trans szr (Keep.of_wr W2).1
  refine own_go (fun tQ kQ => st2 tQ kQ) ?_
  show own_End p e below _ (T2.setTop (mkF m 9 #[.val (.ref a), .val (.ref ls)] []))
  obtain ⟨fs, hr, hrun, hended, hW, hsame⟩ := X2.leave (v := none) (fun _ => rfl)
  refine ⟨_, _, X2.returnOut hx Bd.returns (hb hby dNG_9) hr, hrun, hended, _, _, rfl, ?_, ⟨_, rfl⟩, hW, hsame.mono (by decide) (by decide)⟩
  show QNG Z a ls h0 n0 _ T2.heap _
  rw [e2]
  exact ⟨rfl, Nf, Kp, F_offers_a⟩
theorem dmx_0 : decode jdk_29_method_65_code 0 = .ok (.iload_n 0, 1) := by decide +kernel
theorem dmx_1 : decode jdk_29_method_65_code 1 = .ok (.iload_n 1, 1) := by decide +kernel
theorem dmx_2 : decode jdk_29_method_65_code 2 = .ok (.if_icmp .lt 7, 3) := by decide +kernel
theorem dmx_5 : decode jdk_29_method_65_code 5 = .ok (.iload_n 0, 1) := by decide +kernel
theorem dmx_6 : decode jdk_29_method_65_code 6 = .ok (.goto 4, 3) := by decide +kernel
theorem dmx_10 : decode jdk_29_method_65_code 10 = .ok (.ireturn, 1) := by decide +kernel
theorem ef_mx (m : MethodId) (x0 : Int32) (x1 : Int32) : entryFrame m #[(.int x0), (.int x1)] 2 = mkF m 0 #[.val (.int x0), .val (.int x1)] [] := by first | (simp [entryFrame, mkF, argsToLocals, Value.category]; done) | rfl
def Qmx (Z : State) (i1 : Int32) (i2 : Int32) (h0 : Heap) (n0 : Nat) (v : Option Value) (h : Heap) (L : List Loc) : Prop := v = some (.int i1) ∧ Fr n0 L ∧ h = h0
def Pmx (Z : State) (i1 : Int32) (i2 : Int32) (h0 : Heap) (n0 : Nat) (s : State) (oQ : Outcome) (U : State) : Prop := ∃ v L, oQ = .returned v ∧ Qmx Z i1 i2 h0 n0 v U.heap L ∧ FrameEnd s oQ U L ({ frames := 0, cells := 0, slots := 0, locals := 0 } : Room).cells ({ frames := 0, cells := 0, slots := 0, locals := 0 } : Room).slots
set_option maxRecDepth 65536 in
set_option maxHeartbeats 40000000 in
theorem rmmx (l : Launch) (Z : State) (a0 : Array Value) (hw : ∀ d ∈ tables_1, d.before a0 Z = true) (ws : List Jvm.Cond) (i1 : Int32) (i2 : Int32) (h0 : Heap) (n0 : Nat) (Z0 : n0 ≤ h0.size) (hm : ¬ i1 < i2) :
    MetFree l (⟨"java/lang/Math", "max", "(II)I"⟩ : MethodName) (head1 (Jvm.Cond.code (⟨"java/lang/Math", "max", "(II)I"⟩ : MethodName) jdk_29_method_65_code 2 (some .int) :: ws) ({ frames := 0, cells := 0, slots := 0, locals := 0 } : Room)) (fun aQ U => aQ = #[(.int i1), (.int i2)] ∧ Z.Warmed39 U.vm ∧ U.heap = h0) (fun _ _ _ _ _ => True) (fun _ U oQ U' => ∃ v L, oQ = .returned v ∧ Qmx Z i1 i2 h0 n0 v U'.heap L ∧ FrameEnd U oQ U' L ({ frames := 0, cells := 0, slots := 0, locals := 0 } : Room).cells ({ frames := 0, cells := 0, slots := 0, locals := 0 } : Room).slots) := by
  refine MetFree.of_bodySF (Jvm.Free.JP.mathPlain rfl (by decide +kernel)) hisR ?_
  intro p e s m args below meth c s₁ Bd hml0 hP hK
  obtain ⟨rfl, hZ, hh⟩ := hP
  have hx := Bd.exec
  have hby := Bd.bytes
  have hml : c.maxLocals = 2 := hml0
  have hown : s.vm.findClass "java/lang/Math" = some m.cls := findClass_of_methodNamed Bd.named
  have hnm := (name_of_methodNamed Bd.named Bd.method).1
  have X0 : Stand p l e ({ frames := 0, cells := 0, slots := 0, locals := 0 } : Room) s m #[(.int i1), (.int i2)] below meth c s₁ [] 0 0 := Stand.of_body Bd
  have e0 : s₁.heap = h0 := by rw [← hh, Bd.state]; rfl
  have Nf := Fr.nil n0
  have Zs : n0 ≤ h0.size := Z0
  have Kp : Keep h0 h0 [] := Keep.refl _ _
  have szr : h0.size ≤ h0.size := Nat.le_refl _
  show own_End p e below (Pmx Z i1 i2 h0 n0 s) (s₁.setTop (entryFrame m #[(.int i1), (.int i2)] 2))
  rw [ef_mx]
  refine own_go (fun tQ kQ => XS.iloadN X0.here hx rfl (hb hby dmx_0) rfl kQ) ?_
  show own_End p e below _ (s₁.setTop (mkF m 1 #[.val (.int i1), .val (.int i2)] [(.int i1)]))
  refine own_go (fun tQ kQ => XS.iloadN X0.here hx rfl (hb hby dmx_1) rfl kQ) ?_
  show own_End p e below _ (s₁.setTop (mkF m 2 #[.val (.int i1), .val (.int i2)] [(.int i2), (.int i1)]))
  refine own_go (fun tQ kQ => XS.icmpNo X0.here hx rfl (hb hby dmx_2) rfl (flt hm).1 kQ) ?_
  show own_End p e below _ (s₁.setTop (mkF m 5 #[.val (.int i1), .val (.int i2)] []))
  refine own_go (fun tQ kQ => XS.iloadN X0.here hx rfl (hb hby dmx_5) rfl kQ) ?_
  show own_End p e below _ (s₁.setTop (mkF m 6 #[.val (.int i1), .val (.int i2)] [(.int i1)]))
  refine own_go (fun tQ kQ => XS.goto X0.here hx rfl (pc0 := 6) (pc' := 10) rfl (hb hby dmx_6) (by decide) (by decide) kQ) ?_
  show own_End p e below _ (s₁.setTop (mkF m 10 #[.val (.int i1), .val (.int i2)] [(.int i1)]))
  obtain ⟨fs, hr, hrun, hended, hW, hsame⟩ := X0.leave (v := some (.int i1)) (fun h => by rw [Bd.returns] at h; cases h)
  refine ⟨_, _, (retI X0 hx Bd.returns (hb hby dmx_10) hr), hrun, hended, _, _, rfl, ?_, ⟨_, rfl⟩, hW, hsame.mono (by decide) (by decide)⟩
  show Qmx Z i1 i2 h0 n0 _ s₁.heap _
  rw [e0]
  exact ⟨rfl, Nf, rfl⟩
theorem pd_8 : parseMethodDescriptor "(II)I" = some ⟨[.int, .int], some .int⟩ := by decide +kernel
theorem dgr_0 : decode jdk_38_method_6_code 0 = .ok (.aload_n 0, 1) := by decide +kernel
theorem dgr_1 : decode jdk_38_method_6_code 1 = .ok (.getfield 9, 3) := by decide +kernel
theorem dgr_4 : decode jdk_38_method_6_code 4 = .ok (.arraylength, 1) := by decide +kernel
theorem dgr_5 : decode jdk_38_method_6_code 5 = .ok (.istore_n 2, 1) := by decide +kernel
theorem dgr_6 : decode jdk_38_method_6_code 6 = .ok (.iload_n 2, 1) := by decide +kernel
theorem dgr_7 : decode jdk_38_method_6_code 7 = .ok (.ifCond .gt 13, 3) := by decide +kernel
theorem dgr_10 : decode jdk_38_method_6_code 10 = .ok (.aload_n 0, 1) := by decide +kernel
theorem dgr_11 : decode jdk_38_method_6_code 11 = .ok (.getfield 9, 3) := by decide +kernel
theorem dgr_14 : decode jdk_38_method_6_code 14 = .ok (.getstatic 39, 3) := by decide +kernel
theorem dgr_17 : decode jdk_38_method_6_code 17 = .ok (.if_acmp .eq 28, 3) := by decide +kernel
theorem dgr_45 : decode jdk_38_method_6_code 45 = .ok (.aload_n 0, 1) := by decide +kernel
theorem dgr_46 : decode jdk_38_method_6_code 46 = .ok (.bipush 10, 2) := by decide +kernel
theorem dgr_48 : decode jdk_38_method_6_code 48 = .ok (.iload_n 1, 1) := by decide +kernel
theorem dgr_49 : decode jdk_38_method_6_code 49 = .ok (.invokestatic 79, 3) := by decide +kernel
theorem dgr_52 : decode jdk_38_method_6_code 52 = .ok (.anewarray 7, 3) := by decide +kernel
theorem dgr_55 : decode jdk_38_method_6_code 55 = .ok (.dup_x1, 1) := by decide +kernel
theorem dgr_56 : decode jdk_38_method_6_code 56 = .ok (.putfield 9, 3) := by decide +kernel
theorem dgr_59 : decode jdk_38_method_6_code 59 = .ok (.areturn, 1) := by decide +kernel
theorem ef_gr (m : MethodId) (x0 : Addr) (x1 : Int32) : entryFrame m #[(.ref x0), (.int x1)] 4 = mkF m 0 #[.val (.ref x0), .val (.int x1), .unset, .unset] [] := by first | (simp [entryFrame, mkF, argsToLocals, Value.category]; done) | rfl
def Qgr (Z : State) (a : Addr) (de : Addr) (fd : Nat → Value) (mc : Int32) (mn : Int32) (h0 : Heap) (n0 : Nat) (v : Option Value) (h : Heap) (L : List Loc) : Prop := ∃ b, v = some (.ref b) ∧ Fr n0 L ∧ Keep h0 h [a] ∧ h0.size ≤ b ∧ Fld Z h a "java/util/AbstractList" "modCount" "I" (.int mc) ∧ Fld Z h a "java/util/ArrayList" "elementData" "[Ljava/lang/Object;" (.ref b) ∧ Fld Z h a "java/util/ArrayList" "size" "I" (.int (0 : Int32)) ∧ own_Rr Z h b "java/lang/Object" (10 : Int32) (fun _ => .null)
def Pgr (Z : State) (a : Addr) (de : Addr) (fd : Nat → Value) (mc : Int32) (mn : Int32) (h0 : Heap) (n0 : Nat) (s : State) (oQ : Outcome) (U : State) : Prop := ∃ v L, oQ = .returned v ∧ Qgr Z a de fd mc mn h0 n0 v U.heap L ∧ FrameEnd s oQ U L ({ frames := 1, cells := 1, slots := 10, locals := 14 } : Room).cells ({ frames := 1, cells := 1, slots := 10, locals := 14 } : Room).slots
set_option maxRecDepth 65536 in
set_option maxHeartbeats 40000000 in
theorem rmgr (l : Launch) (Z : State) (a0 : Array Value) (hw : ∀ d ∈ tables_1, d.before a0 Z = true) (ws : List Jvm.Cond) (a : Addr) (de : Addr) (fd : Nat → Value) (mc : Int32) (mn : Int32) (h0 : Heap) (n0 : Nat) (Z0 : n0 ≤ h0.size) (E_a : Exa Z h0 a "java/util/ArrayList") (F_modCount_a : Fld Z h0 a "java/util/AbstractList" "modCount" "I" (.int mc)) (F_elementData_a : Fld Z h0 a "java/util/ArrayList" "elementData" "[Ljava/lang/Object;" (.ref de)) (F_size_a : Fld Z h0 a "java/util/ArrayList" "size" "I" (.int (0 : Int32))) (g_a : n0 ≤ a) (Ol : Old Z n0 h0) (S_de : Sta Z Z.heap "java/util/ArrayList" "DEFAULTCAPACITY_EMPTY_ELEMENTDATA" "[Ljava/lang/Object;" (.ref de)) (V_de : own_Ar Z Z.heap de (.object "java/lang/Object") (0 : Int32) fd) (hmn : ¬ (10 : Int32) < mn) :
    MetFree l (⟨"java/util/ArrayList", "grow", "(I)[Ljava/lang/Object;"⟩ : MethodName) (head1 (Jvm.Cond.code (⟨"java/util/ArrayList", "grow", "(I)[Ljava/lang/Object;"⟩ : MethodName) jdk_38_method_6_code 4 (some (.array (.object "java/lang/Object"))) :: ws) ({ frames := 1, cells := 1, slots := 10, locals := 14 } : Room)) (fun aQ U => aQ = #[(.ref a), (.int mn)] ∧ Z.Warmed39 U.vm ∧ U.heap = h0) (fun _ _ _ _ _ => True) (fun _ U oQ U' => ∃ v L, oQ = .returned v ∧ Qgr Z a de fd mc mn h0 n0 v U'.heap L ∧ FrameEnd U oQ U' L ({ frames := 1, cells := 1, slots := 10, locals := 14 } : Room).cells ({ frames := 1, cells := 1, slots := 10, locals := 14 } : Room).slots) := by
  refine MetFree.of_bodySF (plainFor_of_name pn_4) hisR ?_
  intro p e s m args below meth c s₁ Bd hml0 hP hK
  obtain ⟨rfl, hZ, hh⟩ := hP
  have hx := Bd.exec
  have hby := Bd.bytes
  have hml : c.maxLocals = 4 := hml0
  have hown : s.vm.findClass "java/util/ArrayList" = some m.cls := findClass_of_methodNamed Bd.named
  have hnm := (name_of_methodNamed Bd.named Bd.method).1
  have X0 : Stand p l e ({ frames := 1, cells := 1, slots := 10, locals := 14 } : Room) s m #[(.ref a), (.int mn)] below meth c s₁ [] 0 0 := Stand.of_body Bd
  have e0 : s₁.heap = h0 := by rw [← hh, Bd.state]; rfl
  have Nf := Fr.nil n0
  have Zs : n0 ≤ h0.size := Z0
  have Kp : Keep h0 h0 [a] := Keep.refl _ _
  have szr : h0.size ≤ h0.size := Nat.le_refl _
  show own_End p e below (Pgr Z a de fd mc mn h0 n0 s) (s₁.setTop (entryFrame m #[(.ref a), (.int mn)] 4))
  rw [ef_gr]
  have V_d := V_de.ext Ol.2
  refine own_go (fun tQ kQ => XS.aloadN X0.here hx rfl (hb hby dgr_0) rfl rfl kQ) ?_
  show own_End p e below _ (s₁.setTop (mkF m 1 #[.val (.ref a), .val (.int mn), .unset, .unset] [(.ref a)]))
  obtain ⟨T1, X1, e1, st1⟩ := getF X0 hx hZ hown (host := "") (Or.inl (hw _ (List.mem_of_getElem? (i := 41) rfl))) Via.refl e0 F_elementData_a (g := (mkF m 1 #[.val (.ref a), .val (.int mn), .unset, .unset] [(.ref a)])) rfl rfl (hb hby dgr_1)
  refine own_go (fun tQ kQ => st1 tQ kQ) ?_
  show own_End p e below _ (T1.setTop (mkF m 4 #[.val (.ref a), .val (.int mn), .unset, .unset] [(.ref de)]))
  obtain ⟨cl2, Ar2, S2, M2, H2⟩ := id V_d
  refine own_go (fun tQ kQ => X1.arraylength hx (by rw [e1]; exact Ar2.1) (State.isArrayOf_alike hZ.alike Ar2.2.1) (g := (mkF m 4 #[.val (.ref a), .val (.int mn), .unset, .unset] [(.ref de)])) rfl rfl (hb hby dgr_4) _ kQ) ?_
  rw [len_of S2 M2]
  show own_End p e below _ (T1.setTop (mkF m 5 #[.val (.ref a), .val (.int mn), .unset, .unset] [(.int (0 : Int32))]))
  refine own_go (fun tQ kQ => XS.istoreN X1.here hx rfl (hb hby dgr_5) rfl (l' := #[.val (.ref a), .val (.int mn), .val (.int (0 : Int32)), .unset]) rfl kQ) ?_
  show own_End p e below _ (T1.setTop (mkF m 6 #[.val (.ref a), .val (.int mn), .val (.int (0 : Int32)), .unset] []))
  refine own_go (fun tQ kQ => XS.iloadN X1.here hx rfl (hb hby dgr_6) rfl kQ) ?_
  show own_End p e below _ (T1.setTop (mkF m 7 #[.val (.ref a), .val (.int mn), .val (.int (0 : Int32)), .unset] [(.int (0 : Int32))]))
  refine own_go (fun tQ kQ => XS.ifNo X1.here hx rfl (hb hby dgr_7) rfl ((if0 _ _).trans (flt (by decide)).2.2.1) kQ) ?_
  show own_End p e below _ (T1.setTop (mkF m 10 #[.val (.ref a), .val (.int mn), .val (.int (0 : Int32)), .unset] []))
  refine own_go (fun tQ kQ => XS.aloadN X1.here hx rfl (hb hby dgr_10) rfl rfl kQ) ?_
  show own_End p e below _ (T1.setTop (mkF m 11 #[.val (.ref a), .val (.int mn), .val (.int (0 : Int32)), .unset] [(.ref a)]))
  obtain ⟨T3, X3, e3, st3⟩ := getF X1 hx hZ hown (host := "") (Or.inl (hw _ (List.mem_of_getElem? (i := 41) rfl))) Via.refl e1 F_elementData_a (g := (mkF m 11 #[.val (.ref a), .val (.int mn), .val (.int (0 : Int32)), .unset] [(.ref a)])) rfl rfl (hb hby dgr_11)
  refine own_go (fun tQ kQ => st3 tQ kQ) ?_
  show own_End p e below _ (T3.setTop (mkF m 14 #[.val (.ref a), .val (.int mn), .val (.int (0 : Int32)), .unset] [(.ref de)]))
  obtain ⟨T4, X4, e4, st4⟩ := getS2 X3 hx hZ hown (host := "") (Or.inl (hw _ (List.mem_of_getElem? (i := 40) rfl))) Via.refl e3 (S_de.ext Ol.2) (g := (mkF m 14 #[.val (.ref a), .val (.int mn), .val (.int (0 : Int32)), .unset] [(.ref de)])) rfl (hb hby dgr_14)
  refine own_go (fun tQ kQ => st4 tQ kQ) ?_
  show own_End p e below _ (T4.setTop (mkF m 17 #[.val (.ref a), .val (.int mn), .val (.int (0 : Int32)), .unset] [(.ref de), (.ref de)]))
  refine own_go (fun tQ kQ => Jvm.RoadKit.acmp (g := (mkF m 17 #[.val (.ref a), .val (.int mn), .val (.int (0 : Int32)), .unset] [(.ref de), (.ref de)])) X4 hx rfl rfl rfl (pc0 := 17) (pc' := 45) (same := true) rfl (hb hby dgr_17) rfl (decide_eq_true rfl) (by decide) (by decide) kQ) ?_
  show own_End p e below _ (T4.setTop (mkF m 45 #[.val (.ref a), .val (.int mn), .val (.int (0 : Int32)), .unset] []))
  refine own_go (fun tQ kQ => XS.aloadN X4.here hx rfl (hb hby dgr_45) rfl rfl kQ) ?_
  show own_End p e below _ (T4.setTop (mkF m 46 #[.val (.ref a), .val (.int mn), .val (.int (0 : Int32)), .unset] [(.ref a)]))
  refine own_go (fun tQ kQ => XS.bipush X4.here hx rfl (hb hby dgr_46) kQ) ?_
  show own_End p e below _ (T4.setTop (mkF m 48 #[.val (.ref a), .val (.int mn), .val (.int (0 : Int32)), .unset] [(.int (10 : Int32)), (.ref a)]))
  refine own_go (fun tQ kQ => XS.iloadN X4.here hx rfl (hb hby dgr_48) rfl kQ) ?_
  show own_End p e below _ (T4.setTop (mkF m 49 #[.val (.ref a), .val (.int mn), .val (.int (0 : Int32)), .unset] [(.int mn), (.int (10 : Int32)), (.ref a)]))
  obtain ⟨_, _, ⟨T5, L5, k5, n5⟩, -, X5, ⟨Lc5, hQ5, l5, y5, z5⟩, st5⟩ := Jvm.LawKit.callS X4 hx (y := (⟨"java/lang/Math", "max", "(II)I"⟩ : MethodName)) hown (mvT hZ (hw _ (List.mem_of_getElem? (i := 82) rfl))) (mvT hZ (hw _ (List.mem_of_getElem? (i := 83) rfl))) (mvT hZ (hw _ (List.mem_of_getElem? (i := 84) rfl))) (mvT hZ (hw _ (List.mem_of_getElem? (i := 85) rfl))) (by decide) (backOf (W := 1) (rmmx l Z a0 hw [] (10 : Int32) mn h0 n0 Zs hmn) hZ (hw _ (List.mem_of_getElem? (i := 85) rfl)) (hw _ (List.mem_of_getElem? (i := 84) rfl)) (by decide) (by decide)) (g := (mkF m 49 #[.val (.ref a), .val (.int mn), .val (.int (0 : Int32)), .unset] [(.int mn), (.int (10 : Int32)), (.ref a)])) rfl (by rw [hml]; rfl) (argsL := [(.int (10 : Int32)), (.int mn)]) (rest := [(.ref a)]) (lenOf pd_8 rfl) rfl (by show 2 * 0 + _ ≤ _; exact Nat.le_of_eq rfl) (hb hby dgr_49) (fun _ _ => ⟨rfl, e4, (Nat.le_of_ble_eq_true rfl), (Nat.le_of_ble_eq_true rfl)⟩)
  dsimp only [Pt.U, Pt.locs, Pt.cells, Pt.slots] at X5 l5 y5 z5 st5 hQ5
  subst l5 y5 z5
  obtain ⟨rfl, N5q, e5⟩ := hQ5
  have Nf := Fr.app Nf N5q
  refine own_go (fun tQ kQ => st5 tQ kQ) ?_
  show own_End p e below _ (T5.setTop (mkF m 52 #[.val (.ref a), .val (.int mn), .val (.int (0 : Int32)), .unset] [(.int (10 : Int32)), (.ref a)]))
  obtain ⟨T6, h6, k6, X6, e6, E6, A6, O6, st6⟩ := newR X5 hx hZ hown (hw _ (List.mem_of_getElem? (i := 86) rfl)) (hw _ (List.mem_of_getElem? (i := 87) rfl)) e5 (g := (mkF m 52 #[.val (.ref a), .val (.int mn), .val (.int (0 : Int32)), .unset] [(.int (10 : Int32)), (.ref a)])) rfl (hb hby dgr_52) rfl (by decide) (cap := 10) (by decide) (by decide) (by decide) (by decide)
  obtain ⟨b, g6⟩ : ∃ z, z = h0.size := ⟨_, rfl⟩
  rw [← g6] at A6 st6
  have ne_a_b : a ≠ b := Nat.ne_of_lt (Nat.lt_of_lt_of_le E_a.lt (Nat.le_of_eq g6.symm))
  have g_b : n0 ≤ b := Nat.le_trans Zs (Nat.le_of_eq g6.symm)
  have sz_b : h0.size ≤ b := Nat.le_trans szr (Nat.le_of_eq g6.symm)
  have E_a := E_a.ext E6
  have F_modCount_a := F_modCount_a.ext E6
  have F_elementData_a := F_elementData_a.ext E6
  have F_size_a := F_size_a.ext E6
  have Ol := Ol.ext E6
  have Kp := Kp.ext E6
  have Zs := Nat.le_trans Zs E6.1
  have szr := Nat.le_trans szr E6.1
  have V_b : own_Rr Z h6 b "java/lang/Object" (10 : Int32) (fun _ => .null) := own_Rr.new A6 O6 (by decide)
  refine own_go (fun tQ kQ => st6 tQ kQ) ?_
  show own_End p e below _ (T6.setTop (mkF m 55 #[.val (.ref a), .val (.int mn), .val (.int (0 : Int32)), .unset] [(.ref b), (.ref a)]))
  refine own_go (fun tQ kQ => XS.dupX1 X6.here hx rfl (hb hby dgr_55) rfl rfl rfl kQ) ?_
  show own_End p e below _ (T6.setTop (mkF m 56 #[.val (.ref a), .val (.int mn), .val (.int (0 : Int32)), .unset] [(.ref b), (.ref a), (.ref b)]))
  obtain ⟨T7, h7, X7, e7, W7, st7⟩ := putF X6 hx hZ hown (host := "") (Or.inl (hw _ (List.mem_of_getElem? (i := 41) rfl))) Via.refl e6 F_elementData_a E_a (Or.inl (hw _ (List.mem_of_getElem? (i := 42) rfl))) (hw _ (List.mem_of_getElem? (i := 20) rfl)) (ty := (.array (.object "java/lang/Object"))) (by decide) rfl rfl (g := (mkF m 56 #[.val (.ref a), .val (.int mn), .val (.int (0 : Int32)), .unset] [(.ref b), (.ref a), (.ref b)])) rfl rfl (hb hby dgr_56)
  have F_elementData_a := F_elementData_a.same W7
  have E_a := E_a.wr W7
  have F_modCount_a := F_modCount_a.other W7 (Or.inr (slot_ne (Or.inl (hw _ (List.mem_of_getElem? (i := 39) rfl))) (Or.inl (hw _ (List.mem_of_getElem? (i := 42) rfl))) (by decide) (t := .int) (t' := (.array (.object "java/lang/Object"))) (by decide) (by decide)))
  have F_size_a := F_size_a.other W7 (Or.inr (slot_ne (Or.inl (hw _ (List.mem_of_getElem? (i := 66) rfl))) (Or.inl (hw _ (List.mem_of_getElem? (i := 42) rfl))) (by decide) (t := .int) (t' := (.array (.object "java/lang/Object"))) (by decide) (by decide)))
  have Ol := Ol.wr W7 g_a
  have V_b := V_b.other W7 (Ne.symm ne_a_b)
  have Kp := Kp.wr W7 (Or.inl (List.mem_of_getElem? (i := 0) rfl))
  have Nf := Fr.snoc X7 Nf g_a
  have Zs := Nat.le_trans Zs (Keep.of_wr W7).1
  have szr := Nat.le_trans szr (Keep.of_wr W7).1
  refine own_go (fun tQ kQ => st7 tQ kQ) ?_
  show own_End p e below _ (T7.setTop (mkF m 59 #[.val (.ref a), .val (.int mn), .val (.int (0 : Int32)), .unset] [(.ref b)]))
  obtain ⟨fs, hr, hrun, hended, hW, hsame⟩ := X7.leave (v := some (.ref b)) (fun h => by rw [Bd.returns] at h; cases h)
  refine ⟨_, _, ?_, hrun, hended, _, _, rfl, ?_, ⟨_, rfl⟩, hW, hsame.mono (by decide) (by decide)⟩
  · exact (by
      jvm_step X7.here [X7.here.top, hx, (hb hby dgr_59), X7.method', Bd.returns, Value.isRef, FieldType.isReference, narrow]
      first | (intro acts; rw [hr _ acts rfl rfl rfl]) | rw [hr _ _ rfl rfl rfl]
      exact Steps.refl _)
  · show Qgr Z a de fd mc mn h0 n0 _ T7.heap _
    rw [e7]
    exact ⟨b, rfl, Nf, Kp, sz_b, F_modCount_a, F_elementData_a, F_size_a, V_b⟩
theorem pd_9 : parseMethodDescriptor "(I)[Ljava/lang/Object;" = some ⟨[.int], some (.array (.object "java/lang/Object"))⟩ := by decide +kernel
theorem dgr0_0 : decode jdk_38_method_7_code 0 = .ok (.aload_n 0, 1) := by decide +kernel
theorem dgr0_1 : decode jdk_38_method_7_code 1 = .ok (.aload_n 0, 1) := by decide +kernel
theorem dgr0_2 : decode jdk_38_method_7_code 2 = .ok (.getfield 48, 3) := by decide +kernel
theorem dgr0_5 : decode jdk_38_method_7_code 5 = .ok (.iconst 1, 1) := by decide +kernel
theorem dgr0_6 : decode jdk_38_method_7_code 6 = .ok (.iadd, 1) := by decide +kernel
theorem dgr0_7 : decode jdk_38_method_7_code 7 = .ok (.invokevirtual 69, 3) := by decide +kernel
theorem dgr0_10 : decode jdk_38_method_7_code 10 = .ok (.areturn, 1) := by decide +kernel
theorem ef_gr0 (m : MethodId) (x0 : Addr) : entryFrame m #[(.ref x0)] 1 = mkF m 0 #[.val (.ref x0)] [] := by first | (simp [entryFrame, mkF, argsToLocals, Value.category]; done) | rfl
def Qgr0 (Z : State) (a : Addr) (de : Addr) (fd : Nat → Value) (mc : Int32) (h0 : Heap) (n0 : Nat) (v : Option Value) (h : Heap) (L : List Loc) : Prop := ∃ b, v = some (.ref b) ∧ Fr n0 L ∧ Keep h0 h [a] ∧ h0.size ≤ b ∧ Fld Z h a "java/util/AbstractList" "modCount" "I" (.int mc) ∧ Fld Z h a "java/util/ArrayList" "elementData" "[Ljava/lang/Object;" (.ref b) ∧ Fld Z h a "java/util/ArrayList" "size" "I" (.int (0 : Int32)) ∧ own_Rr Z h b "java/lang/Object" (10 : Int32) (fun _ => .null)
def Pgr0 (Z : State) (a : Addr) (de : Addr) (fd : Nat → Value) (mc : Int32) (h0 : Heap) (n0 : Nat) (s : State) (oQ : Outcome) (U : State) : Prop := ∃ v L, oQ = .returned v ∧ Qgr0 Z a de fd mc h0 n0 v U.heap L ∧ FrameEnd s oQ U L ({ frames := 2, cells := 1, slots := 10, locals := 29 } : Room).cells ({ frames := 2, cells := 1, slots := 10, locals := 29 } : Room).slots
set_option maxRecDepth 65536 in
set_option maxHeartbeats 40000000 in
theorem rmgr0 (l : Launch) (Z : State) (a0 : Array Value) (hw : ∀ d ∈ tables_1, d.before a0 Z = true) (ws : List Jvm.Cond) (a : Addr) (de : Addr) (fd : Nat → Value) (mc : Int32) (h0 : Heap) (n0 : Nat) (Z0 : n0 ≤ h0.size) (E_a : Exa Z h0 a "java/util/ArrayList") (F_modCount_a : Fld Z h0 a "java/util/AbstractList" "modCount" "I" (.int mc)) (F_elementData_a : Fld Z h0 a "java/util/ArrayList" "elementData" "[Ljava/lang/Object;" (.ref de)) (F_size_a : Fld Z h0 a "java/util/ArrayList" "size" "I" (.int (0 : Int32))) (g_a : n0 ≤ a) (Ol : Old Z n0 h0) (S_de : Sta Z Z.heap "java/util/ArrayList" "DEFAULTCAPACITY_EMPTY_ELEMENTDATA" "[Ljava/lang/Object;" (.ref de)) (V_de : own_Ar Z Z.heap de (.object "java/lang/Object") (0 : Int32) fd) :
    MetFree l (⟨"java/util/ArrayList", "grow", "()[Ljava/lang/Object;"⟩ : MethodName) (head1 (Jvm.Cond.code (⟨"java/util/ArrayList", "grow", "()[Ljava/lang/Object;"⟩ : MethodName) jdk_38_method_7_code 1 (some (.array (.object "java/lang/Object"))) :: ws) ({ frames := 2, cells := 1, slots := 10, locals := 29 } : Room)) (fun aQ U => aQ = #[(.ref a)] ∧ Z.Warmed39 U.vm ∧ U.heap = h0) (fun _ _ _ _ _ => True) (fun _ U oQ U' => ∃ v L, oQ = .returned v ∧ Qgr0 Z a de fd mc h0 n0 v U'.heap L ∧ FrameEnd U oQ U' L ({ frames := 2, cells := 1, slots := 10, locals := 29 } : Room).cells ({ frames := 2, cells := 1, slots := 10, locals := 29 } : Room).slots) := by
  refine MetFree.of_bodySF (plainFor_of_name pn_4) hisR ?_
  intro p e s m args below meth c s₁ Bd hml0 hP hK
  obtain ⟨rfl, hZ, hh⟩ := hP
  have hx := Bd.exec
  have hby := Bd.bytes
  have hml : c.maxLocals = 1 := hml0
  have hown : s.vm.findClass "java/util/ArrayList" = some m.cls := findClass_of_methodNamed Bd.named
  have hnm := (name_of_methodNamed Bd.named Bd.method).1
  have X0 : Stand p l e ({ frames := 2, cells := 1, slots := 10, locals := 29 } : Room) s m #[(.ref a)] below meth c s₁ [] 0 0 := Stand.of_body Bd
  have e0 : s₁.heap = h0 := by rw [← hh, Bd.state]; rfl
  have Nf := Fr.nil n0
  have Zs : n0 ≤ h0.size := Z0
  have Kp : Keep h0 h0 [a] := Keep.refl _ _
  have szr : h0.size ≤ h0.size := Nat.le_refl _
  show own_End p e below (Pgr0 Z a de fd mc h0 n0 s) (s₁.setTop (entryFrame m #[(.ref a)] 1))
  rw [ef_gr0]
  refine own_go (fun tQ kQ => XS.aloadN X0.here hx rfl (hb hby dgr0_0) rfl rfl kQ) ?_
  show own_End p e below _ (s₁.setTop (mkF m 1 #[.val (.ref a)] [(.ref a)]))
  refine own_go (fun tQ kQ => XS.aloadN X0.here hx rfl (hb hby dgr0_1) rfl rfl kQ) ?_
  show own_End p e below _ (s₁.setTop (mkF m 2 #[.val (.ref a)] [(.ref a), (.ref a)]))
  obtain ⟨T1, X1, e1, st1⟩ := getF X0 hx hZ hown (host := "") (Or.inl (hw _ (List.mem_of_getElem? (i := 65) rfl))) Via.refl e0 F_size_a (g := (mkF m 2 #[.val (.ref a)] [(.ref a), (.ref a)])) rfl rfl (hb hby dgr0_2)
  refine own_go (fun tQ kQ => st1 tQ kQ) ?_
  show own_End p e below _ (T1.setTop (mkF m 5 #[.val (.ref a)] [(.int (0 : Int32)), (.ref a)]))
  refine own_go (fun tQ kQ => XS.iconst X1.here hx rfl (hb hby dgr0_5) kQ) ?_
  show own_End p e below _ (T1.setTop (mkF m 6 #[.val (.ref a)] [(.int (1 : Int32)), (.int (0 : Int32)), (.ref a)]))
  refine own_go (fun tQ kQ => XS.iadd X1.here hx rfl (hb hby dgr0_6) rfl kQ) ?_
  show own_End p e below _ (T1.setTop (mkF m 7 #[.val (.ref a)] [(.int ((0 : Int32) + (1 : Int32))), (.ref a)]))
  obtain ⟨cq2, q2, q2'⟩ := E_a.cell
  obtain ⟨_, _, ⟨T2, L2, k2, n2⟩, -, X2, ⟨Lc2, hQ2, l2, y2, z2⟩, st2⟩ := X1.privateBack hx (y := (⟨"java/util/ArrayList", "grow", "(I)[Ljava/lang/Object;"⟩ : MethodName)) hown (mvT hZ (hw _ (List.mem_of_getElem? (i := 77) rfl))) (mvT hZ (hw _ (List.mem_of_getElem? (i := 78) rfl))) (mvT hZ (hw _ (List.mem_of_getElem? (i := 80) rfl))) (Cond.privateMethod_at (mvP hZ (hw _ (List.mem_of_getElem? (i := 79) rfl)) (args := #[]))) (mvT hZ (hw _ (List.mem_of_getElem? (i := 81) rfl))) (by decide) (backOf (W := 0) (rmgr l Z a0 hw [] a de fd mc ((0 : Int32) + (1 : Int32)) h0 n0 Zs E_a F_modCount_a F_elementData_a F_size_a g_a Ol S_de V_de (by decide)) hZ (hw _ (List.mem_of_getElem? (i := 81) rfl)) (hw _ (List.mem_of_getElem? (i := 21) rfl)) (by decide) (by decide)) (g := (mkF m 7 #[.val (.ref a)] [(.int ((0 : Int32) + (1 : Int32))), (.ref a)])) rfl (by rw [hml]; rfl) (Steps.refl _) (a := a) (by rw [e1]; exact q2) q2' (argsL := [(.int ((0 : Int32) + (1 : Int32)))]) (rest := []) (lenOf pd_9 rfl) rfl (by show 2 * 0 + _ ≤ _; exact Nat.le_of_eq rfl) (hb hby dgr0_7) (fun _ _ => ⟨rfl, e1, (Nat.le_of_ble_eq_true rfl), (Nat.le_of_ble_eq_true rfl)⟩)
  dsimp only [Pt.U, Pt.locs, Pt.cells, Pt.slots] at X2 l2 y2 z2 st2 hQ2
  subst l2 y2 z2
  obtain ⟨b, rfl, N2q, K2, hb2, F_modCount_a, F_elementData_a, F_size_a, V_b⟩ := hQ2
  have Nf := Fr.app Nf N2q
  have ne_a_b : a ≠ b := Nat.ne_of_lt (Nat.lt_of_lt_of_le E_a.lt hb2)
  have g_b : n0 ≤ b := Nat.le_trans Zs hb2
  have sz_b : h0.size ≤ b := Nat.le_trans szr hb2
  have E_a := E_a.keep K2
  have Ol := Ol.keep K2 (allS g_a all0)
  have Kp := Kp.trans K2 (allS (Or.inl (List.mem_of_getElem? (i := 0) rfl)) all0)
  have Zs := Nat.le_trans Zs K2.1
  have szr := Nat.le_trans szr K2.1
  refine own_go (fun tQ kQ => st2.trans kQ) ?_
  show own_End p e below _ (T2.setTop (mkF m 10 #[.val (.ref a)] [(.ref b)]))
  obtain ⟨fs, hr, hrun, hended, hW, hsame⟩ := X2.leave (v := some (.ref b)) (fun h => by rw [Bd.returns] at h; cases h)
  refine ⟨_, _, ?_, hrun, hended, _, _, rfl, ?_, ⟨_, rfl⟩, hW, hsame.mono (by decide) (by decide)⟩
  · exact (by
      jvm_step X2.here [X2.here.top, hx, (hb hby dgr0_10), X2.method', Bd.returns, Value.isRef, FieldType.isReference, narrow]
      first | (intro acts; rw [hr _ acts rfl rfl rfl]) | rw [hr _ _ rfl rfl rfl]
      exact Steps.refl _)
  · show Qgr0 Z a de fd mc h0 n0 _ T2.heap _
    exact ⟨b, rfl, Nf, Kp, sz_b, F_modCount_a, F_elementData_a, F_size_a, V_b⟩
theorem pd_10 : parseMethodDescriptor "()[Ljava/lang/Object;" = some ⟨[], some (.array (.object "java/lang/Object"))⟩ := by decide +kernel
theorem dh1_0 : decode jdk_38_method_24_code 0 = .ok (.iload_n 3, 1) := by decide +kernel
theorem dh1_1 : decode jdk_38_method_24_code 1 = .ok (.aload_n 2, 1) := by decide +kernel
theorem dh1_2 : decode jdk_38_method_24_code 2 = .ok (.arraylength, 1) := by decide +kernel
theorem dh1_3 : decode jdk_38_method_24_code 3 = .ok (.if_icmp .ne 8, 3) := by decide +kernel
theorem dh1_6 : decode jdk_38_method_24_code 6 = .ok (.aload_n 0, 1) := by decide +kernel
theorem dh1_7 : decode jdk_38_method_24_code 7 = .ok (.invokevirtual 129, 3) := by decide +kernel
theorem dh1_10 : decode jdk_38_method_24_code 10 = .ok (.astore_n 2, 1) := by decide +kernel
theorem dh1_11 : decode jdk_38_method_24_code 11 = .ok (.aload_n 2, 1) := by decide +kernel
theorem dh1_12 : decode jdk_38_method_24_code 12 = .ok (.iload_n 3, 1) := by decide +kernel
theorem dh1_13 : decode jdk_38_method_24_code 13 = .ok (.aload_n 1, 1) := by decide +kernel
theorem dh1_14 : decode jdk_38_method_24_code 14 = .ok (.aastore, 1) := by decide +kernel
theorem dh1_15 : decode jdk_38_method_24_code 15 = .ok (.aload_n 0, 1) := by decide +kernel
theorem dh1_16 : decode jdk_38_method_24_code 16 = .ok (.iload_n 3, 1) := by decide +kernel
theorem dh1_17 : decode jdk_38_method_24_code 17 = .ok (.iconst 1, 1) := by decide +kernel
theorem dh1_18 : decode jdk_38_method_24_code 18 = .ok (.iadd, 1) := by decide +kernel
theorem dh1_19 : decode jdk_38_method_24_code 19 = .ok (.putfield 48, 3) := by decide +kernel
theorem dh1_22 : decode jdk_38_method_24_code 22 = .ok (.return_, 1) := by decide +kernel
theorem ef_h1 (m : MethodId) (x0 : Addr) (x1 : Addr) (x2 : Addr) (x3 : Int32) : entryFrame m #[(.ref x0), (.ref x1), (.ref x2), (.int x3)] 4 = mkF m 0 #[.val (.ref x0), .val (.ref x1), .val (.ref x2), .val (.int x3)] [] := by first | (simp [entryFrame, mkF, argsToLocals, Value.category]; done) | rfl
def Qh1 (Z : State) (a : Addr) (de : Addr) (fd : Nat → Value) (mc : Int32) (x1 : Addr) (h0 : Heap) (n0 : Nat) (v : Option Value) (h : Heap) (L : List Loc) : Prop := ∃ b, v = none ∧ Fr n0 L ∧ Keep h0 h [a] ∧ h0.size ≤ b ∧ Fld Z h a "java/util/AbstractList" "modCount" "I" (.int mc) ∧ Fld Z h a "java/util/ArrayList" "elementData" "[Ljava/lang/Object;" (.ref b) ∧ Fld Z h a "java/util/ArrayList" "size" "I" (.int ((0 : Int32) + (1 : Int32))) ∧ own_Rr Z h b "java/lang/Object" (10 : Int32) (fun j => if j = (0 : Int32).toNatClampNeg then .ref x1 else .null)
def Ph1 (Z : State) (a : Addr) (de : Addr) (fd : Nat → Value) (mc : Int32) (x1 : Addr) (h0 : Heap) (n0 : Nat) (s : State) (oQ : Outcome) (U : State) : Prop := ∃ v L, oQ = .returned v ∧ Qh1 Z a de fd mc x1 h0 n0 v U.heap L ∧ FrameEnd s oQ U L ({ frames := 3, cells := 1, slots := 10, locals := 41 } : Room).cells ({ frames := 3, cells := 1, slots := 10, locals := 41 } : Room).slots
set_option maxRecDepth 65536 in
set_option maxHeartbeats 40000000 in
theorem rmh1 (l : Launch) (Z : State) (a0 : Array Value) (hw : ∀ d ∈ tables_1, d.before a0 Z = true) (ws : List Jvm.Cond) (a : Addr) (de : Addr) (fd : Nat → Value) (mc : Int32) (x1 : Addr) (h0 : Heap) (n0 : Nat) (Z0 : n0 ≤ h0.size) (E_a : Exa Z h0 a "java/util/ArrayList") (F_modCount_a : Fld Z h0 a "java/util/AbstractList" "modCount" "I" (.int mc)) (F_elementData_a : Fld Z h0 a "java/util/ArrayList" "elementData" "[Ljava/lang/Object;" (.ref de)) (F_size_a : Fld Z h0 a "java/util/ArrayList" "size" "I" (.int (0 : Int32))) (g_a : n0 ≤ a) (Ol : Old Z n0 h0) (S_de : Sta Z Z.heap "java/util/ArrayList" "DEFAULTCAPACITY_EMPTY_ELEMENTDATA" "[Ljava/lang/Object;" (.ref de)) (V_de : own_Ar Z Z.heap de (.object "java/lang/Object") (0 : Int32) fd) (E_x1 : Exa Z h0 x1 "com/example/resolvent/resolvent/resolution/Trial$Offer") :
    MetFree l (⟨"java/util/ArrayList", "add", "(Ljava/lang/Object;[Ljava/lang/Object;I)V"⟩ : MethodName) (head1 (Jvm.Cond.code (⟨"java/util/ArrayList", "add", "(Ljava/lang/Object;[Ljava/lang/Object;I)V"⟩ : MethodName) jdk_38_method_24_code 4 none :: ws) ({ frames := 3, cells := 1, slots := 10, locals := 41 } : Room)) (fun aQ U => aQ = #[(.ref a), (.ref x1), (.ref de), (.int (0 : Int32))] ∧ Z.Warmed39 U.vm ∧ U.heap = h0) (fun _ _ _ _ _ => True) (fun _ U oQ U' => ∃ v L, oQ = .returned v ∧ Qh1 Z a de fd mc x1 h0 n0 v U'.heap L ∧ FrameEnd U oQ U' L ({ frames := 3, cells := 1, slots := 10, locals := 41 } : Room).cells ({ frames := 3, cells := 1, slots := 10, locals := 41 } : Room).slots) := by
  refine MetFree.of_bodySF (plainFor_of_name pn_4) hisR ?_
  intro p e s m args below meth c s₁ Bd hml0 hP hK
  obtain ⟨rfl, hZ, hh⟩ := hP
  have hx := Bd.exec
  have hby := Bd.bytes
  have hml : c.maxLocals = 4 := hml0
  have hown : s.vm.findClass "java/util/ArrayList" = some m.cls := findClass_of_methodNamed Bd.named
  have hnm := (name_of_methodNamed Bd.named Bd.method).1
  have X0 : Stand p l e ({ frames := 3, cells := 1, slots := 10, locals := 41 } : Room) s m #[(.ref a), (.ref x1), (.ref de), (.int (0 : Int32))] below meth c s₁ [] 0 0 := Stand.of_body Bd
  have e0 : s₁.heap = h0 := by rw [← hh, Bd.state]; rfl
  have Nf := Fr.nil n0
  have Zs : n0 ≤ h0.size := Z0
  have Kp : Keep h0 h0 [a] := Keep.refl _ _
  have szr : h0.size ≤ h0.size := Nat.le_refl _
  show own_End p e below (Ph1 Z a de fd mc x1 h0 n0 s) (s₁.setTop (entryFrame m #[(.ref a), (.ref x1), (.ref de), (.int (0 : Int32))] 4))
  rw [ef_h1]
  have ne_a_x1 : a ≠ x1 := ne_exa E_a E_x1 (by decide)
  have V_d := V_de.ext Ol.2
  refine own_go (fun tQ kQ => XS.iloadN X0.here hx rfl (hb hby dh1_0) rfl kQ) ?_
  show own_End p e below _ (s₁.setTop (mkF m 1 #[.val (.ref a), .val (.ref x1), .val (.ref de), .val (.int (0 : Int32))] [(.int (0 : Int32))]))
  refine own_go (fun tQ kQ => XS.aloadN X0.here hx rfl (hb hby dh1_1) rfl rfl kQ) ?_
  show own_End p e below _ (s₁.setTop (mkF m 2 #[.val (.ref a), .val (.ref x1), .val (.ref de), .val (.int (0 : Int32))] [(.ref de), (.int (0 : Int32))]))
  obtain ⟨cl1, Ar1, S1, M1, H1⟩ := id V_d
  refine own_go (fun tQ kQ => X0.arraylength hx (by rw [e0]; exact Ar1.1) (State.isArrayOf_alike hZ.alike Ar1.2.1) (g := (mkF m 2 #[.val (.ref a), .val (.ref x1), .val (.ref de), .val (.int (0 : Int32))] [(.ref de), (.int (0 : Int32))])) rfl rfl (hb hby dh1_2) _ kQ) ?_
  rw [len_of S1 M1]
  show own_End p e below _ (s₁.setTop (mkF m 3 #[.val (.ref a), .val (.ref x1), .val (.ref de), .val (.int (0 : Int32))] [(.int (0 : Int32)), (.int (0 : Int32))]))
  refine own_go (fun tQ kQ => XS.icmpNo X0.here hx rfl (hb hby dh1_3) rfl (teq (rfl : (0 : Int32) = (0 : Int32))).2 kQ) ?_
  show own_End p e below _ (s₁.setTop (mkF m 6 #[.val (.ref a), .val (.ref x1), .val (.ref de), .val (.int (0 : Int32))] []))
  refine own_go (fun tQ kQ => XS.aloadN X0.here hx rfl (hb hby dh1_6) rfl rfl kQ) ?_
  show own_End p e below _ (s₁.setTop (mkF m 7 #[.val (.ref a), .val (.ref x1), .val (.ref de), .val (.int (0 : Int32))] [(.ref a)]))
  obtain ⟨cq2, q2, q2'⟩ := E_a.cell
  obtain ⟨_, _, ⟨T2, L2, k2, n2⟩, -, X2, ⟨Lc2, hQ2, l2, y2, z2⟩, st2⟩ := X0.privateBack hx (y := (⟨"java/util/ArrayList", "grow", "()[Ljava/lang/Object;"⟩ : MethodName)) hown (mvT hZ (hw _ (List.mem_of_getElem? (i := 72) rfl))) (mvT hZ (hw _ (List.mem_of_getElem? (i := 73) rfl))) (mvT hZ (hw _ (List.mem_of_getElem? (i := 75) rfl))) (Cond.privateMethod_at (mvP hZ (hw _ (List.mem_of_getElem? (i := 74) rfl)) (args := #[]))) (mvT hZ (hw _ (List.mem_of_getElem? (i := 76) rfl))) (by decide) (backOf (W := 0) (rmgr0 l Z a0 hw [] a de fd mc h0 n0 Zs E_a F_modCount_a F_elementData_a F_size_a g_a Ol S_de V_de) hZ (hw _ (List.mem_of_getElem? (i := 76) rfl)) (hw _ (List.mem_of_getElem? (i := 21) rfl)) (by decide) (by decide)) (g := (mkF m 7 #[.val (.ref a), .val (.ref x1), .val (.ref de), .val (.int (0 : Int32))] [(.ref a)])) rfl (by rw [hml]; rfl) (Steps.refl _) (a := a) (by rw [e0]; exact q2) q2' (argsL := []) (rest := []) (lenOf pd_10 rfl) rfl (by show 2 * 0 + _ ≤ _; exact Nat.le_of_eq rfl) (hb hby dh1_7) (fun _ _ => ⟨rfl, e0, (Nat.le_of_ble_eq_true rfl), (Nat.le_of_ble_eq_true rfl)⟩)
  dsimp only [Pt.U, Pt.locs, Pt.cells, Pt.slots] at X2 l2 y2 z2 st2 hQ2
  subst l2 y2 z2
  obtain ⟨b, rfl, N2q, K2, hb2, F_modCount_a, F_elementData_a, F_size_a, V_b⟩ := hQ2
  have Nf := Fr.app Nf N2q
  have ne_a_b : a ≠ b := Nat.ne_of_lt (Nat.lt_of_lt_of_le E_a.lt hb2)
  have ne_x1_b : x1 ≠ b := Nat.ne_of_lt (Nat.lt_of_lt_of_le E_x1.lt hb2)
  have g_b : n0 ≤ b := Nat.le_trans Zs hb2
  have sz_b : h0.size ≤ b := Nat.le_trans szr hb2
  have E_a := E_a.keep K2
  have Ol := Ol.keep K2 (allS g_a all0)
  have E_x1 := E_x1.keep K2
  have Kp := Kp.trans K2 (allS (Or.inl (List.mem_of_getElem? (i := 0) rfl)) all0)
  have Zs := Nat.le_trans Zs K2.1
  have szr := Nat.le_trans szr K2.1
  refine own_go (fun tQ kQ => st2.trans kQ) ?_
  show own_End p e below _ (T2.setTop (mkF m 10 #[.val (.ref a), .val (.ref x1), .val (.ref de), .val (.int (0 : Int32))] [(.ref b)]))
  refine own_go (fun tQ kQ => XS.astoreN X2.here hx rfl (hb hby dh1_10) rfl rfl (l' := #[.val (.ref a), .val (.ref x1), .val (.ref b), .val (.int (0 : Int32))]) rfl kQ) ?_
  show own_End p e below _ (T2.setTop (mkF m 11 #[.val (.ref a), .val (.ref x1), .val (.ref b), .val (.int (0 : Int32))] []))
  refine own_go (fun tQ kQ => XS.aloadN X2.here hx rfl (hb hby dh1_11) rfl rfl kQ) ?_
  show own_End p e below _ (T2.setTop (mkF m 12 #[.val (.ref a), .val (.ref x1), .val (.ref b), .val (.int (0 : Int32))] [(.ref b)]))
  refine own_go (fun tQ kQ => XS.iloadN X2.here hx rfl (hb hby dh1_12) rfl kQ) ?_
  show own_End p e below _ (T2.setTop (mkF m 13 #[.val (.ref a), .val (.ref x1), .val (.ref b), .val (.int (0 : Int32))] [(.int (0 : Int32)), (.ref b)]))
  refine own_go (fun tQ kQ => XS.aloadN X2.here hx rfl (hb hby dh1_13) rfl rfl kQ) ?_
  show own_End p e below _ (T2.setTop (mkF m 14 #[.val (.ref a), .val (.ref x1), .val (.ref b), .val (.int (0 : Int32))] [(.ref x1), (.int (0 : Int32)), (.ref b)]))
  obtain ⟨cl3, Ar3, S3, M3, H3, O3⟩ := id V_b
  have hin3 := inb_of (j := (0 : Int32)) S3 ⟨(by decide), (by decide)⟩
  obtain ⟨T4, h4, X4, e4, W4, st4⟩ := stR X2 hx hZ rfl Ar3 (j := (0 : Int32)) hin3 rfl (Sto.of Ar3 O3 (Ins.of_exa E_x1 (hw _ (List.mem_of_getElem? (i := 88) rfl)))) (g := (mkF m 14 #[.val (.ref a), .val (.ref x1), .val (.ref b), .val (.int (0 : Int32))] [(.ref x1), (.int (0 : Int32)), (.ref b)])) rfl rfl (hb hby dh1_14)
  have V_b := own_Rr_set Ar3 S3 M3 H3 O3 W4
  have E_a := E_a.wr W4
  have Ol := Ol.wr W4 g_b
  have E_x1 := E_x1.wr W4
  have F_modCount_a := F_modCount_a.other W4 (Or.inl ne_a_b)
  have F_elementData_a := F_elementData_a.other W4 (Or.inl ne_a_b)
  have F_size_a := F_size_a.other W4 (Or.inl ne_a_b)
  have Kp := Kp.wr W4 (Or.inr sz_b)
  have Nf := Fr.snoc X4 Nf g_b
  have Zs := Nat.le_trans Zs (Keep.of_wr W4).1
  have szr := Nat.le_trans szr (Keep.of_wr W4).1
  refine own_go (fun tQ kQ => st4 tQ kQ) ?_
  show own_End p e below _ (T4.setTop (mkF m 15 #[.val (.ref a), .val (.ref x1), .val (.ref b), .val (.int (0 : Int32))] []))
  refine own_go (fun tQ kQ => XS.aloadN X4.here hx rfl (hb hby dh1_15) rfl rfl kQ) ?_
  show own_End p e below _ (T4.setTop (mkF m 16 #[.val (.ref a), .val (.ref x1), .val (.ref b), .val (.int (0 : Int32))] [(.ref a)]))
  refine own_go (fun tQ kQ => XS.iloadN X4.here hx rfl (hb hby dh1_16) rfl kQ) ?_
  show own_End p e below _ (T4.setTop (mkF m 17 #[.val (.ref a), .val (.ref x1), .val (.ref b), .val (.int (0 : Int32))] [(.int (0 : Int32)), (.ref a)]))
  refine own_go (fun tQ kQ => XS.iconst X4.here hx rfl (hb hby dh1_17) kQ) ?_
  show own_End p e below _ (T4.setTop (mkF m 18 #[.val (.ref a), .val (.ref x1), .val (.ref b), .val (.int (0 : Int32))] [(.int (1 : Int32)), (.int (0 : Int32)), (.ref a)]))
  refine own_go (fun tQ kQ => XS.iadd X4.here hx rfl (hb hby dh1_18) rfl kQ) ?_
  show own_End p e below _ (T4.setTop (mkF m 19 #[.val (.ref a), .val (.ref x1), .val (.ref b), .val (.int (0 : Int32))] [(.int ((0 : Int32) + (1 : Int32))), (.ref a)]))
  obtain ⟨T5, h5, X5, e5, W5, st5⟩ := putF X4 hx hZ hown (host := "") (Or.inl (hw _ (List.mem_of_getElem? (i := 65) rfl))) Via.refl e4 F_size_a E_a (Or.inl (hw _ (List.mem_of_getElem? (i := 66) rfl))) (hw _ (List.mem_of_getElem? (i := 20) rfl)) (ty := .int) (by decide) rfl rfl (g := (mkF m 19 #[.val (.ref a), .val (.ref x1), .val (.ref b), .val (.int (0 : Int32))] [(.int ((0 : Int32) + (1 : Int32))), (.ref a)])) rfl rfl (hb hby dh1_19)
  have F_size_a := F_size_a.same W5
  have E_a := E_a.wr W5
  have Ol := Ol.wr W5 g_a
  have E_x1 := E_x1.wr W5
  have F_modCount_a := F_modCount_a.other W5 (Or.inr (slot_ne (Or.inl (hw _ (List.mem_of_getElem? (i := 39) rfl))) (Or.inl (hw _ (List.mem_of_getElem? (i := 66) rfl))) (by decide) (t := .int) (t' := .int) (by decide) (by decide)))
  have F_elementData_a := F_elementData_a.other W5 (Or.inr (slot_ne (Or.inl (hw _ (List.mem_of_getElem? (i := 42) rfl))) (Or.inl (hw _ (List.mem_of_getElem? (i := 66) rfl))) (by decide) (t := (.array (.object "java/lang/Object"))) (t' := .int) (by decide) (by decide)))
  have V_b := V_b.other W5 (Ne.symm ne_a_b)
  have Kp := Kp.wr W5 (Or.inl (List.mem_of_getElem? (i := 0) rfl))
  have Nf := Fr.snoc X5 Nf g_a
  have Zs := Nat.le_trans Zs (Keep.of_wr W5).1
  have szr := Nat.le_trans szr (Keep.of_wr W5).1
  refine own_go (fun tQ kQ => st5 tQ kQ) ?_
  show own_End p e below _ (T5.setTop (mkF m 22 #[.val (.ref a), .val (.ref x1), .val (.ref b), .val (.int (0 : Int32))] []))
  obtain ⟨fs, hr, hrun, hended, hW, hsame⟩ := X5.leave (v := none) (fun _ => rfl)
  refine ⟨_, _, X5.returnOut hx Bd.returns (hb hby dh1_22) hr, hrun, hended, _, _, rfl, ?_, ⟨_, rfl⟩, hW, hsame.mono (by decide) (by decide)⟩
  show Qh1 Z a de fd mc x1 h0 n0 _ T5.heap _
  rw [e5]
  exact ⟨b, rfl, Nf, Kp, sz_b, F_modCount_a, F_elementData_a, F_size_a, V_b⟩
theorem dh2_0 : decode jdk_38_method_24_code 0 = .ok (.iload_n 3, 1) := by decide +kernel
theorem dh2_1 : decode jdk_38_method_24_code 1 = .ok (.aload_n 2, 1) := by decide +kernel
theorem dh2_2 : decode jdk_38_method_24_code 2 = .ok (.arraylength, 1) := by decide +kernel
theorem dh2_3 : decode jdk_38_method_24_code 3 = .ok (.if_icmp .ne 8, 3) := by decide +kernel
theorem dh2_11 : decode jdk_38_method_24_code 11 = .ok (.aload_n 2, 1) := by decide +kernel
theorem dh2_12 : decode jdk_38_method_24_code 12 = .ok (.iload_n 3, 1) := by decide +kernel
theorem dh2_13 : decode jdk_38_method_24_code 13 = .ok (.aload_n 1, 1) := by decide +kernel
theorem dh2_14 : decode jdk_38_method_24_code 14 = .ok (.aastore, 1) := by decide +kernel
theorem dh2_15 : decode jdk_38_method_24_code 15 = .ok (.aload_n 0, 1) := by decide +kernel
theorem dh2_16 : decode jdk_38_method_24_code 16 = .ok (.iload_n 3, 1) := by decide +kernel
theorem dh2_17 : decode jdk_38_method_24_code 17 = .ok (.iconst 1, 1) := by decide +kernel
theorem dh2_18 : decode jdk_38_method_24_code 18 = .ok (.iadd, 1) := by decide +kernel
theorem dh2_19 : decode jdk_38_method_24_code 19 = .ok (.putfield 48, 3) := by decide +kernel
theorem dh2_22 : decode jdk_38_method_24_code 22 = .ok (.return_, 1) := by decide +kernel
theorem ef_h2 (m : MethodId) (x0 : Addr) (x1 : Addr) (x2 : Addr) (x3 : Int32) : entryFrame m #[(.ref x0), (.ref x1), (.ref x2), (.int x3)] 4 = mkF m 0 #[.val (.ref x0), .val (.ref x1), .val (.ref x2), .val (.int x3)] [] := by first | (simp [entryFrame, mkF, argsToLocals, Value.category]; done) | rfl
def Qh2 (Z : State) (a : Addr) (b : Addr) (ff : Nat → Value) (mc : Int32) (k : Int32) (x1 : Addr) (h0 : Heap) (n0 : Nat) (v : Option Value) (h : Heap) (L : List Loc) : Prop := v = none ∧ Fr n0 L ∧ Keep h0 h [a, b] ∧ Fld Z h a "java/util/AbstractList" "modCount" "I" (.int mc) ∧ Fld Z h a "java/util/ArrayList" "elementData" "[Ljava/lang/Object;" (.ref b) ∧ Fld Z h a "java/util/ArrayList" "size" "I" (.int (k + (1 : Int32))) ∧ own_Rr Z h b "java/lang/Object" (10 : Int32) (fun j => if j = k.toNatClampNeg then .ref x1 else ff j)
def Ph2 (Z : State) (a : Addr) (b : Addr) (ff : Nat → Value) (mc : Int32) (k : Int32) (x1 : Addr) (h0 : Heap) (n0 : Nat) (s : State) (oQ : Outcome) (U : State) : Prop := ∃ v L, oQ = .returned v ∧ Qh2 Z a b ff mc k x1 h0 n0 v U.heap L ∧ FrameEnd s oQ U L ({ frames := 0, cells := 0, slots := 0, locals := 0 } : Room).cells ({ frames := 0, cells := 0, slots := 0, locals := 0 } : Room).slots
set_option maxRecDepth 65536 in
set_option maxHeartbeats 40000000 in
theorem rmh2 (l : Launch) (Z : State) (a0 : Array Value) (hw : ∀ d ∈ tables_1, d.before a0 Z = true) (ws : List Jvm.Cond) (a : Addr) (b : Addr) (ff : Nat → Value) (mc : Int32) (k : Int32) (x1 : Addr) (h0 : Heap) (n0 : Nat) (Z0 : n0 ≤ h0.size) (E_a : Exa Z h0 a "java/util/ArrayList") (F_modCount_a : Fld Z h0 a "java/util/AbstractList" "modCount" "I" (.int mc)) (F_elementData_a : Fld Z h0 a "java/util/ArrayList" "elementData" "[Ljava/lang/Object;" (.ref b)) (F_size_a : Fld Z h0 a "java/util/ArrayList" "size" "I" (.int k)) (g_a : n0 ≤ a) (V_b : own_Rr Z h0 b "java/lang/Object" (10 : Int32) (ff)) (g_b : n0 ≤ b) (ne_a_b : a ≠ b) (hk0 : ¬ k < 0) (hk1 : k < 10) (E_x1 : Exa Z h0 x1 "com/example/resolvent/resolvent/resolution/Trial$Offer") :
    MetFree l (⟨"java/util/ArrayList", "add", "(Ljava/lang/Object;[Ljava/lang/Object;I)V"⟩ : MethodName) (head1 (Jvm.Cond.code (⟨"java/util/ArrayList", "add", "(Ljava/lang/Object;[Ljava/lang/Object;I)V"⟩ : MethodName) jdk_38_method_24_code 4 none :: ws) ({ frames := 0, cells := 0, slots := 0, locals := 0 } : Room)) (fun aQ U => aQ = #[(.ref a), (.ref x1), (.ref b), (.int k)] ∧ Z.Warmed39 U.vm ∧ U.heap = h0) (fun _ _ _ _ _ => True) (fun _ U oQ U' => ∃ v L, oQ = .returned v ∧ Qh2 Z a b ff mc k x1 h0 n0 v U'.heap L ∧ FrameEnd U oQ U' L ({ frames := 0, cells := 0, slots := 0, locals := 0 } : Room).cells ({ frames := 0, cells := 0, slots := 0, locals := 0 } : Room).slots) := by
  refine MetFree.of_bodySF (plainFor_of_name pn_4) hisR ?_
  intro p e s m args below meth c s₁ Bd hml0 hP hK
  obtain ⟨rfl, hZ, hh⟩ := hP
  have hx := Bd.exec
  have hby := Bd.bytes
  have hml : c.maxLocals = 4 := hml0
  have hown : s.vm.findClass "java/util/ArrayList" = some m.cls := findClass_of_methodNamed Bd.named
  have hnm := (name_of_methodNamed Bd.named Bd.method).1
  have X0 : Stand p l e ({ frames := 0, cells := 0, slots := 0, locals := 0 } : Room) s m #[(.ref a), (.ref x1), (.ref b), (.int k)] below meth c s₁ [] 0 0 := Stand.of_body Bd
  have e0 : s₁.heap = h0 := by rw [← hh, Bd.state]; rfl
  have Nf := Fr.nil n0
  have Zs : n0 ≤ h0.size := Z0
  have Kp : Keep h0 h0 [a, b] := Keep.refl _ _
  have szr : h0.size ≤ h0.size := Nat.le_refl _
  show own_End p e below (Ph2 Z a b ff mc k x1 h0 n0 s) (s₁.setTop (entryFrame m #[(.ref a), (.ref x1), (.ref b), (.int k)] 4))
  rw [ef_h2]
  have ne_a_x1 : a ≠ x1 := ne_exa E_a E_x1 (by decide)
  refine own_go (fun tQ kQ => XS.iloadN X0.here hx rfl (hb hby dh2_0) rfl kQ) ?_
  show own_End p e below _ (s₁.setTop (mkF m 1 #[.val (.ref a), .val (.ref x1), .val (.ref b), .val (.int k)] [(.int k)]))
  refine own_go (fun tQ kQ => XS.aloadN X0.here hx rfl (hb hby dh2_1) rfl rfl kQ) ?_
  show own_End p e below _ (s₁.setTop (mkF m 2 #[.val (.ref a), .val (.ref x1), .val (.ref b), .val (.int k)] [(.ref b), (.int k)]))
  obtain ⟨cl1, Ar1, S1, M1, H1, -⟩ := id V_b
  refine own_go (fun tQ kQ => X0.arraylength hx (by rw [e0]; exact Ar1.1) (State.isArrayOf_alike hZ.alike Ar1.2.1) (g := (mkF m 2 #[.val (.ref a), .val (.ref x1), .val (.ref b), .val (.int k)] [(.ref b), (.int k)])) rfl rfl (hb hby dh2_2) _ kQ) ?_
  rw [len_of S1 M1]
  show own_End p e below _ (s₁.setTop (mkF m 3 #[.val (.ref a), .val (.ref x1), .val (.ref b), .val (.int k)] [(.int (10 : Int32)), (.int k)]))
  refine own_go (fun tQ kQ => XS.icmpYes X0.here hx rfl (pc0 := 3) (pc' := 11) rfl (hb hby dh2_3) rfl (feq (fun q => absurd hk1 (by rw [q]; decide))).2 (by decide) (by decide) kQ) ?_
  show own_End p e below _ (s₁.setTop (mkF m 11 #[.val (.ref a), .val (.ref x1), .val (.ref b), .val (.int k)] []))
  refine own_go (fun tQ kQ => XS.aloadN X0.here hx rfl (hb hby dh2_11) rfl rfl kQ) ?_
  show own_End p e below _ (s₁.setTop (mkF m 12 #[.val (.ref a), .val (.ref x1), .val (.ref b), .val (.int k)] [(.ref b)]))
  refine own_go (fun tQ kQ => XS.iloadN X0.here hx rfl (hb hby dh2_12) rfl kQ) ?_
  show own_End p e below _ (s₁.setTop (mkF m 13 #[.val (.ref a), .val (.ref x1), .val (.ref b), .val (.int k)] [(.int k), (.ref b)]))
  refine own_go (fun tQ kQ => XS.aloadN X0.here hx rfl (hb hby dh2_13) rfl rfl kQ) ?_
  show own_End p e below _ (s₁.setTop (mkF m 14 #[.val (.ref a), .val (.ref x1), .val (.ref b), .val (.int k)] [(.ref x1), (.int k), (.ref b)]))
  obtain ⟨cl2, Ar2, S2, M2, H2, O2⟩ := id V_b
  have hin2 := inb_of (j := k) S2 ⟨hk0, hk1⟩
  obtain ⟨T3, h3, X3, e3, W3, st3⟩ := stR X0 hx hZ e0 Ar2 (j := k) hin2 rfl (Sto.of Ar2 O2 (Ins.of_exa E_x1 (hw _ (List.mem_of_getElem? (i := 88) rfl)))) (g := (mkF m 14 #[.val (.ref a), .val (.ref x1), .val (.ref b), .val (.int k)] [(.ref x1), (.int k), (.ref b)])) rfl rfl (hb hby dh2_14)
  have V_b := own_Rr_set Ar2 S2 M2 H2 O2 W3
  have E_a := E_a.wr W3
  have F_modCount_a := F_modCount_a.other W3 (Or.inl ne_a_b)
  have F_elementData_a := F_elementData_a.other W3 (Or.inl ne_a_b)
  have F_size_a := F_size_a.other W3 (Or.inl ne_a_b)
  have E_x1 := E_x1.wr W3
  have Kp := Kp.wr W3 (Or.inl (List.mem_of_getElem? (i := 1) rfl))
  have Nf := Fr.snoc X3 Nf g_b
  have Zs := Nat.le_trans Zs (Keep.of_wr W3).1
  have szr := Nat.le_trans szr (Keep.of_wr W3).1
  refine own_go (fun tQ kQ => st3 tQ kQ) ?_
  show own_End p e below _ (T3.setTop (mkF m 15 #[.val (.ref a), .val (.ref x1), .val (.ref b), .val (.int k)] []))
  refine own_go (fun tQ kQ => XS.aloadN X3.here hx rfl (hb hby dh2_15) rfl rfl kQ) ?_
  show own_End p e below _ (T3.setTop (mkF m 16 #[.val (.ref a), .val (.ref x1), .val (.ref b), .val (.int k)] [(.ref a)]))
  refine own_go (fun tQ kQ => XS.iloadN X3.here hx rfl (hb hby dh2_16) rfl kQ) ?_
  show own_End p e below _ (T3.setTop (mkF m 17 #[.val (.ref a), .val (.ref x1), .val (.ref b), .val (.int k)] [(.int k), (.ref a)]))
  refine own_go (fun tQ kQ => XS.iconst X3.here hx rfl (hb hby dh2_17) kQ) ?_
  show own_End p e below _ (T3.setTop (mkF m 18 #[.val (.ref a), .val (.ref x1), .val (.ref b), .val (.int k)] [(.int (1 : Int32)), (.int k), (.ref a)]))
  refine own_go (fun tQ kQ => XS.iadd X3.here hx rfl (hb hby dh2_18) rfl kQ) ?_
  show own_End p e below _ (T3.setTop (mkF m 19 #[.val (.ref a), .val (.ref x1), .val (.ref b), .val (.int k)] [(.int (k + (1 : Int32))), (.ref a)]))
  obtain ⟨T4, h4, X4, e4, W4, st4⟩ := putF X3 hx hZ hown (host := "") (Or.inl (hw _ (List.mem_of_getElem? (i := 65) rfl))) Via.refl e3 F_size_a E_a (Or.inl (hw _ (List.mem_of_getElem? (i := 66) rfl))) (hw _ (List.mem_of_getElem? (i := 20) rfl)) (ty := .int) (by decide) rfl rfl (g := (mkF m 19 #[.val (.ref a), .val (.ref x1), .val (.ref b), .val (.int k)] [(.int (k + (1 : Int32))), (.ref a)])) rfl rfl (hb hby dh2_19)
  have F_size_a := F_size_a.same W4
  have E_a := E_a.wr W4
  have F_modCount_a := F_modCount_a.other W4 (Or.inr (slot_ne (Or.inl (hw _ (List.mem_of_getElem? (i := 39) rfl))) (Or.inl (hw _ (List.mem_of_getElem? (i := 66) rfl))) (by decide) (t := .int) (t' := .int) (by decide) (by decide)))
  have F_elementData_a := F_elementData_a.other W4 (Or.inr (slot_ne (Or.inl (hw _ (List.mem_of_getElem? (i := 42) rfl))) (Or.inl (hw _ (List.mem_of_getElem? (i := 66) rfl))) (by decide) (t := (.array (.object "java/lang/Object"))) (t' := .int) (by decide) (by decide)))
  have E_x1 := E_x1.wr W4
  have V_b := V_b.other W4 (Ne.symm ne_a_b)
  have Kp := Kp.wr W4 (Or.inl (List.mem_of_getElem? (i := 0) rfl))
  have Nf := Fr.snoc X4 Nf g_a
  have Zs := Nat.le_trans Zs (Keep.of_wr W4).1
  have szr := Nat.le_trans szr (Keep.of_wr W4).1
  refine own_go (fun tQ kQ => st4 tQ kQ) ?_
  show own_End p e below _ (T4.setTop (mkF m 22 #[.val (.ref a), .val (.ref x1), .val (.ref b), .val (.int k)] []))
  obtain ⟨fs, hr, hrun, hended, hW, hsame⟩ := X4.leave (v := none) (fun _ => rfl)
  refine ⟨_, _, X4.returnOut hx Bd.returns (hb hby dh2_22) hr, hrun, hended, _, _, rfl, ?_, ⟨_, rfl⟩, hW, hsame.mono (by decide) (by decide)⟩
  show Qh2 Z a b ff mc k x1 h0 n0 _ T4.heap _
  rw [e4]
  exact ⟨rfl, Nf, Kp, F_modCount_a, F_elementData_a, F_size_a, V_b⟩
theorem pd_11 : parseMethodDescriptor "(Ljava/lang/Object;[Ljava/lang/Object;I)V" = some ⟨[(.object "java/lang/Object"), (.array (.object "java/lang/Object")), .int], none⟩ := by decide +kernel
theorem da1_0 : decode jdk_38_method_25_code 0 = .ok (.aload_n 0, 1) := by decide +kernel
theorem da1_1 : decode jdk_38_method_25_code 1 = .ok (.dup, 1) := by decide +kernel
theorem da1_2 : decode jdk_38_method_25_code 2 = .ok (.getfield 63, 3) := by decide +kernel
theorem da1_5 : decode jdk_38_method_25_code 5 = .ok (.iconst 1, 1) := by decide +kernel
theorem da1_6 : decode jdk_38_method_25_code 6 = .ok (.iadd, 1) := by decide +kernel
theorem da1_7 : decode jdk_38_method_25_code 7 = .ok (.putfield 63, 3) := by decide +kernel
theorem da1_10 : decode jdk_38_method_25_code 10 = .ok (.aload_n 0, 1) := by decide +kernel
theorem da1_11 : decode jdk_38_method_25_code 11 = .ok (.aload_n 1, 1) := by decide +kernel
theorem da1_12 : decode jdk_38_method_25_code 12 = .ok (.aload_n 0, 1) := by decide +kernel
theorem da1_13 : decode jdk_38_method_25_code 13 = .ok (.getfield 9, 3) := by decide +kernel
theorem da1_16 : decode jdk_38_method_25_code 16 = .ok (.aload_n 0, 1) := by decide +kernel
theorem da1_17 : decode jdk_38_method_25_code 17 = .ok (.getfield 48, 3) := by decide +kernel
theorem da1_20 : decode jdk_38_method_25_code 20 = .ok (.invokevirtual 131, 3) := by decide +kernel
theorem da1_23 : decode jdk_38_method_25_code 23 = .ok (.iconst 1, 1) := by decide +kernel
theorem da1_24 : decode jdk_38_method_25_code 24 = .ok (.ireturn, 1) := by decide +kernel
theorem ef_a1 (m : MethodId) (x0 : Addr) (x1 : Addr) : entryFrame m #[(.ref x0), (.ref x1)] 2 = mkF m 0 #[.val (.ref x0), .val (.ref x1)] [] := by first | (simp [entryFrame, mkF, argsToLocals, Value.category]; done) | rfl
def Qa1 (Z : State) (a : Addr) (de : Addr) (fd : Nat → Value) (mc : Int32) (x1 : Addr) (h0 : Heap) (n0 : Nat) (v : Option Value) (h : Heap) (L : List Loc) : Prop := ∃ b, v = some (.int 1) ∧ Fr n0 L ∧ Keep h0 h [a] ∧ h0.size ≤ b ∧ Fld Z h a "java/util/AbstractList" "modCount" "I" (.int (mc + (1 : Int32))) ∧ Fld Z h a "java/util/ArrayList" "elementData" "[Ljava/lang/Object;" (.ref b) ∧ Fld Z h a "java/util/ArrayList" "size" "I" (.int ((0 : Int32) + (1 : Int32))) ∧ own_Rr Z h b "java/lang/Object" (10 : Int32) (fun j => if j = (0 : Int32).toNatClampNeg then .ref x1 else .null)
def Pa1 (Z : State) (a : Addr) (de : Addr) (fd : Nat → Value) (mc : Int32) (x1 : Addr) (h0 : Heap) (n0 : Nat) (s : State) (oQ : Outcome) (U : State) : Prop := ∃ v L, oQ = .returned v ∧ Qa1 Z a de fd mc x1 h0 n0 v U.heap L ∧ FrameEnd s oQ U L ({ frames := 4, cells := 1, slots := 10, locals := 56 } : Room).cells ({ frames := 4, cells := 1, slots := 10, locals := 56 } : Room).slots
set_option maxRecDepth 65536 in
set_option maxHeartbeats 40000000 in
theorem rma1 (l : Launch) (Z : State) (a0 : Array Value) (hw : ∀ d ∈ tables_1, d.before a0 Z = true) (ws : List Jvm.Cond) (a : Addr) (de : Addr) (fd : Nat → Value) (mc : Int32) (x1 : Addr) (h0 : Heap) (n0 : Nat) (Z0 : n0 ≤ h0.size) (E_a : Exa Z h0 a "java/util/ArrayList") (F_modCount_a : Fld Z h0 a "java/util/AbstractList" "modCount" "I" (.int mc)) (F_elementData_a : Fld Z h0 a "java/util/ArrayList" "elementData" "[Ljava/lang/Object;" (.ref de)) (F_size_a : Fld Z h0 a "java/util/ArrayList" "size" "I" (.int (0 : Int32))) (g_a : n0 ≤ a) (Ol : Old Z n0 h0) (S_de : Sta Z Z.heap "java/util/ArrayList" "DEFAULTCAPACITY_EMPTY_ELEMENTDATA" "[Ljava/lang/Object;" (.ref de)) (V_de : own_Ar Z Z.heap de (.object "java/lang/Object") (0 : Int32) fd) (E_x1 : Exa Z h0 x1 "com/example/resolvent/resolvent/resolution/Trial$Offer") :
    MetFree l (⟨"java/util/ArrayList", "add", "(Ljava/lang/Object;)Z"⟩ : MethodName) (head1 (Jvm.Cond.code (⟨"java/util/ArrayList", "add", "(Ljava/lang/Object;)Z"⟩ : MethodName) jdk_38_method_25_code 2 (some .boolean) :: ws) ({ frames := 4, cells := 1, slots := 10, locals := 56 } : Room)) (fun aQ U => aQ = #[(.ref a), (.ref x1)] ∧ Z.Warmed39 U.vm ∧ U.heap = h0) (fun _ _ _ _ _ => True) (fun _ U oQ U' => ∃ v L, oQ = .returned v ∧ Qa1 Z a de fd mc x1 h0 n0 v U'.heap L ∧ FrameEnd U oQ U' L ({ frames := 4, cells := 1, slots := 10, locals := 56 } : Room).cells ({ frames := 4, cells := 1, slots := 10, locals := 56 } : Room).slots) := by
  refine MetFree.of_bodySF (plainFor_of_name pn_4) hisR ?_
  intro p e s m args below meth c s₁ Bd hml0 hP hK
  obtain ⟨rfl, hZ, hh⟩ := hP
  have hx := Bd.exec
  have hby := Bd.bytes
  have hml : c.maxLocals = 2 := hml0
  have hown : s.vm.findClass "java/util/ArrayList" = some m.cls := findClass_of_methodNamed Bd.named
  have hnm := (name_of_methodNamed Bd.named Bd.method).1
  have X0 : Stand p l e ({ frames := 4, cells := 1, slots := 10, locals := 56 } : Room) s m #[(.ref a), (.ref x1)] below meth c s₁ [] 0 0 := Stand.of_body Bd
  have e0 : s₁.heap = h0 := by rw [← hh, Bd.state]; rfl
  have Nf := Fr.nil n0
  have Zs : n0 ≤ h0.size := Z0
  have Kp : Keep h0 h0 [a] := Keep.refl _ _
  have szr : h0.size ≤ h0.size := Nat.le_refl _
  show own_End p e below (Pa1 Z a de fd mc x1 h0 n0 s) (s₁.setTop (entryFrame m #[(.ref a), (.ref x1)] 2))
  rw [ef_a1]
  refine own_go (fun tQ kQ => XS.aloadN X0.here hx rfl (hb hby da1_0) rfl rfl kQ) ?_
  show own_End p e below _ (s₁.setTop (mkF m 1 #[.val (.ref a), .val (.ref x1)] [(.ref a)]))
  refine own_go (fun tQ kQ => XS.dup X0.here hx rfl (hb hby da1_1) rfl rfl kQ) ?_
  show own_End p e below _ (s₁.setTop (mkF m 2 #[.val (.ref a), .val (.ref x1)] [(.ref a), (.ref a)]))
  obtain ⟨T1, X1, e1, st1⟩ := getF X0 hx hZ hown (host := "") (Or.inl (hw _ (List.mem_of_getElem? (i := 63) rfl))) (Via.of (hw _ (List.mem_of_getElem? (i := 64) rfl))) e0 F_modCount_a (g := (mkF m 2 #[.val (.ref a), .val (.ref x1)] [(.ref a), (.ref a)])) rfl rfl (hb hby da1_2)
  refine own_go (fun tQ kQ => st1 tQ kQ) ?_
  show own_End p e below _ (T1.setTop (mkF m 5 #[.val (.ref a), .val (.ref x1)] [(.int mc), (.ref a)]))
  refine own_go (fun tQ kQ => XS.iconst X1.here hx rfl (hb hby da1_5) kQ) ?_
  show own_End p e below _ (T1.setTop (mkF m 6 #[.val (.ref a), .val (.ref x1)] [(.int (1 : Int32)), (.int mc), (.ref a)]))
  refine own_go (fun tQ kQ => XS.iadd X1.here hx rfl (hb hby da1_6) rfl kQ) ?_
  show own_End p e below _ (T1.setTop (mkF m 7 #[.val (.ref a), .val (.ref x1)] [(.int (mc + (1 : Int32))), (.ref a)]))
  obtain ⟨T2, h2, X2, e2, W2, st2⟩ := putF X1 hx hZ hown (host := "") (Or.inl (hw _ (List.mem_of_getElem? (i := 63) rfl))) (Via.of (hw _ (List.mem_of_getElem? (i := 64) rfl))) e1 F_modCount_a E_a (Or.inl (hw _ (List.mem_of_getElem? (i := 39) rfl))) (hw _ (List.mem_of_getElem? (i := 20) rfl)) (ty := .int) (by decide) rfl rfl (g := (mkF m 7 #[.val (.ref a), .val (.ref x1)] [(.int (mc + (1 : Int32))), (.ref a)])) rfl rfl (hb hby da1_7)
  have F_modCount_a := F_modCount_a.same W2
  have E_a := E_a.wr W2
  have F_elementData_a := F_elementData_a.other W2 (Or.inr (slot_ne (Or.inl (hw _ (List.mem_of_getElem? (i := 42) rfl))) (Or.inl (hw _ (List.mem_of_getElem? (i := 39) rfl))) (by decide) (t := (.array (.object "java/lang/Object"))) (t' := .int) (by decide) (by decide)))
  have F_size_a := F_size_a.other W2 (Or.inr (slot_ne (Or.inl (hw _ (List.mem_of_getElem? (i := 66) rfl))) (Or.inl (hw _ (List.mem_of_getElem? (i := 39) rfl))) (by decide) (t := .int) (t' := .int) (by decide) (by decide)))
  have Ol := Ol.wr W2 g_a
  have E_x1 := E_x1.wr W2
  have Kp := Kp.wr W2 (Or.inl (List.mem_of_getElem? (i := 0) rfl))
  have Nf := Fr.snoc X2 Nf g_a
  have Zs := Nat.le_trans Zs (Keep.of_wr W2).1
  have szr := Nat.le_trans szr (Keep.of_wr W2).1
  refine own_go (fun tQ kQ => st2 tQ kQ) ?_
  show own_End p e below _ (T2.setTop (mkF m 10 #[.val (.ref a), .val (.ref x1)] []))
  refine own_go (fun tQ kQ => XS.aloadN X2.here hx rfl (hb hby da1_10) rfl rfl kQ) ?_
  show own_End p e below _ (T2.setTop (mkF m 11 #[.val (.ref a), .val (.ref x1)] [(.ref a)]))
  refine own_go (fun tQ kQ => XS.aloadN X2.here hx rfl (hb hby da1_11) rfl rfl kQ) ?_
  show own_End p e below _ (T2.setTop (mkF m 12 #[.val (.ref a), .val (.ref x1)] [(.ref x1), (.ref a)]))
  refine own_go (fun tQ kQ => XS.aloadN X2.here hx rfl (hb hby da1_12) rfl rfl kQ) ?_
  show own_End p e below _ (T2.setTop (mkF m 13 #[.val (.ref a), .val (.ref x1)] [(.ref a), (.ref x1), (.ref a)]))
  obtain ⟨T3, X3, e3, st3⟩ := getF X2 hx hZ hown (host := "") (Or.inl (hw _ (List.mem_of_getElem? (i := 41) rfl))) Via.refl e2 F_elementData_a (g := (mkF m 13 #[.val (.ref a), .val (.ref x1)] [(.ref a), (.ref x1), (.ref a)])) rfl rfl (hb hby da1_13)
  refine own_go (fun tQ kQ => st3 tQ kQ) ?_
  show own_End p e below _ (T3.setTop (mkF m 16 #[.val (.ref a), .val (.ref x1)] [(.ref de), (.ref x1), (.ref a)]))
  refine own_go (fun tQ kQ => XS.aloadN X3.here hx rfl (hb hby da1_16) rfl rfl kQ) ?_
  show own_End p e below _ (T3.setTop (mkF m 17 #[.val (.ref a), .val (.ref x1)] [(.ref a), (.ref de), (.ref x1), (.ref a)]))
  obtain ⟨T4, X4, e4, st4⟩ := getF X3 hx hZ hown (host := "") (Or.inl (hw _ (List.mem_of_getElem? (i := 65) rfl))) Via.refl e3 F_size_a (g := (mkF m 17 #[.val (.ref a), .val (.ref x1)] [(.ref a), (.ref de), (.ref x1), (.ref a)])) rfl rfl (hb hby da1_17)
  refine own_go (fun tQ kQ => st4 tQ kQ) ?_
  show own_End p e below _ (T4.setTop (mkF m 20 #[.val (.ref a), .val (.ref x1)] [(.int (0 : Int32)), (.ref de), (.ref x1), (.ref a)]))
  obtain ⟨cq5, q5, q5'⟩ := E_a.cell
  obtain ⟨_, _, ⟨T5, L5, k5, n5⟩, -, X5, ⟨Lc5, hQ5, l5, y5, z5⟩, st5⟩ := X4.privateBack hx (y := (⟨"java/util/ArrayList", "add", "(Ljava/lang/Object;[Ljava/lang/Object;I)V"⟩ : MethodName)) hown (mvT hZ (hw _ (List.mem_of_getElem? (i := 67) rfl))) (mvT hZ (hw _ (List.mem_of_getElem? (i := 68) rfl))) (mvT hZ (hw _ (List.mem_of_getElem? (i := 70) rfl))) (Cond.privateMethod_at (mvP hZ (hw _ (List.mem_of_getElem? (i := 69) rfl)) (args := #[]))) (mvT hZ (hw _ (List.mem_of_getElem? (i := 71) rfl))) (by decide) (backOf (W := 0) (rmh1 l Z a0 hw [] a de fd (mc + (1 : Int32)) x1 h2 n0 Zs E_a F_modCount_a F_elementData_a F_size_a g_a Ol S_de V_de E_x1) hZ (hw _ (List.mem_of_getElem? (i := 71) rfl)) (hw _ (List.mem_of_getElem? (i := 21) rfl)) (by decide) (by decide)) (g := (mkF m 20 #[.val (.ref a), .val (.ref x1)] [(.int (0 : Int32)), (.ref de), (.ref x1), (.ref a)])) rfl (by rw [hml]; rfl) (Steps.refl _) (a := a) (by rw [e4]; exact q5) q5' (argsL := [(.ref x1), (.ref de), (.int (0 : Int32))]) (rest := []) (lenOf pd_11 rfl) rfl (by show 2 * 0 + _ ≤ _; exact Nat.le_of_eq rfl) (hb hby da1_20) (fun _ _ => ⟨rfl, e4, (Nat.le_of_ble_eq_true rfl), (Nat.le_of_ble_eq_true rfl)⟩)
  dsimp only [Pt.U, Pt.locs, Pt.cells, Pt.slots] at X5 l5 y5 z5 st5 hQ5
  subst l5 y5 z5
  obtain ⟨b, rfl, N5q, K5, hb5, F_modCount_a, F_elementData_a, F_size_a, V_b⟩ := hQ5
  have Nf := Fr.app Nf N5q
  have ne_a_b : a ≠ b := Nat.ne_of_lt (Nat.lt_of_lt_of_le E_a.lt hb5)
  have ne_x1_b : x1 ≠ b := Nat.ne_of_lt (Nat.lt_of_lt_of_le E_x1.lt hb5)
  have g_b : n0 ≤ b := Nat.le_trans Zs hb5
  have sz_b : h0.size ≤ b := Nat.le_trans szr hb5
  have E_a := E_a.keep K5
  have Ol := Ol.keep K5 (allS g_a all0)
  have E_x1 := E_x1.keep K5
  have Kp := Kp.trans K5 (allS (Or.inl (List.mem_of_getElem? (i := 0) rfl)) all0)
  have Zs := Nat.le_trans Zs K5.1
  have szr := Nat.le_trans szr K5.1
  refine own_go (fun tQ kQ => st5.trans kQ) ?_
  show own_End p e below _ (T5.setTop (mkF m 23 #[.val (.ref a), .val (.ref x1)] []))
  refine own_go (fun tQ kQ => XS.iconst X5.here hx rfl (hb hby da1_23) kQ) ?_
  show own_End p e below _ (T5.setTop (mkF m 24 #[.val (.ref a), .val (.ref x1)] [(.int (1 : Int32))]))
  obtain ⟨fs, hr, hrun, hended, hW, hsame⟩ := X5.leave (v := some (.int (1 : Int32))) (fun h => by rw [Bd.returns] at h; cases h)
  refine ⟨_, _, (retN X5 hx (t := .boolean) Bd.returns (by simp) (hb hby da1_24) hr), hrun, hended, _, _, rfl, ?_, ⟨_, rfl⟩, hW, hsame.mono (by decide) (by decide)⟩
  show Qa1 Z a de fd mc x1 h0 n0 _ T5.heap _
  exact ⟨b, rfl, Nf, Kp, sz_b, F_modCount_a, F_elementData_a, F_size_a, V_b⟩
theorem da2_0 : decode jdk_38_method_25_code 0 = .ok (.aload_n 0, 1) := by decide +kernel
theorem da2_1 : decode jdk_38_method_25_code 1 = .ok (.dup, 1) := by decide +kernel
theorem da2_2 : decode jdk_38_method_25_code 2 = .ok (.getfield 63, 3) := by decide +kernel
theorem da2_5 : decode jdk_38_method_25_code 5 = .ok (.iconst 1, 1) := by decide +kernel
theorem da2_6 : decode jdk_38_method_25_code 6 = .ok (.iadd, 1) := by decide +kernel
theorem da2_7 : decode jdk_38_method_25_code 7 = .ok (.putfield 63, 3) := by decide +kernel
theorem da2_10 : decode jdk_38_method_25_code 10 = .ok (.aload_n 0, 1) := by decide +kernel
theorem da2_11 : decode jdk_38_method_25_code 11 = .ok (.aload_n 1, 1) := by decide +kernel
theorem da2_12 : decode jdk_38_method_25_code 12 = .ok (.aload_n 0, 1) := by decide +kernel
theorem da2_13 : decode jdk_38_method_25_code 13 = .ok (.getfield 9, 3) := by decide +kernel
theorem da2_16 : decode jdk_38_method_25_code 16 = .ok (.aload_n 0, 1) := by decide +kernel
theorem da2_17 : decode jdk_38_method_25_code 17 = .ok (.getfield 48, 3) := by decide +kernel
theorem da2_20 : decode jdk_38_method_25_code 20 = .ok (.invokevirtual 131, 3) := by decide +kernel
theorem da2_23 : decode jdk_38_method_25_code 23 = .ok (.iconst 1, 1) := by decide +kernel
theorem da2_24 : decode jdk_38_method_25_code 24 = .ok (.ireturn, 1) := by decide +kernel
theorem ef_a2 (m : MethodId) (x0 : Addr) (x1 : Addr) : entryFrame m #[(.ref x0), (.ref x1)] 2 = mkF m 0 #[.val (.ref x0), .val (.ref x1)] [] := by first | (simp [entryFrame, mkF, argsToLocals, Value.category]; done) | rfl
def Qa2 (Z : State) (a : Addr) (b : Addr) (ff : Nat → Value) (mc : Int32) (k : Int32) (x1 : Addr) (h0 : Heap) (n0 : Nat) (v : Option Value) (h : Heap) (L : List Loc) : Prop := v = some (.int 1) ∧ Fr n0 L ∧ Keep h0 h [a, b] ∧ Fld Z h a "java/util/AbstractList" "modCount" "I" (.int (mc + (1 : Int32))) ∧ Fld Z h a "java/util/ArrayList" "elementData" "[Ljava/lang/Object;" (.ref b) ∧ Fld Z h a "java/util/ArrayList" "size" "I" (.int (k + (1 : Int32))) ∧ own_Rr Z h b "java/lang/Object" (10 : Int32) (fun j => if j = k.toNatClampNeg then .ref x1 else ff j)
def Pa2 (Z : State) (a : Addr) (b : Addr) (ff : Nat → Value) (mc : Int32) (k : Int32) (x1 : Addr) (h0 : Heap) (n0 : Nat) (s : State) (oQ : Outcome) (U : State) : Prop := ∃ v L, oQ = .returned v ∧ Qa2 Z a b ff mc k x1 h0 n0 v U.heap L ∧ FrameEnd s oQ U L ({ frames := 1, cells := 0, slots := 0, locals := 15 } : Room).cells ({ frames := 1, cells := 0, slots := 0, locals := 15 } : Room).slots
set_option maxRecDepth 65536 in
set_option maxHeartbeats 40000000 in
theorem rma2 (l : Launch) (Z : State) (a0 : Array Value) (hw : ∀ d ∈ tables_1, d.before a0 Z = true) (ws : List Jvm.Cond) (a : Addr) (b : Addr) (ff : Nat → Value) (mc : Int32) (k : Int32) (x1 : Addr) (h0 : Heap) (n0 : Nat) (Z0 : n0 ≤ h0.size) (E_a : Exa Z h0 a "java/util/ArrayList") (F_modCount_a : Fld Z h0 a "java/util/AbstractList" "modCount" "I" (.int mc)) (F_elementData_a : Fld Z h0 a "java/util/ArrayList" "elementData" "[Ljava/lang/Object;" (.ref b)) (F_size_a : Fld Z h0 a "java/util/ArrayList" "size" "I" (.int k)) (g_a : n0 ≤ a) (V_b : own_Rr Z h0 b "java/lang/Object" (10 : Int32) (ff)) (g_b : n0 ≤ b) (ne_a_b : a ≠ b) (hk0 : ¬ k < 0) (hk1 : k < 10) (E_x1 : Exa Z h0 x1 "com/example/resolvent/resolvent/resolution/Trial$Offer") :
    MetFree l (⟨"java/util/ArrayList", "add", "(Ljava/lang/Object;)Z"⟩ : MethodName) (head1 (Jvm.Cond.code (⟨"java/util/ArrayList", "add", "(Ljava/lang/Object;)Z"⟩ : MethodName) jdk_38_method_25_code 2 (some .boolean) :: ws) ({ frames := 1, cells := 0, slots := 0, locals := 15 } : Room)) (fun aQ U => aQ = #[(.ref a), (.ref x1)] ∧ Z.Warmed39 U.vm ∧ U.heap = h0) (fun _ _ _ _ _ => True) (fun _ U oQ U' => ∃ v L, oQ = .returned v ∧ Qa2 Z a b ff mc k x1 h0 n0 v U'.heap L ∧ FrameEnd U oQ U' L ({ frames := 1, cells := 0, slots := 0, locals := 15 } : Room).cells ({ frames := 1, cells := 0, slots := 0, locals := 15 } : Room).slots) := by
  refine MetFree.of_bodySF (plainFor_of_name pn_4) hisR ?_
  intro p e s m args below meth c s₁ Bd hml0 hP hK
  obtain ⟨rfl, hZ, hh⟩ := hP
  have hx := Bd.exec
  have hby := Bd.bytes
  have hml : c.maxLocals = 2 := hml0
  have hown : s.vm.findClass "java/util/ArrayList" = some m.cls := findClass_of_methodNamed Bd.named
  have hnm := (name_of_methodNamed Bd.named Bd.method).1
  have X0 : Stand p l e ({ frames := 1, cells := 0, slots := 0, locals := 15 } : Room) s m #[(.ref a), (.ref x1)] below meth c s₁ [] 0 0 := Stand.of_body Bd
  have e0 : s₁.heap = h0 := by rw [← hh, Bd.state]; rfl
  have Nf := Fr.nil n0
  have Zs : n0 ≤ h0.size := Z0
  have Kp : Keep h0 h0 [a, b] := Keep.refl _ _
  have szr : h0.size ≤ h0.size := Nat.le_refl _
  show own_End p e below (Pa2 Z a b ff mc k x1 h0 n0 s) (s₁.setTop (entryFrame m #[(.ref a), (.ref x1)] 2))
  rw [ef_a2]
  have ne_a_x1 : a ≠ x1 := ne_exa E_a E_x1 (by decide)
  refine own_go (fun tQ kQ => XS.aloadN X0.here hx rfl (hb hby da2_0) rfl rfl kQ) ?_
  show own_End p e below _ (s₁.setTop (mkF m 1 #[.val (.ref a), .val (.ref x1)] [(.ref a)]))
  refine own_go (fun tQ kQ => XS.dup X0.here hx rfl (hb hby da2_1) rfl rfl kQ) ?_
  show own_End p e below _ (s₁.setTop (mkF m 2 #[.val (.ref a), .val (.ref x1)] [(.ref a), (.ref a)]))
  obtain ⟨T1, X1, e1, st1⟩ := getF X0 hx hZ hown (host := "") (Or.inl (hw _ (List.mem_of_getElem? (i := 63) rfl))) (Via.of (hw _ (List.mem_of_getElem? (i := 64) rfl))) e0 F_modCount_a (g := (mkF m 2 #[.val (.ref a), .val (.ref x1)] [(.ref a), (.ref a)])) rfl rfl (hb hby da2_2)
  refine own_go (fun tQ kQ => st1 tQ kQ) ?_
  show own_End p e below _ (T1.setTop (mkF m 5 #[.val (.ref a), .val (.ref x1)] [(.int mc), (.ref a)]))
  refine own_go (fun tQ kQ => XS.iconst X1.here hx rfl (hb hby da2_5) kQ) ?_
  show own_End p e below _ (T1.setTop (mkF m 6 #[.val (.ref a), .val (.ref x1)] [(.int (1 : Int32)), (.int mc), (.ref a)]))
  refine own_go (fun tQ kQ => XS.iadd X1.here hx rfl (hb hby da2_6) rfl kQ) ?_
  show own_End p e below _ (T1.setTop (mkF m 7 #[.val (.ref a), .val (.ref x1)] [(.int (mc + (1 : Int32))), (.ref a)]))
  obtain ⟨T2, h2, X2, e2, W2, st2⟩ := putF X1 hx hZ hown (host := "") (Or.inl (hw _ (List.mem_of_getElem? (i := 63) rfl))) (Via.of (hw _ (List.mem_of_getElem? (i := 64) rfl))) e1 F_modCount_a E_a (Or.inl (hw _ (List.mem_of_getElem? (i := 39) rfl))) (hw _ (List.mem_of_getElem? (i := 20) rfl)) (ty := .int) (by decide) rfl rfl (g := (mkF m 7 #[.val (.ref a), .val (.ref x1)] [(.int (mc + (1 : Int32))), (.ref a)])) rfl rfl (hb hby da2_7)
  have F_modCount_a := F_modCount_a.same W2
  have E_a := E_a.wr W2
  have F_elementData_a := F_elementData_a.other W2 (Or.inr (slot_ne (Or.inl (hw _ (List.mem_of_getElem? (i := 42) rfl))) (Or.inl (hw _ (List.mem_of_getElem? (i := 39) rfl))) (by decide) (t := (.array (.object "java/lang/Object"))) (t' := .int) (by decide) (by decide)))
  have F_size_a := F_size_a.other W2 (Or.inr (slot_ne (Or.inl (hw _ (List.mem_of_getElem? (i := 66) rfl))) (Or.inl (hw _ (List.mem_of_getElem? (i := 39) rfl))) (by decide) (t := .int) (t' := .int) (by decide) (by decide)))
  have E_x1 := E_x1.wr W2
  have V_b := V_b.other W2 (Ne.symm ne_a_b)
  have Kp := Kp.wr W2 (Or.inl (List.mem_of_getElem? (i := 0) rfl))
  have Nf := Fr.snoc X2 Nf g_a
  have Zs := Nat.le_trans Zs (Keep.of_wr W2).1
  have szr := Nat.le_trans szr (Keep.of_wr W2).1
  refine own_go (fun tQ kQ => st2 tQ kQ) ?_
  show own_End p e below _ (T2.setTop (mkF m 10 #[.val (.ref a), .val (.ref x1)] []))
  refine own_go (fun tQ kQ => XS.aloadN X2.here hx rfl (hb hby da2_10) rfl rfl kQ) ?_
  show own_End p e below _ (T2.setTop (mkF m 11 #[.val (.ref a), .val (.ref x1)] [(.ref a)]))
  refine own_go (fun tQ kQ => XS.aloadN X2.here hx rfl (hb hby da2_11) rfl rfl kQ) ?_
  show own_End p e below _ (T2.setTop (mkF m 12 #[.val (.ref a), .val (.ref x1)] [(.ref x1), (.ref a)]))
  refine own_go (fun tQ kQ => XS.aloadN X2.here hx rfl (hb hby da2_12) rfl rfl kQ) ?_
  show own_End p e below _ (T2.setTop (mkF m 13 #[.val (.ref a), .val (.ref x1)] [(.ref a), (.ref x1), (.ref a)]))
  obtain ⟨T3, X3, e3, st3⟩ := getF X2 hx hZ hown (host := "") (Or.inl (hw _ (List.mem_of_getElem? (i := 41) rfl))) Via.refl e2 F_elementData_a (g := (mkF m 13 #[.val (.ref a), .val (.ref x1)] [(.ref a), (.ref x1), (.ref a)])) rfl rfl (hb hby da2_13)
  refine own_go (fun tQ kQ => st3 tQ kQ) ?_
  show own_End p e below _ (T3.setTop (mkF m 16 #[.val (.ref a), .val (.ref x1)] [(.ref b), (.ref x1), (.ref a)]))
  refine own_go (fun tQ kQ => XS.aloadN X3.here hx rfl (hb hby da2_16) rfl rfl kQ) ?_
  show own_End p e below _ (T3.setTop (mkF m 17 #[.val (.ref a), .val (.ref x1)] [(.ref a), (.ref b), (.ref x1), (.ref a)]))
  obtain ⟨T4, X4, e4, st4⟩ := getF X3 hx hZ hown (host := "") (Or.inl (hw _ (List.mem_of_getElem? (i := 65) rfl))) Via.refl e3 F_size_a (g := (mkF m 17 #[.val (.ref a), .val (.ref x1)] [(.ref a), (.ref b), (.ref x1), (.ref a)])) rfl rfl (hb hby da2_17)
  refine own_go (fun tQ kQ => st4 tQ kQ) ?_
  show own_End p e below _ (T4.setTop (mkF m 20 #[.val (.ref a), .val (.ref x1)] [(.int k), (.ref b), (.ref x1), (.ref a)]))
  obtain ⟨cq5, q5, q5'⟩ := E_a.cell
  obtain ⟨_, _, ⟨T5, L5, k5, n5⟩, -, X5, ⟨Lc5, hQ5, l5, y5, z5⟩, st5⟩ := X4.privateBack hx (y := (⟨"java/util/ArrayList", "add", "(Ljava/lang/Object;[Ljava/lang/Object;I)V"⟩ : MethodName)) hown (mvT hZ (hw _ (List.mem_of_getElem? (i := 67) rfl))) (mvT hZ (hw _ (List.mem_of_getElem? (i := 68) rfl))) (mvT hZ (hw _ (List.mem_of_getElem? (i := 70) rfl))) (Cond.privateMethod_at (mvP hZ (hw _ (List.mem_of_getElem? (i := 69) rfl)) (args := #[]))) (mvT hZ (hw _ (List.mem_of_getElem? (i := 71) rfl))) (by decide) (backOf (W := 0) (rmh2 l Z a0 hw [] a b ff (mc + (1 : Int32)) k x1 h2 n0 Zs E_a F_modCount_a F_elementData_a F_size_a g_a V_b g_b ne_a_b hk0 hk1 E_x1) hZ (hw _ (List.mem_of_getElem? (i := 71) rfl)) (hw _ (List.mem_of_getElem? (i := 21) rfl)) (by decide) (by decide)) (g := (mkF m 20 #[.val (.ref a), .val (.ref x1)] [(.int k), (.ref b), (.ref x1), (.ref a)])) rfl (by rw [hml]; rfl) (Steps.refl _) (a := a) (by rw [e4]; exact q5) q5' (argsL := [(.ref x1), (.ref b), (.int k)]) (rest := []) (lenOf pd_11 rfl) rfl (by show 2 * 0 + _ ≤ _; exact Nat.le_of_eq rfl) (hb hby da2_20) (fun _ _ => ⟨rfl, e4, (Nat.le_of_ble_eq_true rfl), (Nat.le_of_ble_eq_true rfl)⟩)
  dsimp only [Pt.U, Pt.locs, Pt.cells, Pt.slots] at X5 l5 y5 z5 st5 hQ5
  subst l5 y5 z5
  obtain ⟨rfl, N5q, K5, F_modCount_a, F_elementData_a, F_size_a, V_b⟩ := hQ5
  have Nf := Fr.app Nf N5q
  have E_a := E_a.keep K5
  have E_x1 := E_x1.keep K5
  have Kp := Kp.trans K5 (allS (Or.inl (List.mem_of_getElem? (i := 0) rfl)) (allS (Or.inl (List.mem_of_getElem? (i := 1) rfl)) all0))
  have Zs := Nat.le_trans Zs K5.1
  have szr := Nat.le_trans szr K5.1
  refine own_go (fun tQ kQ => st5.trans kQ) ?_
  show own_End p e below _ (T5.setTop (mkF m 23 #[.val (.ref a), .val (.ref x1)] []))
  refine own_go (fun tQ kQ => XS.iconst X5.here hx rfl (hb hby da2_23) kQ) ?_
  show own_End p e below _ (T5.setTop (mkF m 24 #[.val (.ref a), .val (.ref x1)] [(.int (1 : Int32))]))
  obtain ⟨fs, hr, hrun, hended, hW, hsame⟩ := X5.leave (v := some (.int (1 : Int32))) (fun h => by rw [Bd.returns] at h; cases h)
  refine ⟨_, _, (retN X5 hx (t := .boolean) Bd.returns (by simp) (hb hby da2_24) hr), hrun, hended, _, _, rfl, ?_, ⟨_, rfl⟩, hW, hsame.mono (by decide) (by decide)⟩
  show Qa2 Z a b ff mc k x1 h0 n0 _ T5.heap _
  exact ⟨rfl, Nf, Kp, F_modCount_a, F_elementData_a, F_size_a, V_b⟩
theorem dci_0 : decode jdk_41_method_11_code 0 = .ok (.iload_n 0, 1) := by decide +kernel
theorem dci_1 : decode jdk_41_method_11_code 1 = .ok (.ifCond .lt 8, 3) := by decide +kernel
theorem dci_4 : decode jdk_41_method_11_code 4 = .ok (.iload_n 0, 1) := by decide +kernel
theorem dci_5 : decode jdk_41_method_11_code 5 = .ok (.iload_n 1, 1) := by decide +kernel
theorem dci_6 : decode jdk_41_method_11_code 6 = .ok (.if_icmp .lt 10, 3) := by decide +kernel
theorem dci_16 : decode jdk_41_method_11_code 16 = .ok (.iload_n 0, 1) := by decide +kernel
theorem dci_17 : decode jdk_41_method_11_code 17 = .ok (.ireturn, 1) := by decide +kernel
theorem pn_12 : plainName "jdk/internal/util/Preconditions" = true := by first | (simp [plainName, overriddenIn]; done) | decide +kernel
theorem ef_ci (m : MethodId) (x0 : Int32) (x1 : Int32) : entryFrame m #[(.int x0), (.int x1), .null] 3 = mkF m 0 #[.val (.int x0), .val (.int x1), .val .null] [] := by first | (simp [entryFrame, mkF, argsToLocals, Value.category]; done) | rfl
def Qci (Z : State) (i1 : Int32) (i2 : Int32) (h0 : Heap) (n0 : Nat) (v : Option Value) (h : Heap) (L : List Loc) : Prop := v = some (.int i1) ∧ Fr n0 L ∧ h = h0
def Pci (Z : State) (i1 : Int32) (i2 : Int32) (h0 : Heap) (n0 : Nat) (s : State) (oQ : Outcome) (U : State) : Prop := ∃ v L, oQ = .returned v ∧ Qci Z i1 i2 h0 n0 v U.heap L ∧ FrameEnd s oQ U L ({ frames := 0, cells := 0, slots := 0, locals := 0 } : Room).cells ({ frames := 0, cells := 0, slots := 0, locals := 0 } : Room).slots
set_option maxRecDepth 65536 in
set_option maxHeartbeats 40000000 in
theorem rmci (l : Launch) (Z : State) (a0 : Array Value) (hw : ∀ d ∈ tables_1, d.before a0 Z = true) (ws : List Jvm.Cond) (i1 : Int32) (i2 : Int32) (h0 : Heap) (n0 : Nat) (Z0 : n0 ≤ h0.size) (hi0 : ¬ i1 < 0) (hi1 : i1 < i2) :
    MetFree l (⟨"jdk/internal/util/Preconditions", "checkIndex", "(IILjava/util/function/BiFunction;)I"⟩ : MethodName) (head1 (Jvm.Cond.code (⟨"jdk/internal/util/Preconditions", "checkIndex", "(IILjava/util/function/BiFunction;)I"⟩ : MethodName) jdk_41_method_11_code 3 (some .int) :: ws) ({ frames := 0, cells := 0, slots := 0, locals := 0 } : Room)) (fun aQ U => aQ = #[(.int i1), (.int i2), .null] ∧ Z.Warmed39 U.vm ∧ U.heap = h0) (fun _ _ _ _ _ => True) (fun _ U oQ U' => ∃ v L, oQ = .returned v ∧ Qci Z i1 i2 h0 n0 v U'.heap L ∧ FrameEnd U oQ U' L ({ frames := 0, cells := 0, slots := 0, locals := 0 } : Room).cells ({ frames := 0, cells := 0, slots := 0, locals := 0 } : Room).slots) := by
  refine MetFree.of_bodySF (plainFor_of_name pn_12) hisR ?_
  intro p e s m args below meth c s₁ Bd hml0 hP hK
  obtain ⟨rfl, hZ, hh⟩ := hP
  have hx := Bd.exec
  have hby := Bd.bytes
  have hml : c.maxLocals = 3 := hml0
  have hown : s.vm.findClass "jdk/internal/util/Preconditions" = some m.cls := findClass_of_methodNamed Bd.named
  have hnm := (name_of_methodNamed Bd.named Bd.method).1
  have X0 : Stand p l e ({ frames := 0, cells := 0, slots := 0, locals := 0 } : Room) s m #[(.int i1), (.int i2), .null] below meth c s₁ [] 0 0 := Stand.of_body Bd
  have e0 : s₁.heap = h0 := by rw [← hh, Bd.state]; rfl
  have Nf := Fr.nil n0
  have Zs : n0 ≤ h0.size := Z0
  have Kp : Keep h0 h0 [] := Keep.refl _ _
  have szr : h0.size ≤ h0.size := Nat.le_refl _
  show own_End p e below (Pci Z i1 i2 h0 n0 s) (s₁.setTop (entryFrame m #[(.int i1), (.int i2), .null] 3))
  rw [ef_ci]
  refine own_go (fun tQ kQ => XS.iloadN X0.here hx rfl (hb hby dci_0) rfl kQ) ?_
  show own_End p e below _ (s₁.setTop (mkF m 1 #[.val (.int i1), .val (.int i2), .val .null] [(.int i1)]))
  refine own_go (fun tQ kQ => XS.ifNo X0.here hx rfl (hb hby dci_1) rfl ((if0 _ _).trans (flt hi0).1) kQ) ?_
  show own_End p e below _ (s₁.setTop (mkF m 4 #[.val (.int i1), .val (.int i2), .val .null] []))
  refine own_go (fun tQ kQ => XS.iloadN X0.here hx rfl (hb hby dci_4) rfl kQ) ?_
  show own_End p e below _ (s₁.setTop (mkF m 5 #[.val (.int i1), .val (.int i2), .val .null] [(.int i1)]))
  refine own_go (fun tQ kQ => XS.iloadN X0.here hx rfl (hb hby dci_5) rfl kQ) ?_
  show own_End p e below _ (s₁.setTop (mkF m 6 #[.val (.int i1), .val (.int i2), .val .null] [(.int i2), (.int i1)]))
  refine own_go (fun tQ kQ => XS.icmpYes X0.here hx rfl (pc0 := 6) (pc' := 16) rfl (hb hby dci_6) rfl (tlt hi1).1 (by decide) (by decide) kQ) ?_
  show own_End p e below _ (s₁.setTop (mkF m 16 #[.val (.int i1), .val (.int i2), .val .null] []))
  refine own_go (fun tQ kQ => XS.iloadN X0.here hx rfl (hb hby dci_16) rfl kQ) ?_
  show own_End p e below _ (s₁.setTop (mkF m 17 #[.val (.int i1), .val (.int i2), .val .null] [(.int i1)]))
  obtain ⟨fs, hr, hrun, hended, hW, hsame⟩ := X0.leave (v := some (.int i1)) (fun h => by rw [Bd.returns] at h; cases h)
  refine ⟨_, _, (retI X0 hx Bd.returns (hb hby dci_17) hr), hrun, hended, _, _, rfl, ?_, ⟨_, rfl⟩, hW, hsame.mono (by decide) (by decide)⟩
  show Qci Z i1 i2 h0 n0 _ s₁.heap _
  rw [e0]
  exact ⟨rfl, Nf, rfl⟩
theorem pd_13 : parseMethodDescriptor "(IILjava/util/function/BiFunction;)I" = some ⟨[.int, .int, (.object "java/util/function/BiFunction")], some .int⟩ := by decide +kernel
theorem doci_0 : decode jdk_31_method_17_code 0 = .ok (.iload_n 0, 1) := by decide +kernel
theorem doci_1 : decode jdk_31_method_17_code 1 = .ok (.iload_n 1, 1) := by decide +kernel
theorem doci_2 : decode jdk_31_method_17_code 2 = .ok (.aconst_null, 1) := by decide +kernel
theorem doci_3 : decode jdk_31_method_17_code 3 = .ok (.invokestatic 105, 3) := by decide +kernel
theorem doci_6 : decode jdk_31_method_17_code 6 = .ok (.ireturn, 1) := by decide +kernel
theorem pn_14 : plainName "java/util/Objects" = true := by first | (simp [plainName, overriddenIn]; done) | decide +kernel
theorem ef_oci (m : MethodId) (x0 : Int32) (x1 : Int32) : entryFrame m #[(.int x0), (.int x1)] 2 = mkF m 0 #[.val (.int x0), .val (.int x1)] [] := by first | (simp [entryFrame, mkF, argsToLocals, Value.category]; done) | rfl
def Qoci (Z : State) (i1 : Int32) (i2 : Int32) (h0 : Heap) (n0 : Nat) (v : Option Value) (h : Heap) (L : List Loc) : Prop := v = some (.int i1) ∧ Fr n0 L ∧ h = h0
def Poci (Z : State) (i1 : Int32) (i2 : Int32) (h0 : Heap) (n0 : Nat) (s : State) (oQ : Outcome) (U : State) : Prop := ∃ v L, oQ = .returned v ∧ Qoci Z i1 i2 h0 n0 v U.heap L ∧ FrameEnd s oQ U L ({ frames := 1, cells := 0, slots := 0, locals := 14 } : Room).cells ({ frames := 1, cells := 0, slots := 0, locals := 14 } : Room).slots
set_option maxRecDepth 65536 in
set_option maxHeartbeats 40000000 in
theorem rmoci (l : Launch) (Z : State) (a0 : Array Value) (hw : ∀ d ∈ tables_1, d.before a0 Z = true) (ws : List Jvm.Cond) (i1 : Int32) (i2 : Int32) (h0 : Heap) (n0 : Nat) (Z0 : n0 ≤ h0.size) (hi0 : ¬ i1 < 0) (hi1 : i1 < i2) :
    MetFree l (⟨"java/util/Objects", "checkIndex", "(II)I"⟩ : MethodName) (head1 (Jvm.Cond.code (⟨"java/util/Objects", "checkIndex", "(II)I"⟩ : MethodName) jdk_31_method_17_code 2 (some .int) :: ws) ({ frames := 1, cells := 0, slots := 0, locals := 14 } : Room)) (fun aQ U => aQ = #[(.int i1), (.int i2)] ∧ Z.Warmed39 U.vm ∧ U.heap = h0) (fun _ _ _ _ _ => True) (fun _ U oQ U' => ∃ v L, oQ = .returned v ∧ Qoci Z i1 i2 h0 n0 v U'.heap L ∧ FrameEnd U oQ U' L ({ frames := 1, cells := 0, slots := 0, locals := 14 } : Room).cells ({ frames := 1, cells := 0, slots := 0, locals := 14 } : Room).slots) := by
  refine MetFree.of_bodySF (plainFor_of_name pn_14) hisR ?_
  intro p e s m args below meth c s₁ Bd hml0 hP hK
  obtain ⟨rfl, hZ, hh⟩ := hP
  have hx := Bd.exec
  have hby := Bd.bytes
  have hml : c.maxLocals = 2 := hml0
  have hown : s.vm.findClass "java/util/Objects" = some m.cls := findClass_of_methodNamed Bd.named
  have hnm := (name_of_methodNamed Bd.named Bd.method).1
  have X0 : Stand p l e ({ frames := 1, cells := 0, slots := 0, locals := 14 } : Room) s m #[(.int i1), (.int i2)] below meth c s₁ [] 0 0 := Stand.of_body Bd
  have e0 : s₁.heap = h0 := by rw [← hh, Bd.state]; rfl
  have Nf := Fr.nil n0
  have Zs : n0 ≤ h0.size := Z0
  have Kp : Keep h0 h0 [] := Keep.refl _ _
  have szr : h0.size ≤ h0.size := Nat.le_refl _
  show own_End p e below (Poci Z i1 i2 h0 n0 s) (s₁.setTop (entryFrame m #[(.int i1), (.int i2)] 2))
  rw [ef_oci]
  refine own_go (fun tQ kQ => XS.iloadN X0.here hx rfl (hb hby doci_0) rfl kQ) ?_
  show own_End p e below _ (s₁.setTop (mkF m 1 #[.val (.int i1), .val (.int i2)] [(.int i1)]))
  refine own_go (fun tQ kQ => XS.iloadN X0.here hx rfl (hb hby doci_1) rfl kQ) ?_
  show own_End p e below _ (s₁.setTop (mkF m 2 #[.val (.int i1), .val (.int i2)] [(.int i2), (.int i1)]))
  refine own_go (fun tQ kQ => XS.aconstNull X0.here hx rfl (hb hby doci_2) kQ) ?_
  show own_End p e below _ (s₁.setTop (mkF m 3 #[.val (.int i1), .val (.int i2)] [.null, (.int i2), (.int i1)]))
  obtain ⟨_, _, ⟨T1, L1, k1, n1⟩, -, X1, ⟨Lc1, hQ1, l1, y1, z1⟩, st1⟩ := Jvm.LawKit.callS X0 hx (y := (⟨"jdk/internal/util/Preconditions", "checkIndex", "(IILjava/util/function/BiFunction;)I"⟩ : MethodName)) hown (mvT hZ (hw _ (List.mem_of_getElem? (i := 115) rfl))) (mvT hZ (hw _ (List.mem_of_getElem? (i := 116) rfl))) (mvT hZ (hw _ (List.mem_of_getElem? (i := 117) rfl))) (mvT hZ (hw _ (List.mem_of_getElem? (i := 118) rfl))) (by decide) (backOf (W := 0) (rmci l Z a0 hw [] i1 i2 h0 n0 Zs hi0 hi1) hZ (hw _ (List.mem_of_getElem? (i := 118) rfl)) (hw _ (List.mem_of_getElem? (i := 117) rfl)) (by decide) (by decide)) (g := (mkF m 3 #[.val (.int i1), .val (.int i2)] [.null, (.int i2), (.int i1)])) rfl (by rw [hml]; rfl) (argsL := [(.int i1), (.int i2), .null]) (rest := []) (lenOf pd_13 rfl) rfl (by show 2 * 0 + _ ≤ _; exact Nat.le_of_eq rfl) (hb hby doci_3) (fun _ _ => ⟨rfl, e0, (Nat.le_of_ble_eq_true rfl), (Nat.le_of_ble_eq_true rfl)⟩)
  dsimp only [Pt.U, Pt.locs, Pt.cells, Pt.slots] at X1 l1 y1 z1 st1 hQ1
  subst l1 y1 z1
  obtain ⟨rfl, N1q, e1⟩ := hQ1
  have Nf := Fr.app Nf N1q
  refine own_go (fun tQ kQ => st1 tQ kQ) ?_
  show own_End p e below _ (T1.setTop (mkF m 6 #[.val (.int i1), .val (.int i2)] [(.int i1)]))
  obtain ⟨fs, hr, hrun, hended, hW, hsame⟩ := X1.leave (v := some (.int i1)) (fun h => by rw [Bd.returns] at h; cases h)
  refine ⟨_, _, (retI X1 hx Bd.returns (hb hby doci_6) hr), hrun, hended, _, _, rfl, ?_, ⟨_, rfl⟩, hW, hsame.mono (by decide) (by decide)⟩
  show Qoci Z i1 i2 h0 n0 _ T1.heap _
  rw [e1]
  exact ⟨rfl, Nf, rfl⟩
theorem ded_0 : decode jdk_38_method_18_code 0 = .ok (.aload_n 0, 1) := by decide +kernel
theorem ded_1 : decode jdk_38_method_18_code 1 = .ok (.getfield 9, 3) := by decide +kernel
theorem ded_4 : decode jdk_38_method_18_code 4 = .ok (.iload_n 1, 1) := by decide +kernel
theorem ded_5 : decode jdk_38_method_18_code 5 = .ok (.aaload, 1) := by decide +kernel
theorem ded_6 : decode jdk_38_method_18_code 6 = .ok (.areturn, 1) := by decide +kernel
theorem ef_ed (m : MethodId) (x0 : Addr) (x1 : Int32) : entryFrame m #[(.ref x0), (.int x1)] 2 = mkF m 0 #[.val (.ref x0), .val (.int x1)] [] := by first | (simp [entryFrame, mkF, argsToLocals, Value.category]; done) | rfl
def Qed (Z : State) (a : Addr) (b : Addr) (ff : Nat → Value) (mc : Int32) (k : Int32) (i1 : Int32) (y : Addr) (h0 : Heap) (n0 : Nat) (v : Option Value) (h : Heap) (L : List Loc) : Prop := v = some (.ref y) ∧ Fr n0 L ∧ h = h0
def Ped (Z : State) (a : Addr) (b : Addr) (ff : Nat → Value) (mc : Int32) (k : Int32) (i1 : Int32) (y : Addr) (h0 : Heap) (n0 : Nat) (s : State) (oQ : Outcome) (U : State) : Prop := ∃ v L, oQ = .returned v ∧ Qed Z a b ff mc k i1 y h0 n0 v U.heap L ∧ FrameEnd s oQ U L ({ frames := 0, cells := 0, slots := 0, locals := 0 } : Room).cells ({ frames := 0, cells := 0, slots := 0, locals := 0 } : Room).slots
set_option maxRecDepth 65536 in
set_option maxHeartbeats 40000000 in
theorem rmed (l : Launch) (Z : State) (a0 : Array Value) (hw : ∀ d ∈ tables_1, d.before a0 Z = true) (ws : List Jvm.Cond) (a : Addr) (b : Addr) (ff : Nat → Value) (mc : Int32) (k : Int32) (i1 : Int32) (y : Addr) (h0 : Heap) (n0 : Nat) (Z0 : n0 ≤ h0.size) (E_a : Exa Z h0 a "java/util/ArrayList") (F_modCount_a : Fld Z h0 a "java/util/AbstractList" "modCount" "I" (.int mc)) (F_elementData_a : Fld Z h0 a "java/util/ArrayList" "elementData" "[Ljava/lang/Object;" (.ref b)) (F_size_a : Fld Z h0 a "java/util/ArrayList" "size" "I" (.int k)) (V_b : own_Rr Z h0 b "java/lang/Object" (10 : Int32) (ff)) (hi0 : ¬ i1 < 0) (hik : i1 < k) (hi1 : i1 < 10) (hy : ff i1.toNatClampNeg = .ref y) :
    MetFree l (⟨"java/util/ArrayList", "elementData", "(I)Ljava/lang/Object;"⟩ : MethodName) (head1 (Jvm.Cond.code (⟨"java/util/ArrayList", "elementData", "(I)Ljava/lang/Object;"⟩ : MethodName) jdk_38_method_18_code 2 (some (.object "java/lang/Object")) :: ws) ({ frames := 0, cells := 0, slots := 0, locals := 0 } : Room)) (fun aQ U => aQ = #[(.ref a), (.int i1)] ∧ Z.Warmed39 U.vm ∧ U.heap = h0) (fun _ _ _ _ _ => True) (fun _ U oQ U' => ∃ v L, oQ = .returned v ∧ Qed Z a b ff mc k i1 y h0 n0 v U'.heap L ∧ FrameEnd U oQ U' L ({ frames := 0, cells := 0, slots := 0, locals := 0 } : Room).cells ({ frames := 0, cells := 0, slots := 0, locals := 0 } : Room).slots) := by
  refine MetFree.of_bodySF (plainFor_of_name pn_4) hisR ?_
  intro p e s m args below meth c s₁ Bd hml0 hP hK
  obtain ⟨rfl, hZ, hh⟩ := hP
  have hx := Bd.exec
  have hby := Bd.bytes
  have hml : c.maxLocals = 2 := hml0
  have hown : s.vm.findClass "java/util/ArrayList" = some m.cls := findClass_of_methodNamed Bd.named
  have hnm := (name_of_methodNamed Bd.named Bd.method).1
  have X0 : Stand p l e ({ frames := 0, cells := 0, slots := 0, locals := 0 } : Room) s m #[(.ref a), (.int i1)] below meth c s₁ [] 0 0 := Stand.of_body Bd
  have e0 : s₁.heap = h0 := by rw [← hh, Bd.state]; rfl
  have Nf := Fr.nil n0
  have Zs : n0 ≤ h0.size := Z0
  have Kp : Keep h0 h0 [] := Keep.refl _ _
  have szr : h0.size ≤ h0.size := Nat.le_refl _
  show own_End p e below (Ped Z a b ff mc k i1 y h0 n0 s) (s₁.setTop (entryFrame m #[(.ref a), (.int i1)] 2))
  rw [ef_ed]
  refine own_go (fun tQ kQ => XS.aloadN X0.here hx rfl (hb hby ded_0) rfl rfl kQ) ?_
  show own_End p e below _ (s₁.setTop (mkF m 1 #[.val (.ref a), .val (.int i1)] [(.ref a)]))
  obtain ⟨T1, X1, e1, st1⟩ := getF X0 hx hZ hown (host := "") (Or.inl (hw _ (List.mem_of_getElem? (i := 41) rfl))) Via.refl e0 F_elementData_a (g := (mkF m 1 #[.val (.ref a), .val (.int i1)] [(.ref a)])) rfl rfl (hb hby ded_1)
  refine own_go (fun tQ kQ => st1 tQ kQ) ?_
  show own_End p e below _ (T1.setTop (mkF m 4 #[.val (.ref a), .val (.int i1)] [(.ref b)]))
  refine own_go (fun tQ kQ => XS.iloadN X1.here hx rfl (hb hby ded_4) rfl kQ) ?_
  show own_End p e below _ (T1.setTop (mkF m 5 #[.val (.ref a), .val (.int i1)] [(.int i1), (.ref b)]))
  obtain ⟨cl2, Ar2, S2, M2, H2, -⟩ := id V_b
  have hin2 := inb_of (j := i1) S2 ⟨hi0, hi1⟩
  refine own_go (fun tQ kQ => X1.aaload hx (j := i1) (v := (.ref y)) (by rw [e1]; exact Ar2.1) (State.isArrayOf_alike hZ.alike Ar2.2.1) rfl Ar2.2.2 hin2 ((H2 _ (own_in S2 hin2)).trans (congrArg some hy)) (g := (mkF m 5 #[.val (.ref a), .val (.int i1)] [(.int i1), (.ref b)])) rfl rfl (hb hby ded_5) _ kQ) ?_
  show own_End p e below _ (T1.setTop (mkF m 6 #[.val (.ref a), .val (.int i1)] [(.ref y)]))
  obtain ⟨fs, hr, hrun, hended, hW, hsame⟩ := X1.leave (v := some (.ref y)) (fun h => by rw [Bd.returns] at h; cases h)
  refine ⟨_, _, ?_, hrun, hended, _, _, rfl, ?_, ⟨_, rfl⟩, hW, hsame.mono (by decide) (by decide)⟩
  · exact (by
      jvm_step X1.here [X1.here.top, hx, (hb hby ded_6), X1.method', Bd.returns, Value.isRef, FieldType.isReference, narrow]
      first | (intro acts; rw [hr _ acts rfl rfl rfl]) | rw [hr _ _ rfl rfl rfl]
      exact Steps.refl _)
  · show Qed Z a b ff mc k i1 y h0 n0 _ T1.heap _
    rw [e1]
    exact ⟨rfl, Nf, rfl⟩
theorem pd_15 : parseMethodDescriptor "(I)Ljava/lang/Object;" = some ⟨[.int], some (.object "java/lang/Object")⟩ := by decide +kernel
theorem dgt_0 : decode jdk_38_method_20_code 0 = .ok (.iload_n 1, 1) := by decide +kernel
theorem dgt_1 : decode jdk_38_method_20_code 1 = .ok (.aload_n 0, 1) := by decide +kernel
theorem dgt_2 : decode jdk_38_method_20_code 2 = .ok (.getfield 48, 3) := by decide +kernel
theorem dgt_5 : decode jdk_38_method_20_code 5 = .ok (.invokestatic 118, 3) := by decide +kernel
theorem dgt_8 : decode jdk_38_method_20_code 8 = .ok (.pop, 1) := by decide +kernel
theorem dgt_9 : decode jdk_38_method_20_code 9 = .ok (.aload_n 0, 1) := by decide +kernel
theorem dgt_10 : decode jdk_38_method_20_code 10 = .ok (.iload_n 1, 1) := by decide +kernel
theorem dgt_11 : decode jdk_38_method_20_code 11 = .ok (.invokevirtual 123, 3) := by decide +kernel
theorem dgt_14 : decode jdk_38_method_20_code 14 = .ok (.areturn, 1) := by decide +kernel
theorem ef_gt (m : MethodId) (x0 : Addr) (x1 : Int32) : entryFrame m #[(.ref x0), (.int x1)] 2 = mkF m 0 #[.val (.ref x0), .val (.int x1)] [] := by first | (simp [entryFrame, mkF, argsToLocals, Value.category]; done) | rfl
def Qgt (Z : State) (a : Addr) (b : Addr) (ff : Nat → Value) (mc : Int32) (k : Int32) (i1 : Int32) (y : Addr) (h0 : Heap) (n0 : Nat) (v : Option Value) (h : Heap) (L : List Loc) : Prop := v = some (.ref y) ∧ Fr n0 L ∧ h = h0
def Pgt (Z : State) (a : Addr) (b : Addr) (ff : Nat → Value) (mc : Int32) (k : Int32) (i1 : Int32) (y : Addr) (h0 : Heap) (n0 : Nat) (s : State) (oQ : Outcome) (U : State) : Prop := ∃ v L, oQ = .returned v ∧ Qgt Z a b ff mc k i1 y h0 n0 v U.heap L ∧ FrameEnd s oQ U L ({ frames := 2, cells := 0, slots := 0, locals := 27 } : Room).cells ({ frames := 2, cells := 0, slots := 0, locals := 27 } : Room).slots
set_option maxRecDepth 65536 in
set_option maxHeartbeats 40000000 in
theorem rmgt (l : Launch) (Z : State) (a0 : Array Value) (hw : ∀ d ∈ tables_1, d.before a0 Z = true) (ws : List Jvm.Cond) (a : Addr) (b : Addr) (ff : Nat → Value) (mc : Int32) (k : Int32) (i1 : Int32) (y : Addr) (h0 : Heap) (n0 : Nat) (Z0 : n0 ≤ h0.size) (E_a : Exa Z h0 a "java/util/ArrayList") (F_modCount_a : Fld Z h0 a "java/util/AbstractList" "modCount" "I" (.int mc)) (F_elementData_a : Fld Z h0 a "java/util/ArrayList" "elementData" "[Ljava/lang/Object;" (.ref b)) (F_size_a : Fld Z h0 a "java/util/ArrayList" "size" "I" (.int k)) (V_b : own_Rr Z h0 b "java/lang/Object" (10 : Int32) (ff)) (hi0 : ¬ i1 < 0) (hik : i1 < k) (hi1 : i1 < 10) (hy : ff i1.toNatClampNeg = .ref y) :
    MetFree l (⟨"java/util/ArrayList", "get", "(I)Ljava/lang/Object;"⟩ : MethodName) (head1 (Jvm.Cond.code (⟨"java/util/ArrayList", "get", "(I)Ljava/lang/Object;"⟩ : MethodName) jdk_38_method_20_code 2 (some (.object "java/lang/Object")) :: ws) ({ frames := 2, cells := 0, slots := 0, locals := 27 } : Room)) (fun aQ U => aQ = #[(.ref a), (.int i1)] ∧ Z.Warmed39 U.vm ∧ U.heap = h0) (fun _ _ _ _ _ => True) (fun _ U oQ U' => ∃ v L, oQ = .returned v ∧ Qgt Z a b ff mc k i1 y h0 n0 v U'.heap L ∧ FrameEnd U oQ U' L ({ frames := 2, cells := 0, slots := 0, locals := 27 } : Room).cells ({ frames := 2, cells := 0, slots := 0, locals := 27 } : Room).slots) := by
  refine MetFree.of_bodySF (plainFor_of_name pn_4) hisR ?_
  intro p e s m args below meth c s₁ Bd hml0 hP hK
  obtain ⟨rfl, hZ, hh⟩ := hP
  have hx := Bd.exec
  have hby := Bd.bytes
  have hml : c.maxLocals = 2 := hml0
  have hown : s.vm.findClass "java/util/ArrayList" = some m.cls := findClass_of_methodNamed Bd.named
  have hnm := (name_of_methodNamed Bd.named Bd.method).1
  have X0 : Stand p l e ({ frames := 2, cells := 0, slots := 0, locals := 27 } : Room) s m #[(.ref a), (.int i1)] below meth c s₁ [] 0 0 := Stand.of_body Bd
  have e0 : s₁.heap = h0 := by rw [← hh, Bd.state]; rfl
  have Nf := Fr.nil n0
  have Zs : n0 ≤ h0.size := Z0
  have Kp : Keep h0 h0 [] := Keep.refl _ _
  have szr : h0.size ≤ h0.size := Nat.le_refl _
  show own_End p e below (Pgt Z a b ff mc k i1 y h0 n0 s) (s₁.setTop (entryFrame m #[(.ref a), (.int i1)] 2))
  rw [ef_gt]
  refine own_go (fun tQ kQ => XS.iloadN X0.here hx rfl (hb hby dgt_0) rfl kQ) ?_
  show own_End p e below _ (s₁.setTop (mkF m 1 #[.val (.ref a), .val (.int i1)] [(.int i1)]))
  refine own_go (fun tQ kQ => XS.aloadN X0.here hx rfl (hb hby dgt_1) rfl rfl kQ) ?_
  show own_End p e below _ (s₁.setTop (mkF m 2 #[.val (.ref a), .val (.int i1)] [(.ref a), (.int i1)]))
  obtain ⟨T1, X1, e1, st1⟩ := getF X0 hx hZ hown (host := "") (Or.inl (hw _ (List.mem_of_getElem? (i := 65) rfl))) Via.refl e0 F_size_a (g := (mkF m 2 #[.val (.ref a), .val (.int i1)] [(.ref a), (.int i1)])) rfl rfl (hb hby dgt_2)
  refine own_go (fun tQ kQ => st1 tQ kQ) ?_
  show own_End p e below _ (T1.setTop (mkF m 5 #[.val (.ref a), .val (.int i1)] [(.int k), (.int i1)]))
  obtain ⟨_, _, ⟨T2, L2, k2, n2⟩, -, X2, ⟨Lc2, hQ2, l2, y2, z2⟩, st2⟩ := Jvm.LawKit.callS X1 hx (y := (⟨"java/util/Objects", "checkIndex", "(II)I"⟩ : MethodName)) hown (mvT hZ (hw _ (List.mem_of_getElem? (i := 111) rfl))) (mvT hZ (hw _ (List.mem_of_getElem? (i := 112) rfl))) (mvT hZ (hw _ (List.mem_of_getElem? (i := 113) rfl))) (mvT hZ (hw _ (List.mem_of_getElem? (i := 114) rfl))) (by decide) (backOf (W := 0) (rmoci l Z a0 hw [] i1 k h0 n0 Zs hi0 hik) hZ (hw _ (List.mem_of_getElem? (i := 114) rfl)) (hw _ (List.mem_of_getElem? (i := 113) rfl)) (by decide) (by decide)) (g := (mkF m 5 #[.val (.ref a), .val (.int i1)] [(.int k), (.int i1)])) rfl (by rw [hml]; rfl) (argsL := [(.int i1), (.int k)]) (rest := []) (lenOf pd_8 rfl) rfl (by show 2 * 0 + _ ≤ _; exact Nat.le_of_eq rfl) (hb hby dgt_5) (fun _ _ => ⟨rfl, e1, (Nat.le_of_ble_eq_true rfl), (Nat.le_of_ble_eq_true rfl)⟩)
  dsimp only [Pt.U, Pt.locs, Pt.cells, Pt.slots] at X2 l2 y2 z2 st2 hQ2
  subst l2 y2 z2
  obtain ⟨rfl, N2q, e2⟩ := hQ2
  have Nf := Fr.app Nf N2q
  refine own_go (fun tQ kQ => st2 tQ kQ) ?_
  show own_End p e below _ (T2.setTop (mkF m 8 #[.val (.ref a), .val (.int i1)] [(.int i1)]))
  refine own_go (fun tQ kQ => XS.pop X2.here hx rfl (hb hby dgt_8) rfl rfl kQ) ?_
  show own_End p e below _ (T2.setTop (mkF m 9 #[.val (.ref a), .val (.int i1)] []))
  refine own_go (fun tQ kQ => XS.aloadN X2.here hx rfl (hb hby dgt_9) rfl rfl kQ) ?_
  show own_End p e below _ (T2.setTop (mkF m 10 #[.val (.ref a), .val (.int i1)] [(.ref a)]))
  refine own_go (fun tQ kQ => XS.iloadN X2.here hx rfl (hb hby dgt_10) rfl kQ) ?_
  show own_End p e below _ (T2.setTop (mkF m 11 #[.val (.ref a), .val (.int i1)] [(.int i1), (.ref a)]))
  obtain ⟨cq3, kq3, q3a, q3b, q3c⟩ := isOf hZ e2 E_a
  obtain ⟨_, _, ⟨T3, L3, k3, n3⟩, -, X3, ⟨Lc3, hQ3, l3, y3, z3⟩, st3⟩ := X2.virtualBack hx (y := (⟨"java/util/ArrayList", "elementData", "(I)Ljava/lang/Object;"⟩ : MethodName)) (z := (⟨"java/util/ArrayList", "elementData", "(I)Ljava/lang/Object;"⟩ : MethodName)) hown (mvT hZ (hw _ (List.mem_of_getElem? (i := 119) rfl))) (mvT hZ (hw _ (List.mem_of_getElem? (i := 120) rfl))) (notFace_of_selects (args := #[]) (mvT hZ (hw _ (List.mem_of_getElem? (i := 122) rfl)))) (mvT hZ (hw _ (List.mem_of_getElem? (i := 122) rfl))) (mvT hZ (hw _ (List.mem_of_getElem? (i := 121) rfl))) (by decide) (backOf (W := 0) (rmed l Z a0 hw [] a b ff mc k i1 y h0 n0 Zs E_a F_modCount_a F_elementData_a F_size_a V_b hi0 hik hi1 hy) hZ (hw _ (List.mem_of_getElem? (i := 123) rfl)) (hw _ (List.mem_of_getElem? (i := 21) rfl)) (by decide) (by decide)) q3a q3c (g := (mkF m 11 #[.val (.ref a), .val (.int i1)] [(.int i1), (.ref a)])) rfl (by rw [hml]; rfl) (Steps.refl _) (argsL := [(.int i1)]) (rest := []) (lenOf pd_15 rfl) rfl (by show 2 * 0 + _ ≤ _; exact Nat.le_of_eq rfl) (hb hby dgt_11) (fun _ _ => ⟨rfl, e2, (Nat.le_of_ble_eq_true rfl), (Nat.le_of_ble_eq_true rfl)⟩)
  dsimp only [Pt.U, Pt.locs, Pt.cells, Pt.slots] at X3 l3 y3 z3 st3 hQ3
  subst l3 y3 z3
  obtain ⟨rfl, N3q, e3⟩ := hQ3
  have Nf := Fr.app Nf N3q
  refine own_go (fun tQ kQ => st3.trans kQ) ?_
  show own_End p e below _ (T3.setTop (mkF m 14 #[.val (.ref a), .val (.int i1)] [(.ref y)]))
  obtain ⟨fs, hr, hrun, hended, hW, hsame⟩ := X3.leave (v := some (.ref y)) (fun h => by rw [Bd.returns] at h; cases h)
  refine ⟨_, _, ?_, hrun, hended, _, _, rfl, ?_, ⟨_, rfl⟩, hW, hsame.mono (by decide) (by decide)⟩
  · exact (by
      jvm_step X3.here [X3.here.top, hx, (hb hby dgt_14), X3.method', Bd.returns, Value.isRef, FieldType.isReference, narrow]
      first | (intro acts; rw [hr _ acts rfl rfl rfl]) | rw [hr _ _ rfl rfl rfl]
      exact Steps.refl _)
  · show Qgt Z a b ff mc k i1 y h0 n0 _ T3.heap _
    rw [e3]
    exact ⟨rfl, Nf, rfl⟩
theorem dsz_0 : decode jdk_38_method_8_code 0 = .ok (.aload_n 0, 1) := by decide +kernel
theorem dsz_1 : decode jdk_38_method_8_code 1 = .ok (.getfield 48, 3) := by decide +kernel
theorem dsz_4 : decode jdk_38_method_8_code 4 = .ok (.ireturn, 1) := by decide +kernel
theorem ef_sz (m : MethodId) (x0 : Addr) : entryFrame m #[(.ref x0)] 1 = mkF m 0 #[.val (.ref x0)] [] := by first | (simp [entryFrame, mkF, argsToLocals, Value.category]; done) | rfl
def Qsz (Z : State) (a : Addr) (k : Int32) (h0 : Heap) (n0 : Nat) (v : Option Value) (h : Heap) (L : List Loc) : Prop := v = some (.int k) ∧ Fr n0 L ∧ h = h0
def Psz (Z : State) (a : Addr) (k : Int32) (h0 : Heap) (n0 : Nat) (s : State) (oQ : Outcome) (U : State) : Prop := ∃ v L, oQ = .returned v ∧ Qsz Z a k h0 n0 v U.heap L ∧ FrameEnd s oQ U L ({ frames := 0, cells := 0, slots := 0, locals := 0 } : Room).cells ({ frames := 0, cells := 0, slots := 0, locals := 0 } : Room).slots
set_option maxRecDepth 65536 in
set_option maxHeartbeats 40000000 in
theorem rmsz (l : Launch) (Z : State) (a0 : Array Value) (hw : ∀ d ∈ tables_1, d.before a0 Z = true) (ws : List Jvm.Cond) (a : Addr) (k : Int32) (h0 : Heap) (n0 : Nat) (Z0 : n0 ≤ h0.size) (F_size_a : Fld Z h0 a "java/util/ArrayList" "size" "I" (.int k)) :
    MetFree l (⟨"java/util/ArrayList", "size", "()I"⟩ : MethodName) (head1 (Jvm.Cond.code (⟨"java/util/ArrayList", "size", "()I"⟩ : MethodName) jdk_38_method_8_code 1 (some .int) :: ws) ({ frames := 0, cells := 0, slots := 0, locals := 0 } : Room)) (fun aQ U => aQ = #[(.ref a)] ∧ Z.Warmed39 U.vm ∧ U.heap = h0) (fun _ _ _ _ _ => True) (fun _ U oQ U' => ∃ v L, oQ = .returned v ∧ Qsz Z a k h0 n0 v U'.heap L ∧ FrameEnd U oQ U' L ({ frames := 0, cells := 0, slots := 0, locals := 0 } : Room).cells ({ frames := 0, cells := 0, slots := 0, locals := 0 } : Room).slots) := by
  refine MetFree.of_bodySF (plainFor_of_name pn_4) hisR ?_
  intro p e s m args below meth c s₁ Bd hml0 hP hK
  obtain ⟨rfl, hZ, hh⟩ := hP
  have hx := Bd.exec
  have hby := Bd.bytes
  have hml : c.maxLocals = 1 := hml0
  have hown : s.vm.findClass "java/util/ArrayList" = some m.cls := findClass_of_methodNamed Bd.named
  have hnm := (name_of_methodNamed Bd.named Bd.method).1
  have X0 : Stand p l e ({ frames := 0, cells := 0, slots := 0, locals := 0 } : Room) s m #[(.ref a)] below meth c s₁ [] 0 0 := Stand.of_body Bd
  have e0 : s₁.heap = h0 := by rw [← hh, Bd.state]; rfl
  have Nf := Fr.nil n0
  have Zs : n0 ≤ h0.size := Z0
  have Kp : Keep h0 h0 [] := Keep.refl _ _
  have szr : h0.size ≤ h0.size := Nat.le_refl _
  show own_End p e below (Psz Z a k h0 n0 s) (s₁.setTop (entryFrame m #[(.ref a)] 1))
  rw [ef_sz]
  refine own_go (fun tQ kQ => XS.aloadN X0.here hx rfl (hb hby dsz_0) rfl rfl kQ) ?_
  show own_End p e below _ (s₁.setTop (mkF m 1 #[.val (.ref a)] [(.ref a)]))
  obtain ⟨T1, X1, e1, st1⟩ := getF X0 hx hZ hown (host := "") (Or.inl (hw _ (List.mem_of_getElem? (i := 65) rfl))) Via.refl e0 F_size_a (g := (mkF m 1 #[.val (.ref a)] [(.ref a)])) rfl rfl (hb hby dsz_1)
  refine own_go (fun tQ kQ => st1 tQ kQ) ?_
  show own_End p e below _ (T1.setTop (mkF m 4 #[.val (.ref a)] [(.int k)]))
  obtain ⟨fs, hr, hrun, hended, hW, hsame⟩ := X1.leave (v := some (.int k)) (fun h => by rw [Bd.returns] at h; cases h)
  refine ⟨_, _, (retI X1 hx Bd.returns (hb hby dsz_4) hr), hrun, hended, _, _, rfl, ?_, ⟨_, rfl⟩, hW, hsame.mono (by decide) (by decide)⟩
  show Qsz Z a k h0 n0 _ T1.heap _
  rw [e1]
  exact ⟨rfl, Nf, rfl⟩
theorem dac_0 : decode prog_34_method_6_code 0 = .ok (.aload_n 0, 1) := by decide +kernel
theorem dac_1 : decode prog_34_method_6_code 1 = .ok (.getfield 13, 3) := by decide +kernel
theorem dac_4 : decode prog_34_method_6_code 4 = .ok (.areturn, 1) := by decide +kernel
theorem ef_ac (m : MethodId) (x0 : Addr) : entryFrame m #[(.ref x0)] 1 = mkF m 0 #[.val (.ref x0)] [] := by first | (simp [entryFrame, mkF, argsToLocals, Value.category]; done) | rfl
def Qac (Z : State) (o : Addr) (y : Addr) (h0 : Heap) (n0 : Nat) (v : Option Value) (h : Heap) (L : List Loc) : Prop := v = some (.ref y) ∧ Fr n0 L ∧ h = h0
def Pac (Z : State) (o : Addr) (y : Addr) (h0 : Heap) (n0 : Nat) (s : State) (oQ : Outcome) (U : State) : Prop := ∃ v L, oQ = .returned v ∧ Qac Z o y h0 n0 v U.heap L ∧ FrameEnd s oQ U L ({ frames := 0, cells := 0, slots := 0, locals := 0 } : Room).cells ({ frames := 0, cells := 0, slots := 0, locals := 0 } : Room).slots
set_option maxRecDepth 65536 in
set_option maxHeartbeats 40000000 in
theorem rmac (l : Launch) (Z : State) (a0 : Array Value) (hw : ∀ d ∈ tables_1, d.before a0 Z = true) (ws : List Jvm.Cond) (o : Addr) (y : Addr) (h0 : Heap) (n0 : Nat) (Z0 : n0 ≤ h0.size) (F_action_o : Fld Z h0 o "com/example/resolvent/resolvent/resolution/Trial$Offer" "action" "Lcom/example/resolvent/resolvent/resolution/CompiledAction;" (.ref y)) :
    MetFree l (⟨"com/example/resolvent/resolvent/resolution/Trial$Offer", "action", "()Lcom/example/resolvent/resolvent/resolution/CompiledAction;"⟩ : MethodName) (head1 (Jvm.Cond.code (⟨"com/example/resolvent/resolvent/resolution/Trial$Offer", "action", "()Lcom/example/resolvent/resolvent/resolution/CompiledAction;"⟩ : MethodName) prog_34_method_6_code 1 (some (.object "com/example/resolvent/resolvent/resolution/CompiledAction")) :: ws) ({ frames := 0, cells := 0, slots := 0, locals := 0 } : Room)) (fun aQ U => aQ = #[(.ref o)] ∧ Z.Warmed39 U.vm ∧ U.heap = h0) (fun _ _ _ _ _ => True) (fun _ U oQ U' => ∃ v L, oQ = .returned v ∧ Qac Z o y h0 n0 v U'.heap L ∧ FrameEnd U oQ U' L ({ frames := 0, cells := 0, slots := 0, locals := 0 } : Room).cells ({ frames := 0, cells := 0, slots := 0, locals := 0 } : Room).slots) := by
  refine MetFree.of_bodySF (plainFor_of_name pn_6) hisR ?_
  intro p e s m args below meth c s₁ Bd hml0 hP hK
  obtain ⟨rfl, hZ, hh⟩ := hP
  have hx := Bd.exec
  have hby := Bd.bytes
  have hml : c.maxLocals = 1 := hml0
  have hown : s.vm.findClass "com/example/resolvent/resolvent/resolution/Trial$Offer" = some m.cls := findClass_of_methodNamed Bd.named
  have hnm := (name_of_methodNamed Bd.named Bd.method).1
  have X0 : Stand p l e ({ frames := 0, cells := 0, slots := 0, locals := 0 } : Room) s m #[(.ref o)] below meth c s₁ [] 0 0 := Stand.of_body Bd
  have e0 : s₁.heap = h0 := by rw [← hh, Bd.state]; rfl
  have Nf := Fr.nil n0
  have Zs : n0 ≤ h0.size := Z0
  have Kp : Keep h0 h0 [] := Keep.refl _ _
  have szr : h0.size ≤ h0.size := Nat.le_refl _
  show own_End p e below (Pac Z o y h0 n0 s) (s₁.setTop (entryFrame m #[(.ref o)] 1))
  rw [ef_ac]
  refine own_go (fun tQ kQ => XS.aloadN X0.here hx rfl (hb hby dac_0) rfl rfl kQ) ?_
  show own_End p e below _ (s₁.setTop (mkF m 1 #[.val (.ref o)] [(.ref o)]))
  obtain ⟨T1, X1, e1, st1⟩ := getF X0 hx hZ hown (host := "") (Or.inl (hw _ (List.mem_of_getElem? (i := 52) rfl))) Via.refl e0 F_action_o (g := (mkF m 1 #[.val (.ref o)] [(.ref o)])) rfl rfl (hb hby dac_1)
  refine own_go (fun tQ kQ => st1 tQ kQ) ?_
  show own_End p e below _ (T1.setTop (mkF m 4 #[.val (.ref o)] [(.ref y)]))
  obtain ⟨fs, hr, hrun, hended, hW, hsame⟩ := X1.leave (v := some (.ref y)) (fun h => by rw [Bd.returns] at h; cases h)
  refine ⟨_, _, ?_, hrun, hended, _, _, rfl, ?_, ⟨_, rfl⟩, hW, hsame.mono (by decide) (by decide)⟩
  · exact (by
      jvm_step X1.here [X1.here.top, hx, (hb hby dac_4), X1.method', Bd.returns, Value.isRef, FieldType.isReference, narrow]
      first | (intro acts; rw [hr _ acts rfl rfl rfl]) | rw [hr _ _ rfl rfl rfl]
      exact Steps.refl _)
  · show Qac Z o y h0 n0 _ T1.heap _
    rw [e1]
    exact ⟨rfl, Nf, rfl⟩
theorem dst_0 : decode prog_7_method_7_code 0 = .ok (.aload_n 0, 1) := by decide +kernel
theorem dst_1 : decode prog_7_method_7_code 1 = .ok (.getfield 7, 3) := by decide +kernel
theorem dst_4 : decode prog_7_method_7_code 4 = .ok (.ireturn, 1) := by decide +kernel
theorem ef_st (m : MethodId) (x0 : Addr) : entryFrame m #[(.ref x0)] 1 = mkF m 0 #[.val (.ref x0)] [] := by first | (simp [entryFrame, mkF, argsToLocals, Value.category]; done) | rfl
def Qst (Z : State) (o : Addr) (k : Int32) (h0 : Heap) (n0 : Nat) (v : Option Value) (h : Heap) (L : List Loc) : Prop := v = some (.int k) ∧ Fr n0 L ∧ h = h0
def Pst (Z : State) (o : Addr) (k : Int32) (h0 : Heap) (n0 : Nat) (s : State) (oQ : Outcome) (U : State) : Prop := ∃ v L, oQ = .returned v ∧ Qst Z o k h0 n0 v U.heap L ∧ FrameEnd s oQ U L ({ frames := 0, cells := 0, slots := 0, locals := 0 } : Room).cells ({ frames := 0, cells := 0, slots := 0, locals := 0 } : Room).slots
set_option maxRecDepth 65536 in
set_option maxHeartbeats 40000000 in
theorem rmst (l : Launch) (Z : State) (a0 : Array Value) (hw : ∀ d ∈ tables_1, d.before a0 Z = true) (ws : List Jvm.Cond) (o : Addr) (k : Int32) (h0 : Heap) (n0 : Nat) (Z0 : n0 ≤ h0.size) (F_status_o : Fld Z h0 o "com/example/resolvent/resolvent/resolution/CompiledAction" "status" "I" (.int k)) :
    MetFree l (⟨"com/example/resolvent/resolvent/resolution/CompiledAction", "status", "()I"⟩ : MethodName) (head1 (Jvm.Cond.code (⟨"com/example/resolvent/resolvent/resolution/CompiledAction", "status", "()I"⟩ : MethodName) prog_7_method_7_code 1 (some .int) :: ws) ({ frames := 0, cells := 0, slots := 0, locals := 0 } : Room)) (fun aQ U => aQ = #[(.ref o)] ∧ Z.Warmed39 U.vm ∧ U.heap = h0) (fun _ _ _ _ _ => True) (fun _ U oQ U' => ∃ v L, oQ = .returned v ∧ Qst Z o k h0 n0 v U'.heap L ∧ FrameEnd U oQ U' L ({ frames := 0, cells := 0, slots := 0, locals := 0 } : Room).cells ({ frames := 0, cells := 0, slots := 0, locals := 0 } : Room).slots) := by
  refine MetFree.of_bodySF (plainFor_of_name pn_5) hisR ?_
  intro p e s m args below meth c s₁ Bd hml0 hP hK
  obtain ⟨rfl, hZ, hh⟩ := hP
  have hx := Bd.exec
  have hby := Bd.bytes
  have hml : c.maxLocals = 1 := hml0
  have hown : s.vm.findClass "com/example/resolvent/resolvent/resolution/CompiledAction" = some m.cls := findClass_of_methodNamed Bd.named
  have hnm := (name_of_methodNamed Bd.named Bd.method).1
  have X0 : Stand p l e ({ frames := 0, cells := 0, slots := 0, locals := 0 } : Room) s m #[(.ref o)] below meth c s₁ [] 0 0 := Stand.of_body Bd
  have e0 : s₁.heap = h0 := by rw [← hh, Bd.state]; rfl
  have Nf := Fr.nil n0
  have Zs : n0 ≤ h0.size := Z0
  have Kp : Keep h0 h0 [] := Keep.refl _ _
  have szr : h0.size ≤ h0.size := Nat.le_refl _
  show own_End p e below (Pst Z o k h0 n0 s) (s₁.setTop (entryFrame m #[(.ref o)] 1))
  rw [ef_st]
  refine own_go (fun tQ kQ => XS.aloadN X0.here hx rfl (hb hby dst_0) rfl rfl kQ) ?_
  show own_End p e below _ (s₁.setTop (mkF m 1 #[.val (.ref o)] [(.ref o)]))
  obtain ⟨T1, X1, e1, st1⟩ := getF X0 hx hZ hown (host := "") (Or.inl (hw _ (List.mem_of_getElem? (i := 15) rfl))) Via.refl e0 F_status_o (g := (mkF m 1 #[.val (.ref o)] [(.ref o)])) rfl rfl (hb hby dst_1)
  refine own_go (fun tQ kQ => st1 tQ kQ) ?_
  show own_End p e below _ (T1.setTop (mkF m 4 #[.val (.ref o)] [(.int k)]))
  obtain ⟨fs, hr, hrun, hended, hW, hsame⟩ := X1.leave (v := some (.int k)) (fun h => by rw [Bd.returns] at h; cases h)
  refine ⟨_, _, (retI X1 hx Bd.returns (hb hby dst_4) hr), hrun, hended, _, _, rfl, ?_, ⟨_, rfl⟩, hW, hsame.mono (by decide) (by decide)⟩
  show Qst Z o k h0 n0 _ T1.heap _
  rw [e1]
  exact ⟨rfl, Nf, rfl⟩
theorem pd_16 : parseMethodDescriptor "()Lcom/example/resolvent/resolvent/resolution/CompiledAction;" = some ⟨[], some (.object "com/example/resolvent/resolvent/resolution/CompiledAction")⟩ := by decide +kernel
theorem doff_0 : decode prog_33_method_3_code 0 = .ok (.aload_n 0, 1) := by decide +kernel
theorem doff_1 : decode prog_33_method_3_code 1 = .ok (.getfield 7, 3) := by decide +kernel
theorem doff_4 : decode prog_33_method_3_code 4 = .ok (.iconst 0, 1) := by decide +kernel
theorem doff_5 : decode prog_33_method_3_code 5 = .ok (.invokeinterface 67 2, 5) := by decide +kernel
theorem doff_10 : decode prog_33_method_3_code 10 = .ok (.checkcast 43, 3) := by decide +kernel
theorem doff_13 : decode prog_33_method_3_code 13 = .ok (.invokevirtual 54, 3) := by decide +kernel
theorem doff_16 : decode prog_33_method_3_code 16 = .ok (.areturn, 1) := by decide +kernel
theorem ef_off (m : MethodId) (x0 : Addr) : entryFrame m #[(.ref x0)] 1 = mkF m 0 #[.val (.ref x0)] [] := by first | (simp [entryFrame, mkF, argsToLocals, Value.category]; done) | rfl
def Qoff (Z : State) (g : Addr) (a : Addr) (b : Addr) (ff : Nat → Value) (mc : Int32) (k : Int32) (o : Addr) (y : Addr) (h0 : Heap) (n0 : Nat) (v : Option Value) (h : Heap) (L : List Loc) : Prop := v = some (.ref y) ∧ Fr n0 L ∧ h = h0
def Poff (Z : State) (g : Addr) (a : Addr) (b : Addr) (ff : Nat → Value) (mc : Int32) (k : Int32) (o : Addr) (y : Addr) (h0 : Heap) (n0 : Nat) (s : State) (oQ : Outcome) (U : State) : Prop := ∃ v L, oQ = .returned v ∧ Qoff Z g a b ff mc k o y h0 n0 v U.heap L ∧ FrameEnd s oQ U L ({ frames := 3, cells := 0, slots := 0, locals := 40 } : Room).cells ({ frames := 3, cells := 0, slots := 0, locals := 40 } : Room).slots
set_option maxRecDepth 65536 in
set_option maxHeartbeats 40000000 in
theorem rmoff (l : Launch) (Z : State) (a0 : Array Value) (hw : ∀ d ∈ tables_1, d.before a0 Z = true) (ws : List Jvm.Cond) (g : Addr) (a : Addr) (b : Addr) (ff : Nat → Value) (mc : Int32) (k : Int32) (o : Addr) (y : Addr) (h0 : Heap) (n0 : Nat) (Z0 : n0 ≤ h0.size) (F_offers_g : Fld Z h0 g "com/example/resolvent/resolvent/resolution/Trial$Negotiation" "offers" "Ljava/util/List;" (.ref a)) (E_a : Exa Z h0 a "java/util/ArrayList") (F_modCount_a : Fld Z h0 a "java/util/AbstractList" "modCount" "I" (.int mc)) (F_elementData_a : Fld Z h0 a "java/util/ArrayList" "elementData" "[Ljava/lang/Object;" (.ref b)) (F_size_a : Fld Z h0 a "java/util/ArrayList" "size" "I" (.int k)) (V_b : own_Rr Z h0 b "java/lang/Object" (10 : Int32) (ff)) (hik : (0 : Int32) < k) (ho : ff 0 = .ref o) (E_o : Exa Z h0 o "com/example/resolvent/resolvent/resolution/Trial$Offer") (F_action_o : Fld Z h0 o "com/example/resolvent/resolvent/resolution/Trial$Offer" "action" "Lcom/example/resolvent/resolvent/resolution/CompiledAction;" (.ref y)) :
    MetFree l (⟨"com/example/resolvent/resolvent/resolution/Trial$Negotiation", "offered", "()Lcom/example/resolvent/resolvent/resolution/CompiledAction;"⟩ : MethodName) (head1 (Jvm.Cond.code (⟨"com/example/resolvent/resolvent/resolution/Trial$Negotiation", "offered", "()Lcom/example/resolvent/resolvent/resolution/CompiledAction;"⟩ : MethodName) prog_33_method_3_code 1 (some (.object "com/example/resolvent/resolvent/resolution/CompiledAction")) :: ws) ({ frames := 3, cells := 0, slots := 0, locals := 40 } : Room)) (fun aQ U => aQ = #[(.ref g)] ∧ Z.Warmed39 U.vm ∧ U.heap = h0) (fun _ _ _ _ _ => True) (fun _ U oQ U' => ∃ v L, oQ = .returned v ∧ Qoff Z g a b ff mc k o y h0 n0 v U'.heap L ∧ FrameEnd U oQ U' L ({ frames := 3, cells := 0, slots := 0, locals := 40 } : Room).cells ({ frames := 3, cells := 0, slots := 0, locals := 40 } : Room).slots) := by
  refine MetFree.of_bodySF (plainFor_of_name pn_7) hisR ?_
  intro p e s m args below meth c s₁ Bd hml0 hP hK
  obtain ⟨rfl, hZ, hh⟩ := hP
  have hx := Bd.exec
  have hby := Bd.bytes
  have hml : c.maxLocals = 1 := hml0
  have hown : s.vm.findClass "com/example/resolvent/resolvent/resolution/Trial$Negotiation" = some m.cls := findClass_of_methodNamed Bd.named
  have hnm := (name_of_methodNamed Bd.named Bd.method).1
  have X0 : Stand p l e ({ frames := 3, cells := 0, slots := 0, locals := 40 } : Room) s m #[(.ref g)] below meth c s₁ [] 0 0 := Stand.of_body Bd
  have e0 : s₁.heap = h0 := by rw [← hh, Bd.state]; rfl
  have Nf := Fr.nil n0
  have Zs : n0 ≤ h0.size := Z0
  have Kp : Keep h0 h0 [] := Keep.refl _ _
  have szr : h0.size ≤ h0.size := Nat.le_refl _
  show own_End p e below (Poff Z g a b ff mc k o y h0 n0 s) (s₁.setTop (entryFrame m #[(.ref g)] 1))
  rw [ef_off]
  refine own_go (fun tQ kQ => XS.aloadN X0.here hx rfl (hb hby doff_0) rfl rfl kQ) ?_
  show own_End p e below _ (s₁.setTop (mkF m 1 #[.val (.ref g)] [(.ref g)]))
  obtain ⟨T1, X1, e1, st1⟩ := getF X0 hx hZ hown (host := "") (Or.inl (hw _ (List.mem_of_getElem? (i := 96) rfl))) Via.refl e0 F_offers_g (g := (mkF m 1 #[.val (.ref g)] [(.ref g)])) rfl rfl (hb hby doff_1)
  refine own_go (fun tQ kQ => st1 tQ kQ) ?_
  show own_End p e below _ (T1.setTop (mkF m 4 #[.val (.ref g)] [(.ref a)]))
  refine own_go (fun tQ kQ => XS.iconst X1.here hx rfl (hb hby doff_4) kQ) ?_
  show own_End p e below _ (T1.setTop (mkF m 5 #[.val (.ref g)] [(.int (0 : Int32)), (.ref a)]))
  obtain ⟨cq2, kq2, q2a, q2b, q2c⟩ := isOf hZ e1 E_a
  obtain ⟨_, _, ⟨T2, L2, k2, n2⟩, -, X2, ⟨Lc2, hQ2, l2, y2, z2⟩, st2⟩ := X1.interfaceBack hx (xi := (⟨"java/util/List", "get", "(I)Ljava/lang/Object;"⟩ : MethodName)) (y := (⟨"java/util/ArrayList", "get", "(I)Ljava/lang/Object;"⟩ : MethodName)) hown (mvT hZ (hw _ (List.mem_of_getElem? (i := 103) rfl))) (mvT hZ (hw _ (List.mem_of_getElem? (i := 104) rfl))) (mvT hZ (hw _ (List.mem_of_getElem? (i := 105) rfl))) (mvT hZ (hw _ (List.mem_of_getElem? (i := 106) rfl))) (mvT hZ (hw _ (List.mem_of_getElem? (i := 107) rfl))) (mvT hZ (hw _ (List.mem_of_getElem? (i := 108) rfl))) (mvT hZ (hw _ (List.mem_of_getElem? (i := 109) rfl))) (mvT hZ (hw _ (List.mem_of_getElem? (i := 61) rfl))) (by decide) (backOf (W := 0) (rmgt l Z a0 hw [] a b ff mc k (0 : Int32) o h0 n0 Zs E_a F_modCount_a F_elementData_a F_size_a V_b (by decide) hik (by decide) ho) hZ (hw _ (List.mem_of_getElem? (i := 110) rfl)) (hw _ (List.mem_of_getElem? (i := 21) rfl)) (by decide) (by decide)) q2a q2b q2c (g := (mkF m 5 #[.val (.ref g)] [(.int (0 : Int32)), (.ref a)])) rfl (by rw [hml]; rfl) (Steps.refl _) (argsL := [(.int (0 : Int32))]) (rest := []) (lenOf pd_15 rfl) rfl (by show 2 * 0 + _ ≤ _; exact Nat.le_of_eq rfl) (hb hby doff_5) (fun _ _ => ⟨rfl, e1, (Nat.le_of_ble_eq_true rfl), (Nat.le_of_ble_eq_true rfl)⟩)
  dsimp only [Pt.U, Pt.locs, Pt.cells, Pt.slots] at X2 l2 y2 z2 st2 hQ2
  subst l2 y2 z2
  obtain ⟨rfl, N2q, e2⟩ := hQ2
  have Nf := Fr.app Nf N2q
  refine own_go (fun tQ kQ => st2.trans kQ) ?_
  show own_End p e below _ (T2.setTop (mkF m 10 #[.val (.ref g)] [(.ref o)]))
  obtain ⟨T3, X3, e3, st3⟩ := castY X2 hx hZ hown (hw _ (List.mem_of_getElem? (i := 124) rfl)) e2 (Ins.self E_o) (g := (mkF m 10 #[.val (.ref g)] [(.ref o)])) rfl rfl (hb hby doff_10)
  refine own_go (fun tQ kQ => st3 tQ kQ) ?_
  show own_End p e below _ (T3.setTop (mkF m 13 #[.val (.ref g)] [(.ref o)]))
  obtain ⟨cq4, kq4, q4a, q4b, q4c⟩ := isOf hZ e3 E_o
  obtain ⟨_, _, ⟨T4, L4, k4, n4⟩, -, X4, ⟨Lc4, hQ4, l4, y4, z4⟩, st4⟩ := X3.virtualBack hx (y := (⟨"com/example/resolvent/resolvent/resolution/Trial$Offer", "action", "()Lcom/example/resolvent/resolvent/resolution/CompiledAction;"⟩ : MethodName)) (z := (⟨"com/example/resolvent/resolvent/resolution/Trial$Offer", "action", "()Lcom/example/resolvent/resolvent/resolution/CompiledAction;"⟩ : MethodName)) hown (mvT hZ (hw _ (List.mem_of_getElem? (i := 126) rfl))) (mvT hZ (hw _ (List.mem_of_getElem? (i := 127) rfl))) (notFace_of_selects (args := #[]) (mvT hZ (hw _ (List.mem_of_getElem? (i := 129) rfl)))) (mvT hZ (hw _ (List.mem_of_getElem? (i := 129) rfl))) (mvT hZ (hw _ (List.mem_of_getElem? (i := 128) rfl))) (by decide) (backOf (W := 0) (rmac l Z a0 hw [] o y h0 n0 Zs F_action_o) hZ (hw _ (List.mem_of_getElem? (i := 130) rfl)) (hw _ (List.mem_of_getElem? (i := 45) rfl)) (by decide) (by decide)) q4a q4c (g := (mkF m 13 #[.val (.ref g)] [(.ref o)])) rfl (by rw [hml]; rfl) (Steps.refl _) (argsL := []) (rest := []) (lenOf pd_16 rfl) rfl (by show 2 * 0 + _ ≤ _; exact Nat.le_of_eq rfl) (hb hby doff_13) (fun _ _ => ⟨rfl, e3, (Nat.le_of_ble_eq_true rfl), (Nat.le_of_ble_eq_true rfl)⟩)
  dsimp only [Pt.U, Pt.locs, Pt.cells, Pt.slots] at X4 l4 y4 z4 st4 hQ4
  subst l4 y4 z4
  obtain ⟨rfl, N4q, e4⟩ := hQ4
  have Nf := Fr.app Nf N4q
  refine own_go (fun tQ kQ => st4.trans kQ) ?_
  show own_End p e below _ (T4.setTop (mkF m 16 #[.val (.ref g)] [(.ref y)]))
  obtain ⟨fs, hr, hrun, hended, hW, hsame⟩ := X4.leave (v := some (.ref y)) (fun h => by rw [Bd.returns] at h; cases h)
  refine ⟨_, _, ?_, hrun, hended, _, _, rfl, ?_, ⟨_, rfl⟩, hW, hsame.mono (by decide) (by decide)⟩
  · exact (by
      jvm_step X4.here [X4.here.top, hx, (hb hby doff_16), X4.method', Bd.returns, Value.isRef, FieldType.isReference, narrow]
      first | (intro acts; rw [hr _ acts rfl rfl rfl]) | rw [hr _ _ rfl rfl rfl]
      exact Steps.refl _)
  · show Qoff Z g a b ff mc k o y h0 n0 _ T4.heap _
    rw [e4]
    exact ⟨rfl, Nf, rfl⟩
theorem pd_17 : parseMethodDescriptor "(ILcom/example/resolvent/resolvent/resolution/Target;)V" = some ⟨[.int, (.object "com/example/resolvent/resolvent/resolution/Target")], none⟩ := by decide +kernel
theorem pd_18 : parseMethodDescriptor "(Ljava/util/regex/Pattern;Lcom/example/resolvent/resolvent/resolution/CompiledAction;)V" = some ⟨[(.object "java/util/regex/Pattern"), (.object "com/example/resolvent/resolvent/resolution/CompiledAction")], none⟩ := by decide +kernel
theorem pd_19 : parseMethodDescriptor "(Ljava/lang/Object;)Z" = some ⟨[(.object "java/lang/Object")], some .boolean⟩ := by decide +kernel
theorem pd_20 : parseMethodDescriptor "(Ljava/util/List;)V" = some ⟨[(.object "java/util/List")], none⟩ := by decide +kernel
theorem pd_21 : parseMethodDescriptor "()I" = some ⟨[], some .int⟩ := by decide +kernel
theorem pn_22 : plainName "com/example/resolvent/resolvent/resolution/NegotiationOfferedPinLaw" = true := by first | (simp [plainName, overriddenIn]; done) | decide +kernel
theorem ef_0 (m : MethodId) (x0 : Int32) (x1 : Int32) (x2 : Int32) (x3 : Int32) : entryFrame m #[(.int x0), (.int x1), (.int x2), (.int x3)] maxLocals = mkF m 0 #[.val (.int x0), .val (.int x1), .val (.int x2), .val (.int x3), .unset, .unset, .unset, .unset, .unset, .unset, .unset] [] := by first | (simp [entryFrame, mkF, argsToLocals, Value.category, maxLocals]; done) | rfl
def Q0 (Z : State) (i0 : Int32) (i1 : Int32) (i2 : Int32) (i3 : Int32) (de : Addr) (fd : Nat → Value) (h0 : Heap) (n0 : Nat) (v : Option Value) (h : Heap) (L : List Loc) : Prop := v = some (.int 1) ∧ Fr n0 L
def P0 (Z : State) (i0 : Int32) (i1 : Int32) (i2 : Int32) (i3 : Int32) (de : Addr) (fd : Nat → Value) (h0 : Heap) (n0 : Nat) (s : State) (oQ : Outcome) (U : State) : Prop := ∃ v L, oQ = .returned v ∧ Q0 Z i0 i1 i2 i3 de fd h0 n0 v U.heap L ∧ FrameEnd s oQ U L 9 26
set_option maxRecDepth 65536 in
set_option maxHeartbeats 40000000 in
theorem rm0 (l : Launch) (Z : State) (a0 : Array Value) (hw : ∀ d ∈ tables_1, d.before a0 Z = true) (ws : List Jvm.Cond) (i0 : Int32) (i1 : Int32) (i2 : Int32) (i3 : Int32) (de : Addr) (fd : Nat → Value) (h0 : Heap) (n0 : Nat) (Z0 : n0 ≤ h0.size) (Ol : Old Z n0 h0) (S_de : Sta Z Z.heap "java/util/ArrayList" "DEFAULTCAPACITY_EMPTY_ELEMENTDATA" "[Ljava/lang/Object;" (.ref de)) (V_de : own_Ar Z Z.heap de (.object "java/lang/Object") (0 : Int32) fd) :
    MetFree l x (head1 (Jvm.Cond.code x code maxLocals ret :: ws) room_1) (fun aQ U => aQ = #[(.int i0), (.int i1), (.int i2), (.int i3)] ∧ Z.Warmed39 U.vm ∧ U.heap = h0) (fun _ _ _ _ _ => True) (fun _ U oQ U' => ∃ v L, oQ = .returned v ∧ Q0 Z i0 i1 i2 i3 de fd h0 n0 v U'.heap L ∧ FrameEnd U oQ U' L 9 26) := by
  refine MetFree.of_bodySF (plainFor_of_name pn_22) hisR ?_
  intro p e s m args below meth c s₁ Bd hml0 hP hK
  obtain ⟨rfl, hZ, hh⟩ := hP
  have hx := Bd.exec
  have hby := Bd.bytes
  have hml : c.maxLocals = 11 := hml0
  have hown : s.vm.findClass "com/example/resolvent/resolvent/resolution/NegotiationOfferedPinLaw" = some m.cls := findClass_of_methodNamed Bd.named
  have hnm := (name_of_methodNamed Bd.named Bd.method).1
  have X0 : Stand p l e room_1 s m #[(.int i0), (.int i1), (.int i2), (.int i3)] below meth c s₁ [] 0 0 := Stand.of_body Bd
  have e0 : s₁.heap = h0 := by rw [← hh, Bd.state]; rfl
  have Nf := Fr.nil n0
  have Zs : n0 ≤ h0.size := Z0
  have Kp : Keep h0 h0 [] := Keep.refl _ _
  have szr : h0.size ≤ h0.size := Nat.le_refl _
  show own_End p e below (P0 Z i0 i1 i2 i3 de fd h0 n0 s) (s₁.setTop (entryFrame m #[(.int i0), (.int i1), (.int i2), (.int i3)] maxLocals))
  rw [ef_0]
  refine own_go (fun tQ kQ => XS.iconst X0.here hx rfl (hb hby at_0) kQ) ?_
  show own_End p e below _ (s₁.setTop (mkF m 1 #[.val (.int i0), .val (.int i1), .val (.int i2), .val (.int i3), .unset, .unset, .unset, .unset, .unset, .unset, .unset] [(.int (1 : Int32))]))
  refine own_go (fun tQ kQ => XS.iloadN X0.here hx rfl (hb hby at_1) rfl kQ) ?_
  show own_End p e below _ (s₁.setTop (mkF m 2 #[.val (.int i0), .val (.int i1), .val (.int i2), .val (.int i3), .unset, .unset, .unset, .unset, .unset, .unset, .unset] [(.int i3), (.int (1 : Int32))]))
  refine own_go (fun tQ kQ => X0.ldcInt hx hown (mvT hZ (hw _ (List.mem_of_getElem? (i := 0) rfl))) (g := (mkF m 2 #[.val (.int i0), .val (.int i1), .val (.int i2), .val (.int i3), .unset, .unset, .unset, .unset, .unset, .unset, .unset] [(.int i3), (.int (1 : Int32))])) rfl (hb hby at_2) _ kQ) ?_
  show own_End p e below _ (s₁.setTop (mkF m 4 #[.val (.int i0), .val (.int i1), .val (.int i2), .val (.int i3), .unset, .unset, .unset, .unset, .unset, .unset, .unset] [(.int (2147483647 : Int32)), (.int i3), (.int (1 : Int32))]))
  refine own_go (fun tQ kQ => XS.iand X0.here hx rfl (hb hby at_4) rfl kQ) ?_
  show own_End p e below _ (s₁.setTop (mkF m 5 #[.val (.int i0), .val (.int i1), .val (.int i2), .val (.int i3), .unset, .unset, .unset, .unset, .unset, .unset, .unset] [(.int (i3 &&& (2147483647 : Int32))), (.int (1 : Int32))]))
  refine own_go (fun tQ kQ => XS.iconst X0.here hx rfl (hb hby at_5) kQ) ?_
  show own_End p e below _ (s₁.setTop (mkF m 6 #[.val (.int i0), .val (.int i1), .val (.int i2), .val (.int i3), .unset, .unset, .unset, .unset, .unset, .unset, .unset] [(.int (3 : Int32)), (.int (i3 &&& (2147483647 : Int32))), (.int (1 : Int32))]))
  refine own_go (fun tQ kQ => iremM (g := (mkF m 6 #[.val (.int i0), .val (.int i1), .val (.int i2), .val (.int i3), .unset, .unset, .unset, .unset, .unset, .unset, .unset] [(.int (3 : Int32)), (.int (i3 &&& (2147483647 : Int32))), (.int (1 : Int32))])) X0 hx rfl (hb hby at_6) rfl (by decide) kQ) ?_
  show own_End p e below _ (s₁.setTop (mkF m 7 #[.val (.int i0), .val (.int i1), .val (.int i2), .val (.int i3), .unset, .unset, .unset, .unset, .unset, .unset, .unset] [(.int ((i3 &&& (2147483647 : Int32)) % (3 : Int32))), (.int (1 : Int32))]))
  refine own_go (fun tQ kQ => XS.iadd X0.here hx rfl (hb hby at_7) rfl kQ) ?_
  show own_End p e below _ (s₁.setTop (mkF m 8 #[.val (.int i0), .val (.int i1), .val (.int i2), .val (.int i3), .unset, .unset, .unset, .unset, .unset, .unset, .unset] [(.int ((1 : Int32) + ((i3 &&& (2147483647 : Int32)) % (3 : Int32))))]))
  refine own_go (fun tQ kQ => XS.istore X0.here hx rfl (hb hby at_8) rfl (l' := #[.val (.int i0), .val (.int i1), .val (.int i2), .val (.int i3), .val (.int ((1 : Int32) + ((i3 &&& (2147483647 : Int32)) % (3 : Int32)))), .unset, .unset, .unset, .unset, .unset, .unset]) rfl kQ) ?_
  show own_End p e below _ (s₁.setTop (mkF m 10 #[.val (.int i0), .val (.int i1), .val (.int i2), .val (.int i3), .val (.int ((1 : Int32) + ((i3 &&& (2147483647 : Int32)) % (3 : Int32)))), .unset, .unset, .unset, .unset, .unset, .unset] []))
  have hcn := own_cnt i3
  generalize ((1 : Int32) + ((i3 &&& (2147483647 : Int32)) % (3 : Int32))) = cn at hcn ⊢
  show own_End p e below _ (s₁.setTop (mkF m 10 #[.val (.int i0), .val (.int i1), .val (.int i2), .val (.int i3), .val (.int cn), .unset, .unset, .unset, .unset, .unset, .unset] []))
  obtain ⟨T1, h1, X1, e1, E1, A1, D1, -, st1⟩ := newO X0 hx hZ hown (hw _ (List.mem_of_getElem? (i := 1) rfl)) (hw _ (List.mem_of_getElem? (i := 2) rfl)) (hw _ (List.mem_of_getElem? (i := 3) rfl)) e0 (g := (mkF m 10 #[.val (.int i0), .val (.int i1), .val (.int i2), .val (.int i3), .val (.int cn), .unset, .unset, .unset, .unset, .unset, .unset] [])) rfl (hb hby at_10) (by decide) (by decide)
  obtain ⟨c0, g1⟩ : ∃ z, z = h0.size := ⟨_, rfl⟩
  rw [← g1] at A1 D1 st1
  have g_c0 : n0 ≤ c0 := Nat.le_trans Zs (Nat.le_of_eq g1.symm)
  have sz_c0 : h0.size ≤ c0 := Nat.le_trans szr (Nat.le_of_eq g1.symm)
  have Ol := Ol.ext E1
  have Kp := Kp.ext E1
  have Zs := Nat.le_trans Zs E1.1
  have szr := Nat.le_trans szr E1.1
  have E_c0 := A1
  have F_status_c0 : Fld Z h1 c0 "com/example/resolvent/resolvent/resolution/CompiledAction" "status" "I" (.int (0 : Int32)) := D1 (Or.inr (hw _ (List.mem_of_getElem? (i := 16) rfl))) (ty := .int) (by decide)
  have F_target_c0 : Fld Z h1 c0 "com/example/resolvent/resolvent/resolution/CompiledAction" "target" "Lcom/example/resolvent/resolvent/resolution/Target;" .null := D1 (Or.inr (hw _ (List.mem_of_getElem? (i := 18) rfl))) (ty := (.object "com/example/resolvent/resolvent/resolution/Target")) (by decide)
  refine own_go (fun tQ kQ => st1 tQ kQ) ?_
  show own_End p e below _ (T1.setTop (mkF m 13 #[.val (.int i0), .val (.int i1), .val (.int i2), .val (.int i3), .val (.int cn), .unset, .unset, .unset, .unset, .unset, .unset] [(.ref c0)]))
  refine own_go (fun tQ kQ => XS.dup X1.here hx rfl (hb hby at_13) rfl rfl kQ) ?_
  show own_End p e below _ (T1.setTop (mkF m 14 #[.val (.int i0), .val (.int i1), .val (.int i2), .val (.int i3), .val (.int cn), .unset, .unset, .unset, .unset, .unset, .unset] [(.ref c0), (.ref c0)]))
  refine own_go (fun tQ kQ => XS.iloadN X1.here hx rfl (hb hby at_14) rfl kQ) ?_
  show own_End p e below _ (T1.setTop (mkF m 15 #[.val (.int i0), .val (.int i1), .val (.int i2), .val (.int i3), .val (.int cn), .unset, .unset, .unset, .unset, .unset, .unset] [(.int i0), (.ref c0), (.ref c0)]))
  refine own_go (fun tQ kQ => XS.aconstNull X1.here hx rfl (hb hby at_15) kQ) ?_
  show own_End p e below _ (T1.setTop (mkF m 16 #[.val (.int i0), .val (.int i1), .val (.int i2), .val (.int i3), .val (.int cn), .unset, .unset, .unset, .unset, .unset, .unset] [.null, (.int i0), (.ref c0), (.ref c0)]))
  obtain ⟨_, _, ⟨T2, L2, k2, n2⟩, -, X2, ⟨Lc2, hQ2, l2, y2, z2⟩, st2⟩ := X1.specialBack hx (y := (⟨"com/example/resolvent/resolvent/resolution/CompiledAction", "<init>", "(ILcom/example/resolvent/resolvent/resolution/Target;)V"⟩ : MethodName)) rfl hown (mvT hZ (hw _ (List.mem_of_getElem? (i := 4) rfl))) (mvT hZ (hw _ (List.mem_of_getElem? (i := 5) rfl))) (mvT hZ (hw _ (List.mem_of_getElem? (i := 6) rfl))) (by decide) (backOf (W := 1) (rmCA l Z a0 hw [] c0 i0 h1 n0 Zs E_c0 F_status_c0 F_target_c0 g_c0) hZ (hw _ (List.mem_of_getElem? (i := 6) rfl)) (hw _ (List.mem_of_getElem? (i := 3) rfl)) (by decide) (by decide)) (g := (mkF m 16 #[.val (.int i0), .val (.int i1), .val (.int i2), .val (.int i3), .val (.int cn), .unset, .unset, .unset, .unset, .unset, .unset] [.null, (.int i0), (.ref c0), (.ref c0)])) rfl (by rw [hml]; rfl) (Steps.refl _) (a := c0) (argsL := [(.int i0), .null]) (rest := [(.ref c0)]) (lenOf pd_17 rfl) rfl (by show 2 * 0 + _ ≤ _; exact Nat.le_of_eq rfl) (hb hby at_16) (fun _ _ => ⟨rfl, e1, (Nat.le_of_ble_eq_true rfl), (Nat.le_of_ble_eq_true rfl)⟩)
  dsimp only [Pt.U, Pt.locs, Pt.cells, Pt.slots] at X2 l2 y2 z2 st2 hQ2
  subst l2 y2 z2
  obtain ⟨rfl, N2q, K2, F_status_c0, F_target_c0⟩ := hQ2
  have Nf := Fr.app Nf N2q
  have Ol := Ol.keep K2 (allS g_c0 all0)
  have E_c0 := E_c0.keep K2
  have Kp := Kp.trans K2 (allS (Or.inr sz_c0) all0)
  have Zs := Nat.le_trans Zs K2.1
  have szr := Nat.le_trans szr K2.1
  refine own_go (fun tQ kQ => st2.trans kQ) ?_
  show own_End p e below _ (T2.setTop (mkF m 19 #[.val (.int i0), .val (.int i1), .val (.int i2), .val (.int i3), .val (.int cn), .unset, .unset, .unset, .unset, .unset, .unset] [(.ref c0)]))
  refine own_go (fun tQ kQ => XS.astore X2.here hx rfl (hb hby at_19) rfl rfl (l' := #[.val (.int i0), .val (.int i1), .val (.int i2), .val (.int i3), .val (.int cn), .val (.ref c0), .unset, .unset, .unset, .unset, .unset]) rfl kQ) ?_
  show own_End p e below _ (T2.setTop (mkF m 21 #[.val (.int i0), .val (.int i1), .val (.int i2), .val (.int i3), .val (.int cn), .val (.ref c0), .unset, .unset, .unset, .unset, .unset] []))
  obtain ⟨T3, h3, X3, e3, E3, A3, D3, -, st3⟩ := newO X2 hx hZ hown (hw _ (List.mem_of_getElem? (i := 1) rfl)) (hw _ (List.mem_of_getElem? (i := 2) rfl)) (hw _ (List.mem_of_getElem? (i := 3) rfl)) rfl (g := (mkF m 21 #[.val (.int i0), .val (.int i1), .val (.int i2), .val (.int i3), .val (.int cn), .val (.ref c0), .unset, .unset, .unset, .unset, .unset] [])) rfl (hb hby at_21) (by decide) (by decide)
  obtain ⟨c1, g3⟩ : ∃ z, z = T2.heap.size := ⟨_, rfl⟩
  rw [← g3] at A3 D3 st3
  have ne_c0_c1 : c0 ≠ c1 := Nat.ne_of_lt (Nat.lt_of_lt_of_le E_c0.lt (Nat.le_of_eq g3.symm))
  have g_c1 : n0 ≤ c1 := Nat.le_trans Zs (Nat.le_of_eq g3.symm)
  have sz_c1 : h0.size ≤ c1 := Nat.le_trans szr (Nat.le_of_eq g3.symm)
  have Ol := Ol.ext E3
  have E_c0 := E_c0.ext E3
  have F_status_c0 := F_status_c0.ext E3
  have F_target_c0 := F_target_c0.ext E3
  have Kp := Kp.ext E3
  have Zs := Nat.le_trans Zs E3.1
  have szr := Nat.le_trans szr E3.1
  have E_c1 := A3
  have F_status_c1 : Fld Z h3 c1 "com/example/resolvent/resolvent/resolution/CompiledAction" "status" "I" (.int (0 : Int32)) := D3 (Or.inr (hw _ (List.mem_of_getElem? (i := 16) rfl))) (ty := .int) (by decide)
  have F_target_c1 : Fld Z h3 c1 "com/example/resolvent/resolvent/resolution/CompiledAction" "target" "Lcom/example/resolvent/resolvent/resolution/Target;" .null := D3 (Or.inr (hw _ (List.mem_of_getElem? (i := 18) rfl))) (ty := (.object "com/example/resolvent/resolvent/resolution/Target")) (by decide)
  refine own_go (fun tQ kQ => st3 tQ kQ) ?_
  show own_End p e below _ (T3.setTop (mkF m 24 #[.val (.int i0), .val (.int i1), .val (.int i2), .val (.int i3), .val (.int cn), .val (.ref c0), .unset, .unset, .unset, .unset, .unset] [(.ref c1)]))
  refine own_go (fun tQ kQ => XS.dup X3.here hx rfl (hb hby at_24) rfl rfl kQ) ?_
  show own_End p e below _ (T3.setTop (mkF m 25 #[.val (.int i0), .val (.int i1), .val (.int i2), .val (.int i3), .val (.int cn), .val (.ref c0), .unset, .unset, .unset, .unset, .unset] [(.ref c1), (.ref c1)]))
  refine own_go (fun tQ kQ => XS.iloadN X3.here hx rfl (hb hby at_25) rfl kQ) ?_
  show own_End p e below _ (T3.setTop (mkF m 26 #[.val (.int i0), .val (.int i1), .val (.int i2), .val (.int i3), .val (.int cn), .val (.ref c0), .unset, .unset, .unset, .unset, .unset] [(.int i1), (.ref c1), (.ref c1)]))
  refine own_go (fun tQ kQ => XS.aconstNull X3.here hx rfl (hb hby at_26) kQ) ?_
  show own_End p e below _ (T3.setTop (mkF m 27 #[.val (.int i0), .val (.int i1), .val (.int i2), .val (.int i3), .val (.int cn), .val (.ref c0), .unset, .unset, .unset, .unset, .unset] [.null, (.int i1), (.ref c1), (.ref c1)]))
  obtain ⟨_, _, ⟨T4, L4, k4, n4⟩, -, X4, ⟨Lc4, hQ4, l4, y4, z4⟩, st4⟩ := X3.specialBack hx (y := (⟨"com/example/resolvent/resolvent/resolution/CompiledAction", "<init>", "(ILcom/example/resolvent/resolvent/resolution/Target;)V"⟩ : MethodName)) rfl hown (mvT hZ (hw _ (List.mem_of_getElem? (i := 4) rfl))) (mvT hZ (hw _ (List.mem_of_getElem? (i := 5) rfl))) (mvT hZ (hw _ (List.mem_of_getElem? (i := 6) rfl))) (by decide) (backOf (W := 1) (rmCA l Z a0 hw [] c1 i1 h3 n0 Zs E_c1 F_status_c1 F_target_c1 g_c1) hZ (hw _ (List.mem_of_getElem? (i := 6) rfl)) (hw _ (List.mem_of_getElem? (i := 3) rfl)) (by decide) (by decide)) (g := (mkF m 27 #[.val (.int i0), .val (.int i1), .val (.int i2), .val (.int i3), .val (.int cn), .val (.ref c0), .unset, .unset, .unset, .unset, .unset] [.null, (.int i1), (.ref c1), (.ref c1)])) rfl (by rw [hml]; rfl) (Steps.refl _) (a := c1) (argsL := [(.int i1), .null]) (rest := [(.ref c1)]) (lenOf pd_17 rfl) rfl (by show 2 * 0 + _ ≤ _; exact Nat.le_of_eq rfl) (hb hby at_27) (fun _ _ => ⟨rfl, e3, (Nat.le_of_ble_eq_true rfl), (Nat.le_of_ble_eq_true rfl)⟩)
  dsimp only [Pt.U, Pt.locs, Pt.cells, Pt.slots] at X4 l4 y4 z4 st4 hQ4
  subst l4 y4 z4
  obtain ⟨rfl, N4q, K4, F_status_c1, F_target_c1⟩ := hQ4
  have Nf := Fr.app Nf N4q
  have Ol := Ol.keep K4 (allS g_c1 all0)
  have E_c0 := E_c0.keep K4
  have F_status_c0 := F_status_c0.keep K4 (ninS ne_c0_c1 nin0)
  have F_target_c0 := F_target_c0.keep K4 (ninS ne_c0_c1 nin0)
  have E_c1 := E_c1.keep K4
  have Kp := Kp.trans K4 (allS (Or.inr sz_c1) all0)
  have Zs := Nat.le_trans Zs K4.1
  have szr := Nat.le_trans szr K4.1
  refine own_go (fun tQ kQ => st4.trans kQ) ?_
  show own_End p e below _ (T4.setTop (mkF m 30 #[.val (.int i0), .val (.int i1), .val (.int i2), .val (.int i3), .val (.int cn), .val (.ref c0), .unset, .unset, .unset, .unset, .unset] [(.ref c1)]))
  refine own_go (fun tQ kQ => XS.astore X4.here hx rfl (hb hby at_30) rfl rfl (l' := #[.val (.int i0), .val (.int i1), .val (.int i2), .val (.int i3), .val (.int cn), .val (.ref c0), .val (.ref c1), .unset, .unset, .unset, .unset]) rfl kQ) ?_
  show own_End p e below _ (T4.setTop (mkF m 32 #[.val (.int i0), .val (.int i1), .val (.int i2), .val (.int i3), .val (.int cn), .val (.ref c0), .val (.ref c1), .unset, .unset, .unset, .unset] []))
  obtain ⟨T5, h5, X5, e5, E5, A5, D5, -, st5⟩ := newO X4 hx hZ hown (hw _ (List.mem_of_getElem? (i := 1) rfl)) (hw _ (List.mem_of_getElem? (i := 2) rfl)) (hw _ (List.mem_of_getElem? (i := 3) rfl)) rfl (g := (mkF m 32 #[.val (.int i0), .val (.int i1), .val (.int i2), .val (.int i3), .val (.int cn), .val (.ref c0), .val (.ref c1), .unset, .unset, .unset, .unset] [])) rfl (hb hby at_32) (by decide) (by decide)
  obtain ⟨c2, g5⟩ : ∃ z, z = T4.heap.size := ⟨_, rfl⟩
  rw [← g5] at A5 D5 st5
  have ne_c0_c2 : c0 ≠ c2 := Nat.ne_of_lt (Nat.lt_of_lt_of_le E_c0.lt (Nat.le_of_eq g5.symm))
  have g_c2 : n0 ≤ c2 := Nat.le_trans Zs (Nat.le_of_eq g5.symm)
  have sz_c2 : h0.size ≤ c2 := Nat.le_trans szr (Nat.le_of_eq g5.symm)
  have Ol := Ol.ext E5
  have E_c0 := E_c0.ext E5
  have F_status_c0 := F_status_c0.ext E5
  have F_target_c0 := F_target_c0.ext E5
  have Kp := Kp.ext E5
  have Zs := Nat.le_trans Zs E5.1
  have szr := Nat.le_trans szr E5.1
  have E_c2 := A5
  have F_status_c2 : Fld Z h5 c2 "com/example/resolvent/resolvent/resolution/CompiledAction" "status" "I" (.int (0 : Int32)) := D5 (Or.inr (hw _ (List.mem_of_getElem? (i := 16) rfl))) (ty := .int) (by decide)
  have F_target_c2 : Fld Z h5 c2 "com/example/resolvent/resolvent/resolution/CompiledAction" "target" "Lcom/example/resolvent/resolvent/resolution/Target;" .null := D5 (Or.inr (hw _ (List.mem_of_getElem? (i := 18) rfl))) (ty := (.object "com/example/resolvent/resolvent/resolution/Target")) (by decide)
  refine own_go (fun tQ kQ => st5 tQ kQ) ?_
  show own_End p e below _ (T5.setTop (mkF m 35 #[.val (.int i0), .val (.int i1), .val (.int i2), .val (.int i3), .val (.int cn), .val (.ref c0), .val (.ref c1), .unset, .unset, .unset, .unset] [(.ref c2)]))
  refine own_go (fun tQ kQ => XS.dup X5.here hx rfl (hb hby at_35) rfl rfl kQ) ?_
  show own_End p e below _ (T5.setTop (mkF m 36 #[.val (.int i0), .val (.int i1), .val (.int i2), .val (.int i3), .val (.int cn), .val (.ref c0), .val (.ref c1), .unset, .unset, .unset, .unset] [(.ref c2), (.ref c2)]))
  refine own_go (fun tQ kQ => XS.iloadN X5.here hx rfl (hb hby at_36) rfl kQ) ?_
  show own_End p e below _ (T5.setTop (mkF m 37 #[.val (.int i0), .val (.int i1), .val (.int i2), .val (.int i3), .val (.int cn), .val (.ref c0), .val (.ref c1), .unset, .unset, .unset, .unset] [(.int i2), (.ref c2), (.ref c2)]))
  refine own_go (fun tQ kQ => XS.aconstNull X5.here hx rfl (hb hby at_37) kQ) ?_
  show own_End p e below _ (T5.setTop (mkF m 38 #[.val (.int i0), .val (.int i1), .val (.int i2), .val (.int i3), .val (.int cn), .val (.ref c0), .val (.ref c1), .unset, .unset, .unset, .unset] [.null, (.int i2), (.ref c2), (.ref c2)]))
  obtain ⟨_, _, ⟨T6, L6, k6, n6⟩, -, X6, ⟨Lc6, hQ6, l6, y6, z6⟩, st6⟩ := X5.specialBack hx (y := (⟨"com/example/resolvent/resolvent/resolution/CompiledAction", "<init>", "(ILcom/example/resolvent/resolvent/resolution/Target;)V"⟩ : MethodName)) rfl hown (mvT hZ (hw _ (List.mem_of_getElem? (i := 4) rfl))) (mvT hZ (hw _ (List.mem_of_getElem? (i := 5) rfl))) (mvT hZ (hw _ (List.mem_of_getElem? (i := 6) rfl))) (by decide) (backOf (W := 1) (rmCA l Z a0 hw [] c2 i2 h5 n0 Zs E_c2 F_status_c2 F_target_c2 g_c2) hZ (hw _ (List.mem_of_getElem? (i := 6) rfl)) (hw _ (List.mem_of_getElem? (i := 3) rfl)) (by decide) (by decide)) (g := (mkF m 38 #[.val (.int i0), .val (.int i1), .val (.int i2), .val (.int i3), .val (.int cn), .val (.ref c0), .val (.ref c1), .unset, .unset, .unset, .unset] [.null, (.int i2), (.ref c2), (.ref c2)])) rfl (by rw [hml]; rfl) (Steps.refl _) (a := c2) (argsL := [(.int i2), .null]) (rest := [(.ref c2)]) (lenOf pd_17 rfl) rfl (by show 2 * 0 + _ ≤ _; exact Nat.le_of_eq rfl) (hb hby at_38) (fun _ _ => ⟨rfl, e5, (Nat.le_of_ble_eq_true rfl), (Nat.le_of_ble_eq_true rfl)⟩)
  dsimp only [Pt.U, Pt.locs, Pt.cells, Pt.slots] at X6 l6 y6 z6 st6 hQ6
  subst l6 y6 z6
  obtain ⟨rfl, N6q, K6, F_status_c2, F_target_c2⟩ := hQ6
  have Nf := Fr.app Nf N6q
  have Ol := Ol.keep K6 (allS g_c2 all0)
  have E_c0 := E_c0.keep K6
  have F_status_c0 := F_status_c0.keep K6 (ninS ne_c0_c2 nin0)
  have F_target_c0 := F_target_c0.keep K6 (ninS ne_c0_c2 nin0)
  have E_c2 := E_c2.keep K6
  have Kp := Kp.trans K6 (allS (Or.inr sz_c2) all0)
  have Zs := Nat.le_trans Zs K6.1
  have szr := Nat.le_trans szr K6.1
  refine own_go (fun tQ kQ => st6.trans kQ) ?_
  show own_End p e below _ (T6.setTop (mkF m 41 #[.val (.int i0), .val (.int i1), .val (.int i2), .val (.int i3), .val (.int cn), .val (.ref c0), .val (.ref c1), .unset, .unset, .unset, .unset] [(.ref c2)]))
  refine own_go (fun tQ kQ => XS.astore X6.here hx rfl (hb hby at_41) rfl rfl (l' := #[.val (.int i0), .val (.int i1), .val (.int i2), .val (.int i3), .val (.int cn), .val (.ref c0), .val (.ref c1), .val (.ref c2), .unset, .unset, .unset]) rfl kQ) ?_
  show own_End p e below _ (T6.setTop (mkF m 43 #[.val (.int i0), .val (.int i1), .val (.int i2), .val (.int i3), .val (.int cn), .val (.ref c0), .val (.ref c1), .val (.ref c2), .unset, .unset, .unset] []))
  obtain ⟨T7, h7, X7, e7, E7, A7, D7, -, st7⟩ := newO X6 hx hZ hown (hw _ (List.mem_of_getElem? (i := 19) rfl)) (hw _ (List.mem_of_getElem? (i := 20) rfl)) (hw _ (List.mem_of_getElem? (i := 21) rfl)) rfl (g := (mkF m 43 #[.val (.int i0), .val (.int i1), .val (.int i2), .val (.int i3), .val (.int cn), .val (.ref c0), .val (.ref c1), .val (.ref c2), .unset, .unset, .unset] [])) rfl (hb hby at_43) (by decide) (by decide)
  obtain ⟨al, g7⟩ : ∃ z, z = T6.heap.size := ⟨_, rfl⟩
  rw [← g7] at A7 D7 st7
  have ne_c0_al : c0 ≠ al := Nat.ne_of_lt (Nat.lt_of_lt_of_le E_c0.lt (Nat.le_of_eq g7.symm))
  have g_al : n0 ≤ al := Nat.le_trans Zs (Nat.le_of_eq g7.symm)
  have sz_al : h0.size ≤ al := Nat.le_trans szr (Nat.le_of_eq g7.symm)
  have Ol := Ol.ext E7
  have E_c0 := E_c0.ext E7
  have F_status_c0 := F_status_c0.ext E7
  have F_target_c0 := F_target_c0.ext E7
  have Kp := Kp.ext E7
  have Zs := Nat.le_trans Zs E7.1
  have szr := Nat.le_trans szr E7.1
  have E_al := A7
  have F_modCount_al : Fld Z h7 al "java/util/AbstractList" "modCount" "I" (.int (0 : Int32)) := D7 (Or.inl (hw _ (List.mem_of_getElem? (i := 39) rfl))) (ty := .int) (by decide)
  have F_elementData_al : Fld Z h7 al "java/util/ArrayList" "elementData" "[Ljava/lang/Object;" .null := D7 (Or.inl (hw _ (List.mem_of_getElem? (i := 42) rfl))) (ty := (.array (.object "java/lang/Object"))) (by decide)
  have F_size_al : Fld Z h7 al "java/util/ArrayList" "size" "I" (.int (0 : Int32)) := D7 (Or.inl (hw _ (List.mem_of_getElem? (i := 66) rfl))) (ty := .int) (by decide)
  refine own_go (fun tQ kQ => st7 tQ kQ) ?_
  show own_End p e below _ (T7.setTop (mkF m 46 #[.val (.int i0), .val (.int i1), .val (.int i2), .val (.int i3), .val (.int cn), .val (.ref c0), .val (.ref c1), .val (.ref c2), .unset, .unset, .unset] [(.ref al)]))
  refine own_go (fun tQ kQ => XS.dup X7.here hx rfl (hb hby at_46) rfl rfl kQ) ?_
  show own_End p e below _ (T7.setTop (mkF m 47 #[.val (.int i0), .val (.int i1), .val (.int i2), .val (.int i3), .val (.int cn), .val (.ref c0), .val (.ref c1), .val (.ref c2), .unset, .unset, .unset] [(.ref al), (.ref al)]))
  obtain ⟨_, _, ⟨T8, L8, k8, n8⟩, -, X8, ⟨Lc8, hQ8, l8, y8, z8⟩, st8⟩ := X7.specialBack hx (y := (⟨"java/util/ArrayList", "<init>", "()V"⟩ : MethodName)) rfl hown (mvT hZ (hw _ (List.mem_of_getElem? (i := 22) rfl))) (mvT hZ (hw _ (List.mem_of_getElem? (i := 23) rfl))) (mvT hZ (hw _ (List.mem_of_getElem? (i := 24) rfl))) (by decide) (backOf (W := 1) (rmAlI l Z a0 hw [] al de h7 n0 Zs E_al F_modCount_al F_elementData_al F_size_al g_al Ol S_de) hZ (hw _ (List.mem_of_getElem? (i := 24) rfl)) (hw _ (List.mem_of_getElem? (i := 21) rfl)) (by decide) (by decide)) (g := (mkF m 47 #[.val (.int i0), .val (.int i1), .val (.int i2), .val (.int i3), .val (.int cn), .val (.ref c0), .val (.ref c1), .val (.ref c2), .unset, .unset, .unset] [(.ref al), (.ref al)])) rfl (by rw [hml]; rfl) (Steps.refl _) (a := al) (argsL := []) (rest := [(.ref al)]) (lenOf pd_2 rfl) rfl (by show 2 * 0 + _ ≤ _; exact Nat.le_of_eq rfl) (hb hby at_47) (fun _ _ => ⟨rfl, e7, (Nat.le_of_ble_eq_true rfl), (Nat.le_of_ble_eq_true rfl)⟩)
  dsimp only [Pt.U, Pt.locs, Pt.cells, Pt.slots] at X8 l8 y8 z8 st8 hQ8
  subst l8 y8 z8
  obtain ⟨rfl, N8q, K8, F_modCount_al, F_elementData_al, F_size_al⟩ := hQ8
  have Nf := Fr.app Nf N8q
  have Ol := Ol.keep K8 (allS g_al all0)
  have E_c0 := E_c0.keep K8
  have F_status_c0 := F_status_c0.keep K8 (ninS ne_c0_al nin0)
  have F_target_c0 := F_target_c0.keep K8 (ninS ne_c0_al nin0)
  have E_al := E_al.keep K8
  have Kp := Kp.trans K8 (allS (Or.inr sz_al) all0)
  have Zs := Nat.le_trans Zs K8.1
  have szr := Nat.le_trans szr K8.1
  refine own_go (fun tQ kQ => st8.trans kQ) ?_
  show own_End p e below _ (T8.setTop (mkF m 50 #[.val (.int i0), .val (.int i1), .val (.int i2), .val (.int i3), .val (.int cn), .val (.ref c0), .val (.ref c1), .val (.ref c2), .unset, .unset, .unset] [(.ref al)]))
  refine own_go (fun tQ kQ => XS.astore X8.here hx rfl (hb hby at_50) rfl rfl (l' := #[.val (.int i0), .val (.int i1), .val (.int i2), .val (.int i3), .val (.int cn), .val (.ref c0), .val (.ref c1), .val (.ref c2), .val (.ref al), .unset, .unset]) rfl kQ) ?_
  show own_End p e below _ (T8.setTop (mkF m 52 #[.val (.int i0), .val (.int i1), .val (.int i2), .val (.int i3), .val (.int cn), .val (.ref c0), .val (.ref c1), .val (.ref c2), .val (.ref al), .unset, .unset] []))
  refine own_go (fun tQ kQ => XS.aload X8.here hx rfl (hb hby at_52) rfl rfl kQ) ?_
  show own_End p e below _ (T8.setTop (mkF m 54 #[.val (.int i0), .val (.int i1), .val (.int i2), .val (.int i3), .val (.int cn), .val (.ref c0), .val (.ref c1), .val (.ref c2), .val (.ref al), .unset, .unset] [(.ref al)]))
  obtain ⟨T9, h9, X9, e9, E9, A9, D9, -, st9⟩ := newO X8 hx hZ hown (hw _ (List.mem_of_getElem? (i := 43) rfl)) (hw _ (List.mem_of_getElem? (i := 44) rfl)) (hw _ (List.mem_of_getElem? (i := 45) rfl)) rfl (g := (mkF m 54 #[.val (.int i0), .val (.int i1), .val (.int i2), .val (.int i3), .val (.int cn), .val (.ref c0), .val (.ref c1), .val (.ref c2), .val (.ref al), .unset, .unset] [(.ref al)])) rfl (hb hby at_54) (by decide) (by decide)
  obtain ⟨o0, g9⟩ : ∃ z, z = T8.heap.size := ⟨_, rfl⟩
  rw [← g9] at A9 D9 st9
  have ne_c0_o0 : c0 ≠ o0 := Nat.ne_of_lt (Nat.lt_of_lt_of_le E_c0.lt (Nat.le_of_eq g9.symm))
  have ne_al_o0 : al ≠ o0 := Nat.ne_of_lt (Nat.lt_of_lt_of_le E_al.lt (Nat.le_of_eq g9.symm))
  have g_o0 : n0 ≤ o0 := Nat.le_trans Zs (Nat.le_of_eq g9.symm)
  have sz_o0 : h0.size ≤ o0 := Nat.le_trans szr (Nat.le_of_eq g9.symm)
  have Ol := Ol.ext E9
  have E_c0 := E_c0.ext E9
  have F_status_c0 := F_status_c0.ext E9
  have F_target_c0 := F_target_c0.ext E9
  have E_al := E_al.ext E9
  have F_modCount_al := F_modCount_al.ext E9
  have F_elementData_al := F_elementData_al.ext E9
  have F_size_al := F_size_al.ext E9
  have Kp := Kp.ext E9
  have Zs := Nat.le_trans Zs E9.1
  have szr := Nat.le_trans szr E9.1
  have E_o0 := A9
  have F_match_o0 : Fld Z h9 o0 "com/example/resolvent/resolvent/resolution/Trial$Offer" "match" "Ljava/util/regex/Pattern;" .null := D9 (Or.inr (hw _ (List.mem_of_getElem? (i := 51) rfl))) (ty := (.object "java/util/regex/Pattern")) (by decide)
  have F_action_o0 : Fld Z h9 o0 "com/example/resolvent/resolvent/resolution/Trial$Offer" "action" "Lcom/example/resolvent/resolvent/resolution/CompiledAction;" .null := D9 (Or.inr (hw _ (List.mem_of_getElem? (i := 53) rfl))) (ty := (.object "com/example/resolvent/resolvent/resolution/CompiledAction")) (by decide)
  refine own_go (fun tQ kQ => st9 tQ kQ) ?_
  show own_End p e below _ (T9.setTop (mkF m 57 #[.val (.int i0), .val (.int i1), .val (.int i2), .val (.int i3), .val (.int cn), .val (.ref c0), .val (.ref c1), .val (.ref c2), .val (.ref al), .unset, .unset] [(.ref o0), (.ref al)]))
  refine own_go (fun tQ kQ => XS.dup X9.here hx rfl (hb hby at_57) rfl rfl kQ) ?_
  show own_End p e below _ (T9.setTop (mkF m 58 #[.val (.int i0), .val (.int i1), .val (.int i2), .val (.int i3), .val (.int cn), .val (.ref c0), .val (.ref c1), .val (.ref c2), .val (.ref al), .unset, .unset] [(.ref o0), (.ref o0), (.ref al)]))
  refine own_go (fun tQ kQ => XS.aconstNull X9.here hx rfl (hb hby at_58) kQ) ?_
  show own_End p e below _ (T9.setTop (mkF m 59 #[.val (.int i0), .val (.int i1), .val (.int i2), .val (.int i3), .val (.int cn), .val (.ref c0), .val (.ref c1), .val (.ref c2), .val (.ref al), .unset, .unset] [.null, (.ref o0), (.ref o0), (.ref al)]))
  refine own_go (fun tQ kQ => XS.aload X9.here hx rfl (hb hby at_59) rfl rfl kQ) ?_
  show own_End p e below _ (T9.setTop (mkF m 61 #[.val (.int i0), .val (.int i1), .val (.int i2), .val (.int i3), .val (.int cn), .val (.ref c0), .val (.ref c1), .val (.ref c2), .val (.ref al), .unset, .unset] [(.ref c0), .null, (.ref o0), (.ref o0), (.ref al)]))
  obtain ⟨_, _, ⟨T10, L10, k10, n10⟩, -, X10, ⟨Lc10, hQ10, l10, y10, z10⟩, st10⟩ := X9.specialBack hx (y := (⟨"com/example/resolvent/resolvent/resolution/Trial$Offer", "<init>", "(Ljava/util/regex/Pattern;Lcom/example/resolvent/resolvent/resolution/CompiledAction;)V"⟩ : MethodName)) rfl hown (mvT hZ (hw _ (List.mem_of_getElem? (i := 46) rfl))) (mvT hZ (hw _ (List.mem_of_getElem? (i := 47) rfl))) (mvT hZ (hw _ (List.mem_of_getElem? (i := 48) rfl))) (by decide) (backOf (W := 2) (rmOF l Z a0 hw [] o0 c0 h9 n0 Zs E_o0 F_match_o0 F_action_o0 g_o0) hZ (hw _ (List.mem_of_getElem? (i := 48) rfl)) (hw _ (List.mem_of_getElem? (i := 45) rfl)) (by decide) (by decide)) (g := (mkF m 61 #[.val (.int i0), .val (.int i1), .val (.int i2), .val (.int i3), .val (.int cn), .val (.ref c0), .val (.ref c1), .val (.ref c2), .val (.ref al), .unset, .unset] [(.ref c0), .null, (.ref o0), (.ref o0), (.ref al)])) rfl (by rw [hml]; rfl) (Steps.refl _) (a := o0) (argsL := [.null, (.ref c0)]) (rest := [(.ref o0), (.ref al)]) (lenOf pd_18 rfl) rfl (by show 2 * 0 + _ ≤ _; exact Nat.le_of_eq rfl) (hb hby at_61) (fun _ _ => ⟨rfl, e9, (Nat.le_of_ble_eq_true rfl), (Nat.le_of_ble_eq_true rfl)⟩)
  dsimp only [Pt.U, Pt.locs, Pt.cells, Pt.slots] at X10 l10 y10 z10 st10 hQ10
  subst l10 y10 z10
  obtain ⟨rfl, N10q, K10, F_match_o0, F_action_o0⟩ := hQ10
  have Nf := Fr.app Nf N10q
  have Ol := Ol.keep K10 (allS g_o0 all0)
  have E_c0 := E_c0.keep K10
  have F_status_c0 := F_status_c0.keep K10 (ninS ne_c0_o0 nin0)
  have F_target_c0 := F_target_c0.keep K10 (ninS ne_c0_o0 nin0)
  have E_al := E_al.keep K10
  have F_modCount_al := F_modCount_al.keep K10 (ninS ne_al_o0 nin0)
  have F_elementData_al := F_elementData_al.keep K10 (ninS ne_al_o0 nin0)
  have F_size_al := F_size_al.keep K10 (ninS ne_al_o0 nin0)
  have E_o0 := E_o0.keep K10
  have Kp := Kp.trans K10 (allS (Or.inr sz_o0) all0)
  have Zs := Nat.le_trans Zs K10.1
  have szr := Nat.le_trans szr K10.1
  refine own_go (fun tQ kQ => st10.trans kQ) ?_
  show own_End p e below _ (T10.setTop (mkF m 64 #[.val (.int i0), .val (.int i1), .val (.int i2), .val (.int i3), .val (.int cn), .val (.ref c0), .val (.ref c1), .val (.ref c2), .val (.ref al), .unset, .unset] [(.ref o0), (.ref al)]))
  obtain ⟨cq11, kq11, q11a, q11b, q11c⟩ := isOf hZ rfl E_al
  obtain ⟨_, _, ⟨T11, L11, k11, n11⟩, -, X11, ⟨Lc11, hQ11, l11, y11, z11⟩, st11⟩ := X10.interfaceBack hx (xi := (⟨"java/util/List", "add", "(Ljava/lang/Object;)Z"⟩ : MethodName)) (y := (⟨"java/util/ArrayList", "add", "(Ljava/lang/Object;)Z"⟩ : MethodName)) hown (mvT hZ (hw _ (List.mem_of_getElem? (i := 54) rfl))) (mvT hZ (hw _ (List.mem_of_getElem? (i := 55) rfl))) (mvT hZ (hw _ (List.mem_of_getElem? (i := 56) rfl))) (mvT hZ (hw _ (List.mem_of_getElem? (i := 57) rfl))) (mvT hZ (hw _ (List.mem_of_getElem? (i := 58) rfl))) (mvT hZ (hw _ (List.mem_of_getElem? (i := 59) rfl))) (mvT hZ (hw _ (List.mem_of_getElem? (i := 60) rfl))) (mvT hZ (hw _ (List.mem_of_getElem? (i := 61) rfl))) (by decide) (backOf (W := 0) (rma1 l Z a0 hw [] al de fd (0 : Int32) o0 T10.heap n0 Zs E_al F_modCount_al F_elementData_al F_size_al g_al Ol S_de V_de E_o0) hZ (hw _ (List.mem_of_getElem? (i := 62) rfl)) (hw _ (List.mem_of_getElem? (i := 21) rfl)) (by decide) (by decide)) q11a q11b q11c (g := (mkF m 64 #[.val (.int i0), .val (.int i1), .val (.int i2), .val (.int i3), .val (.int cn), .val (.ref c0), .val (.ref c1), .val (.ref c2), .val (.ref al), .unset, .unset] [(.ref o0), (.ref al)])) rfl (by rw [hml]; rfl) (Steps.refl _) (argsL := [(.ref o0)]) (rest := []) (lenOf pd_19 rfl) rfl (by show 2 * 0 + _ ≤ _; exact Nat.le_of_eq rfl) (hb hby at_64) (fun _ _ => ⟨rfl, rfl, (Nat.le_of_ble_eq_true rfl), (Nat.le_of_ble_eq_true rfl)⟩)
  dsimp only [Pt.U, Pt.locs, Pt.cells, Pt.slots] at X11 l11 y11 z11 st11 hQ11
  subst l11 y11 z11
  obtain ⟨b, rfl, N11q, K11, hb11, F_modCount_al, F_elementData_al, F_size_al, V_b⟩ := hQ11
  have Nf := Fr.app Nf N11q
  have ne_c0_b : c0 ≠ b := Nat.ne_of_lt (Nat.lt_of_lt_of_le E_c0.lt hb11)
  have ne_al_b : al ≠ b := Nat.ne_of_lt (Nat.lt_of_lt_of_le E_al.lt hb11)
  have ne_o0_b : o0 ≠ b := Nat.ne_of_lt (Nat.lt_of_lt_of_le E_o0.lt hb11)
  have g_b : n0 ≤ b := Nat.le_trans Zs hb11
  have sz_b : h0.size ≤ b := Nat.le_trans szr hb11
  have Ol := Ol.keep K11 (allS g_al all0)
  have E_c0 := E_c0.keep K11
  have F_status_c0 := F_status_c0.keep K11 (ninS ne_c0_al nin0)
  have F_target_c0 := F_target_c0.keep K11 (ninS ne_c0_al nin0)
  have E_al := E_al.keep K11
  have E_o0 := E_o0.keep K11
  have F_match_o0 := F_match_o0.keep K11 (ninS (Ne.symm ne_al_o0) nin0)
  have F_action_o0 := F_action_o0.keep K11 (ninS (Ne.symm ne_al_o0) nin0)
  have Kp := Kp.trans K11 (allS (Or.inr sz_al) all0)
  have Zs := Nat.le_trans Zs K11.1
  have szr := Nat.le_trans szr K11.1
  refine own_go (fun tQ kQ => st11.trans kQ) ?_
  show own_End p e below _ (T11.setTop (mkF m 69 #[.val (.int i0), .val (.int i1), .val (.int i2), .val (.int i3), .val (.int cn), .val (.ref c0), .val (.ref c1), .val (.ref c2), .val (.ref al), .unset, .unset] [(.int (1 : Int32))]))
  refine own_go (fun tQ kQ => XS.pop X11.here hx rfl (hb hby at_69) rfl rfl kQ) ?_
  show own_End p e below _ (T11.setTop (mkF m 70 #[.val (.int i0), .val (.int i1), .val (.int i2), .val (.int i3), .val (.int cn), .val (.ref c0), .val (.ref c1), .val (.ref c2), .val (.ref al), .unset, .unset] []))
  have J118_6_21 : ∀ (mc : Int32) (k : Int32) (ff : Nat → Value) (T : State) (locs : List Loc) (h : Heap) (X : Stand p l e room_1 s m #[(.int i0), (.int i1), (.int i2), (.int i3)] below meth c T locs 6 21) (eT : T.heap = h) (Nf : Fr n0 locs) (Zs : n0 ≤ h.size) (Kp : Keep h0 h []) (szr : h0.size ≤ h.size) (E_c0 : Exa Z h c0 "com/example/resolvent/resolvent/resolution/CompiledAction") (F_status_c0 : Fld Z h c0 "com/example/resolvent/resolvent/resolution/CompiledAction" "status" "I" (.int i0)) (E_o0 : Exa Z h o0 "com/example/resolvent/resolvent/resolution/Trial$Offer") (F_action_o0 : Fld Z h o0 "com/example/resolvent/resolvent/resolution/Trial$Offer" "action" "Lcom/example/resolvent/resolvent/resolution/CompiledAction;" (.ref c0)) (E_al : Exa Z h al "java/util/ArrayList") (F_modCount_al : Fld Z h al "java/util/AbstractList" "modCount" "I" (.int mc)) (F_elementData_al : Fld Z h al "java/util/ArrayList" "elementData" "[Ljava/lang/Object;" (.ref b)) (F_size_al : Fld Z h al "java/util/ArrayList" "size" "I" (.int k)) (V_b : own_Rr Z h b "java/lang/Object" (10 : Int32) (ff)) (hk : (0 : Int32) < k) (hf : ff 0 = .ref o0) (hkc : k = cn), own_End p e below (P0 Z i0 i1 i2 i3 de fd h0 n0 s) (T.setTop (mkF m 118 #[.val (.int i0), .val (.int i1), .val (.int i2), .val (.int i3), .val (.int cn), .val (.ref c0), .val (.ref c1), .val (.ref c2), .val (.ref al), .unset, .unset] [])) := by
    intro mc k ff T locs h X eT Nf Zs Kp szr E_c0 F_status_c0 E_o0 F_action_o0 E_al F_modCount_al F_elementData_al F_size_al V_b hk hf hkc
    obtain ⟨T12, h12, X12, e12, E12, A12, D12, -, st12⟩ := newO X hx hZ hown (hw _ (List.mem_of_getElem? (i := 89) rfl)) (hw _ (List.mem_of_getElem? (i := 90) rfl)) (hw _ (List.mem_of_getElem? (i := 91) rfl)) eT (g := (mkF m 118 #[.val (.int i0), .val (.int i1), .val (.int i2), .val (.int i3), .val (.int cn), .val (.ref c0), .val (.ref c1), .val (.ref c2), .val (.ref al), .unset, .unset] [])) rfl (hb hby at_118) (by decide) (by decide)
    obtain ⟨ng, g12⟩ : ∃ z, z = h.size := ⟨_, rfl⟩
    rw [← g12] at A12 D12 st12
    have ne_c0_ng : c0 ≠ ng := Nat.ne_of_lt (Nat.lt_of_lt_of_le E_c0.lt (Nat.le_of_eq g12.symm))
    have ne_o0_ng : o0 ≠ ng := Nat.ne_of_lt (Nat.lt_of_lt_of_le E_o0.lt (Nat.le_of_eq g12.symm))
    have ne_al_ng : al ≠ ng := Nat.ne_of_lt (Nat.lt_of_lt_of_le E_al.lt (Nat.le_of_eq g12.symm))
    have ne_b_ng : b ≠ ng := Nat.ne_of_lt (Nat.lt_of_lt_of_le V_b.lt (Nat.le_of_eq g12.symm))
    have g_ng : n0 ≤ ng := Nat.le_trans Zs (Nat.le_of_eq g12.symm)
    have sz_ng : h0.size ≤ ng := Nat.le_trans szr (Nat.le_of_eq g12.symm)
    have E_c0 := E_c0.ext E12
    have F_status_c0 := F_status_c0.ext E12
    have E_o0 := E_o0.ext E12
    have F_action_o0 := F_action_o0.ext E12
    have E_al := E_al.ext E12
    have F_modCount_al := F_modCount_al.ext E12
    have F_elementData_al := F_elementData_al.ext E12
    have F_size_al := F_size_al.ext E12
    have V_b := V_b.ext E12
    have Kp := Kp.ext E12
    have Zs := Nat.le_trans Zs E12.1
    have szr := Nat.le_trans szr E12.1
    have E_ng := A12
    have F_offers_ng : Fld Z h12 ng "com/example/resolvent/resolvent/resolution/Trial$Negotiation" "offers" "Ljava/util/List;" .null := D12 (Or.inr (hw _ (List.mem_of_getElem? (i := 97) rfl))) (ty := (.object "java/util/List")) (by decide)
    refine own_go (fun tQ kQ => st12 tQ kQ) ?_
    show own_End p e below _ (T12.setTop (mkF m 121 #[.val (.int i0), .val (.int i1), .val (.int i2), .val (.int i3), .val (.int cn), .val (.ref c0), .val (.ref c1), .val (.ref c2), .val (.ref al), .unset, .unset] [(.ref ng)]))
    refine own_go (fun tQ kQ => XS.dup X12.here hx rfl (hb hby at_121) rfl rfl kQ) ?_
    show own_End p e below _ (T12.setTop (mkF m 122 #[.val (.int i0), .val (.int i1), .val (.int i2), .val (.int i3), .val (.int cn), .val (.ref c0), .val (.ref c1), .val (.ref c2), .val (.ref al), .unset, .unset] [(.ref ng), (.ref ng)]))
    refine own_go (fun tQ kQ => XS.aload X12.here hx rfl (hb hby at_122) rfl rfl kQ) ?_
    show own_End p e below _ (T12.setTop (mkF m 124 #[.val (.int i0), .val (.int i1), .val (.int i2), .val (.int i3), .val (.int cn), .val (.ref c0), .val (.ref c1), .val (.ref c2), .val (.ref al), .unset, .unset] [(.ref al), (.ref ng), (.ref ng)]))
    obtain ⟨_, _, ⟨T13, L13, k13, n13⟩, -, X13, ⟨Lc13, hQ13, l13, y13, z13⟩, st13⟩ := X12.specialBack hx (y := (⟨"com/example/resolvent/resolvent/resolution/Trial$Negotiation", "<init>", "(Ljava/util/List;)V"⟩ : MethodName)) rfl hown (mvT hZ (hw _ (List.mem_of_getElem? (i := 92) rfl))) (mvT hZ (hw _ (List.mem_of_getElem? (i := 93) rfl))) (mvT hZ (hw _ (List.mem_of_getElem? (i := 94) rfl))) (by decide) (backOf (W := 1) (rmNG l Z a0 hw [] ng al h12 n0 Zs E_ng F_offers_ng g_ng) hZ (hw _ (List.mem_of_getElem? (i := 94) rfl)) (hw _ (List.mem_of_getElem? (i := 91) rfl)) (by decide) (by decide)) (g := (mkF m 124 #[.val (.int i0), .val (.int i1), .val (.int i2), .val (.int i3), .val (.int cn), .val (.ref c0), .val (.ref c1), .val (.ref c2), .val (.ref al), .unset, .unset] [(.ref al), (.ref ng), (.ref ng)])) rfl (by rw [hml]; rfl) (Steps.refl _) (a := ng) (argsL := [(.ref al)]) (rest := [(.ref ng)]) (lenOf pd_20 rfl) rfl (by show 2 * 0 + _ ≤ _; exact Nat.le_of_eq rfl) (hb hby at_124) (fun _ _ => ⟨rfl, e12, (Nat.le_of_ble_eq_true rfl), (Nat.le_of_ble_eq_true rfl)⟩)
    dsimp only [Pt.U, Pt.locs, Pt.cells, Pt.slots] at X13 l13 y13 z13 st13 hQ13
    subst l13 y13 z13
    obtain ⟨rfl, N13q, K13, F_offers_ng⟩ := hQ13
    have Nf := Fr.app Nf N13q
    have E_c0 := E_c0.keep K13
    have F_status_c0 := F_status_c0.keep K13 (ninS ne_c0_ng nin0)
    have E_o0 := E_o0.keep K13
    have F_action_o0 := F_action_o0.keep K13 (ninS ne_o0_ng nin0)
    have E_al := E_al.keep K13
    have F_modCount_al := F_modCount_al.keep K13 (ninS ne_al_ng nin0)
    have F_elementData_al := F_elementData_al.keep K13 (ninS ne_al_ng nin0)
    have F_size_al := F_size_al.keep K13 (ninS ne_al_ng nin0)
    have V_b := V_b.keep K13 (ninS ne_b_ng nin0)
    have E_ng := E_ng.keep K13
    have Kp := Kp.trans K13 (allS (Or.inr sz_ng) all0)
    have Zs := Nat.le_trans Zs K13.1
    have szr := Nat.le_trans szr K13.1
    refine own_go (fun tQ kQ => st13.trans kQ) ?_
    show own_End p e below _ (T13.setTop (mkF m 127 #[.val (.int i0), .val (.int i1), .val (.int i2), .val (.int i3), .val (.int cn), .val (.ref c0), .val (.ref c1), .val (.ref c2), .val (.ref al), .unset, .unset] [(.ref ng)]))
    refine own_go (fun tQ kQ => XS.astore X13.here hx rfl (hb hby at_127) rfl rfl (l' := #[.val (.int i0), .val (.int i1), .val (.int i2), .val (.int i3), .val (.int cn), .val (.ref c0), .val (.ref c1), .val (.ref c2), .val (.ref al), .val (.ref ng), .unset]) rfl kQ) ?_
    show own_End p e below _ (T13.setTop (mkF m 129 #[.val (.int i0), .val (.int i1), .val (.int i2), .val (.int i3), .val (.int cn), .val (.ref c0), .val (.ref c1), .val (.ref c2), .val (.ref al), .val (.ref ng), .unset] []))
    refine own_go (fun tQ kQ => XS.aload X13.here hx rfl (hb hby at_129) rfl rfl kQ) ?_
    show own_End p e below _ (T13.setTop (mkF m 131 #[.val (.int i0), .val (.int i1), .val (.int i2), .val (.int i3), .val (.int cn), .val (.ref c0), .val (.ref c1), .val (.ref c2), .val (.ref al), .val (.ref ng), .unset] [(.ref ng)]))
    obtain ⟨cq14, kq14, q14a, q14b, q14c⟩ := isOf hZ rfl E_ng
    obtain ⟨_, _, ⟨T14, L14, k14, n14⟩, -, X14, ⟨Lc14, hQ14, l14, y14, z14⟩, st14⟩ := X13.virtualBack hx (y := (⟨"com/example/resolvent/resolvent/resolution/Trial$Negotiation", "offered", "()Lcom/example/resolvent/resolvent/resolution/CompiledAction;"⟩ : MethodName)) (z := (⟨"com/example/resolvent/resolvent/resolution/Trial$Negotiation", "offered", "()Lcom/example/resolvent/resolvent/resolution/CompiledAction;"⟩ : MethodName)) hown (mvT hZ (hw _ (List.mem_of_getElem? (i := 98) rfl))) (mvT hZ (hw _ (List.mem_of_getElem? (i := 99) rfl))) (notFace_of_selects (args := #[]) (mvT hZ (hw _ (List.mem_of_getElem? (i := 101) rfl)))) (mvT hZ (hw _ (List.mem_of_getElem? (i := 101) rfl))) (mvT hZ (hw _ (List.mem_of_getElem? (i := 100) rfl))) (by decide) (backOf (W := 0) (rmoff l Z a0 hw [] ng al b ff mc k o0 c0 T13.heap n0 Zs F_offers_ng E_al F_modCount_al F_elementData_al F_size_al V_b hk hf E_o0 F_action_o0) hZ (hw _ (List.mem_of_getElem? (i := 102) rfl)) (hw _ (List.mem_of_getElem? (i := 91) rfl)) (by decide) (by decide)) q14a q14c (g := (mkF m 131 #[.val (.int i0), .val (.int i1), .val (.int i2), .val (.int i3), .val (.int cn), .val (.ref c0), .val (.ref c1), .val (.ref c2), .val (.ref al), .val (.ref ng), .unset] [(.ref ng)])) rfl (by rw [hml]; rfl) (Steps.refl _) (argsL := []) (rest := []) (lenOf pd_16 rfl) rfl (by show 2 * 0 + _ ≤ _; exact Nat.le_of_eq rfl) (hb hby at_131) (fun _ _ => ⟨rfl, rfl, (Nat.le_of_ble_eq_true rfl), (Nat.le_of_ble_eq_true rfl)⟩)
    dsimp only [Pt.U, Pt.locs, Pt.cells, Pt.slots] at X14 l14 y14 z14 st14 hQ14
    subst l14 y14 z14
    obtain ⟨rfl, N14q, e14⟩ := hQ14
    have Nf := Fr.app Nf N14q
    refine own_go (fun tQ kQ => st14.trans kQ) ?_
    show own_End p e below _ (T14.setTop (mkF m 134 #[.val (.int i0), .val (.int i1), .val (.int i2), .val (.int i3), .val (.int cn), .val (.ref c0), .val (.ref c1), .val (.ref c2), .val (.ref al), .val (.ref ng), .unset] [(.ref c0)]))
    refine own_go (fun tQ kQ => XS.astore X14.here hx rfl (hb hby at_134) rfl rfl (l' := #[.val (.int i0), .val (.int i1), .val (.int i2), .val (.int i3), .val (.int cn), .val (.ref c0), .val (.ref c1), .val (.ref c2), .val (.ref al), .val (.ref ng), .val (.ref c0)]) rfl kQ) ?_
    show own_End p e below _ (T14.setTop (mkF m 136 #[.val (.int i0), .val (.int i1), .val (.int i2), .val (.int i3), .val (.int cn), .val (.ref c0), .val (.ref c1), .val (.ref c2), .val (.ref al), .val (.ref ng), .val (.ref c0)] []))
    refine own_go (fun tQ kQ => XS.aload X14.here hx rfl (hb hby at_136) rfl rfl kQ) ?_
    show own_End p e below _ (T14.setTop (mkF m 138 #[.val (.int i0), .val (.int i1), .val (.int i2), .val (.int i3), .val (.int cn), .val (.ref c0), .val (.ref c1), .val (.ref c2), .val (.ref al), .val (.ref ng), .val (.ref c0)] [(.ref c0)]))
    refine own_go (fun tQ kQ => XS.aload X14.here hx rfl (hb hby at_138) rfl rfl kQ) ?_
    show own_End p e below _ (T14.setTop (mkF m 140 #[.val (.int i0), .val (.int i1), .val (.int i2), .val (.int i3), .val (.int cn), .val (.ref c0), .val (.ref c1), .val (.ref c2), .val (.ref al), .val (.ref ng), .val (.ref c0)] [(.ref c0), (.ref c0)]))
    refine own_go (fun tQ kQ => Jvm.RoadKit.acmp (g := (mkF m 140 #[.val (.int i0), .val (.int i1), .val (.int i2), .val (.int i3), .val (.int cn), .val (.ref c0), .val (.ref c1), .val (.ref c2), .val (.ref al), .val (.ref ng), .val (.ref c0)] [(.ref c0), (.ref c0)])) X14 hx rfl rfl rfl (pc0 := 140) (pc' := 143) (same := true) rfl (hb hby at_140) rfl (decide_eq_true rfl) (by decide) (by decide) kQ) ?_
    show own_End p e below _ (T14.setTop (mkF m 143 #[.val (.int i0), .val (.int i1), .val (.int i2), .val (.int i3), .val (.int cn), .val (.ref c0), .val (.ref c1), .val (.ref c2), .val (.ref al), .val (.ref ng), .val (.ref c0)] []))
    refine own_go (fun tQ kQ => XS.aload X14.here hx rfl (hb hby at_143) rfl rfl kQ) ?_
    show own_End p e below _ (T14.setTop (mkF m 145 #[.val (.int i0), .val (.int i1), .val (.int i2), .val (.int i3), .val (.int cn), .val (.ref c0), .val (.ref c1), .val (.ref c2), .val (.ref al), .val (.ref ng), .val (.ref c0)] [(.ref c0)]))
    obtain ⟨cq15, kq15, q15a, q15b, q15c⟩ := isOf hZ e14 E_c0
    obtain ⟨_, _, ⟨T15, L15, k15, n15⟩, -, X15, ⟨Lc15, hQ15, l15, y15, z15⟩, st15⟩ := X14.virtualBack hx (y := (⟨"com/example/resolvent/resolvent/resolution/CompiledAction", "status", "()I"⟩ : MethodName)) (z := (⟨"com/example/resolvent/resolvent/resolution/CompiledAction", "status", "()I"⟩ : MethodName)) hown (mvT hZ (hw _ (List.mem_of_getElem? (i := 131) rfl))) (mvT hZ (hw _ (List.mem_of_getElem? (i := 132) rfl))) (notFace_of_selects (args := #[]) (mvT hZ (hw _ (List.mem_of_getElem? (i := 134) rfl)))) (mvT hZ (hw _ (List.mem_of_getElem? (i := 134) rfl))) (mvT hZ (hw _ (List.mem_of_getElem? (i := 133) rfl))) (by decide) (backOf (W := 0) (rmst l Z a0 hw [] c0 i0 T13.heap n0 Zs F_status_c0) hZ (hw _ (List.mem_of_getElem? (i := 135) rfl)) (hw _ (List.mem_of_getElem? (i := 3) rfl)) (by decide) (by decide)) q15a q15c (g := (mkF m 145 #[.val (.int i0), .val (.int i1), .val (.int i2), .val (.int i3), .val (.int cn), .val (.ref c0), .val (.ref c1), .val (.ref c2), .val (.ref al), .val (.ref ng), .val (.ref c0)] [(.ref c0)])) rfl (by rw [hml]; rfl) (Steps.refl _) (argsL := []) (rest := []) (lenOf pd_21 rfl) rfl (by show 2 * 0 + _ ≤ _; exact Nat.le_of_eq rfl) (hb hby at_145) (fun _ _ => ⟨rfl, e14, (Nat.le_of_ble_eq_true rfl), (Nat.le_of_ble_eq_true rfl)⟩)
    dsimp only [Pt.U, Pt.locs, Pt.cells, Pt.slots] at X15 l15 y15 z15 st15 hQ15
    subst l15 y15 z15
    obtain ⟨rfl, N15q, e15⟩ := hQ15
    have Nf := Fr.app Nf N15q
    refine own_go (fun tQ kQ => st15.trans kQ) ?_
    show own_End p e below _ (T15.setTop (mkF m 148 #[.val (.int i0), .val (.int i1), .val (.int i2), .val (.int i3), .val (.int cn), .val (.ref c0), .val (.ref c1), .val (.ref c2), .val (.ref al), .val (.ref ng), .val (.ref c0)] [(.int i0)]))
    refine own_go (fun tQ kQ => XS.iloadN X15.here hx rfl (hb hby at_148) rfl kQ) ?_
    show own_End p e below _ (T15.setTop (mkF m 149 #[.val (.int i0), .val (.int i1), .val (.int i2), .val (.int i3), .val (.int cn), .val (.ref c0), .val (.ref c1), .val (.ref c2), .val (.ref al), .val (.ref ng), .val (.ref c0)] [(.int i0), (.int i0)]))
    refine own_go (fun tQ kQ => XS.icmpNo X15.here hx rfl (hb hby at_149) rfl (teq (rfl : i0 = i0)).2 kQ) ?_
    show own_End p e below _ (T15.setTop (mkF m 152 #[.val (.int i0), .val (.int i1), .val (.int i2), .val (.int i3), .val (.int cn), .val (.ref c0), .val (.ref c1), .val (.ref c2), .val (.ref al), .val (.ref ng), .val (.ref c0)] []))
    refine own_go (fun tQ kQ => XS.aload X15.here hx rfl (hb hby at_152) rfl rfl kQ) ?_
    show own_End p e below _ (T15.setTop (mkF m 154 #[.val (.int i0), .val (.int i1), .val (.int i2), .val (.int i3), .val (.int cn), .val (.ref c0), .val (.ref c1), .val (.ref c2), .val (.ref al), .val (.ref ng), .val (.ref c0)] [(.ref al)]))
    obtain ⟨cq16, kq16, q16a, q16b, q16c⟩ := isOf hZ e15 E_al
    obtain ⟨_, _, ⟨T16, L16, k16, n16⟩, -, X16, ⟨Lc16, hQ16, l16, y16, z16⟩, st16⟩ := X15.interfaceBack hx (xi := (⟨"java/util/List", "size", "()I"⟩ : MethodName)) (y := (⟨"java/util/ArrayList", "size", "()I"⟩ : MethodName)) hown (mvT hZ (hw _ (List.mem_of_getElem? (i := 136) rfl))) (mvT hZ (hw _ (List.mem_of_getElem? (i := 137) rfl))) (mvT hZ (hw _ (List.mem_of_getElem? (i := 138) rfl))) (mvT hZ (hw _ (List.mem_of_getElem? (i := 139) rfl))) (mvT hZ (hw _ (List.mem_of_getElem? (i := 140) rfl))) (mvT hZ (hw _ (List.mem_of_getElem? (i := 141) rfl))) (mvT hZ (hw _ (List.mem_of_getElem? (i := 142) rfl))) (mvT hZ (hw _ (List.mem_of_getElem? (i := 61) rfl))) (by decide) (backOf (W := 0) (rmsz l Z a0 hw [] al k T13.heap n0 Zs F_size_al) hZ (hw _ (List.mem_of_getElem? (i := 143) rfl)) (hw _ (List.mem_of_getElem? (i := 21) rfl)) (by decide) (by decide)) q16a q16b q16c (g := (mkF m 154 #[.val (.int i0), .val (.int i1), .val (.int i2), .val (.int i3), .val (.int cn), .val (.ref c0), .val (.ref c1), .val (.ref c2), .val (.ref al), .val (.ref ng), .val (.ref c0)] [(.ref al)])) rfl (by rw [hml]; rfl) (Steps.refl _) (argsL := []) (rest := []) (lenOf pd_21 rfl) rfl (by show 2 * 0 + _ ≤ _; exact Nat.le_of_eq rfl) (hb hby at_154) (fun _ _ => ⟨rfl, e15, (Nat.le_of_ble_eq_true rfl), (Nat.le_of_ble_eq_true rfl)⟩)
    dsimp only [Pt.U, Pt.locs, Pt.cells, Pt.slots] at X16 l16 y16 z16 st16 hQ16
    subst l16 y16 z16
    obtain ⟨rfl, N16q, e16⟩ := hQ16
    have Nf := Fr.app Nf N16q
    refine own_go (fun tQ kQ => st16.trans kQ) ?_
    show own_End p e below _ (T16.setTop (mkF m 159 #[.val (.int i0), .val (.int i1), .val (.int i2), .val (.int i3), .val (.int cn), .val (.ref c0), .val (.ref c1), .val (.ref c2), .val (.ref al), .val (.ref ng), .val (.ref c0)] [(.int k)]))
    refine own_go (fun tQ kQ => XS.iload X16.here hx rfl (hb hby at_159) rfl kQ) ?_
    show own_End p e below _ (T16.setTop (mkF m 161 #[.val (.int i0), .val (.int i1), .val (.int i2), .val (.int i3), .val (.int cn), .val (.ref c0), .val (.ref c1), .val (.ref c2), .val (.ref al), .val (.ref ng), .val (.ref c0)] [(.int cn), (.int k)]))
    refine own_go (fun tQ kQ => XS.icmpNo X16.here hx rfl (hb hby at_161) rfl (teq hkc).2 kQ) ?_
    show own_End p e below _ (T16.setTop (mkF m 164 #[.val (.int i0), .val (.int i1), .val (.int i2), .val (.int i3), .val (.int cn), .val (.ref c0), .val (.ref c1), .val (.ref c2), .val (.ref al), .val (.ref ng), .val (.ref c0)] []))
    refine own_go (fun tQ kQ => XS.iconst X16.here hx rfl (hb hby at_164) kQ) ?_
    show own_End p e below _ (T16.setTop (mkF m 165 #[.val (.int i0), .val (.int i1), .val (.int i2), .val (.int i3), .val (.int cn), .val (.ref c0), .val (.ref c1), .val (.ref c2), .val (.ref al), .val (.ref ng), .val (.ref c0)] [(.int (1 : Int32))]))
    refine own_go (fun tQ kQ => XS.goto X16.here hx rfl (pc0 := 165) (pc' := 169) rfl (hb hby at_165) (by decide) (by decide) kQ) ?_
    show own_End p e below _ (T16.setTop (mkF m 169 #[.val (.int i0), .val (.int i1), .val (.int i2), .val (.int i3), .val (.int cn), .val (.ref c0), .val (.ref c1), .val (.ref c2), .val (.ref al), .val (.ref ng), .val (.ref c0)] [(.int (1 : Int32))]))
    obtain ⟨fs, hr, hrun, hended, hW, hsame⟩ := X16.leave (v := some (.int (1 : Int32))) (fun h => by rw [Bd.returns] at h; cases h)
    refine ⟨_, _, (retN X16 hx (t := .boolean) Bd.returns (by simp) (hb hby at_169) hr), hrun, hended, _, _, rfl, ?_, ⟨_, rfl⟩, hW, hsame.mono (by decide) (by decide)⟩
    show Q0 Z i0 i1 i2 i3 de fd h0 n0 _ T16.heap _
    rw [e16]
    exact ⟨rfl, Nf⟩
  have J118_7_23 : ∀ (mc : Int32) (k : Int32) (ff : Nat → Value) (T : State) (locs : List Loc) (h : Heap) (X : Stand p l e room_1 s m #[(.int i0), (.int i1), (.int i2), (.int i3)] below meth c T locs 7 23) (eT : T.heap = h) (Nf : Fr n0 locs) (Zs : n0 ≤ h.size) (Kp : Keep h0 h []) (szr : h0.size ≤ h.size) (E_c0 : Exa Z h c0 "com/example/resolvent/resolvent/resolution/CompiledAction") (F_status_c0 : Fld Z h c0 "com/example/resolvent/resolvent/resolution/CompiledAction" "status" "I" (.int i0)) (E_o0 : Exa Z h o0 "com/example/resolvent/resolvent/resolution/Trial$Offer") (F_action_o0 : Fld Z h o0 "com/example/resolvent/resolvent/resolution/Trial$Offer" "action" "Lcom/example/resolvent/resolvent/resolution/CompiledAction;" (.ref c0)) (E_al : Exa Z h al "java/util/ArrayList") (F_modCount_al : Fld Z h al "java/util/AbstractList" "modCount" "I" (.int mc)) (F_elementData_al : Fld Z h al "java/util/ArrayList" "elementData" "[Ljava/lang/Object;" (.ref b)) (F_size_al : Fld Z h al "java/util/ArrayList" "size" "I" (.int k)) (V_b : own_Rr Z h b "java/lang/Object" (10 : Int32) (ff)) (hk : (0 : Int32) < k) (hf : ff 0 = .ref o0) (hkc : k = cn), own_End p e below (P0 Z i0 i1 i2 i3 de fd h0 n0 s) (T.setTop (mkF m 118 #[.val (.int i0), .val (.int i1), .val (.int i2), .val (.int i3), .val (.int cn), .val (.ref c0), .val (.ref c1), .val (.ref c2), .val (.ref al), .unset, .unset] [])) := by
    intro mc k ff T locs h X eT Nf Zs Kp szr E_c0 F_status_c0 E_o0 F_action_o0 E_al F_modCount_al F_elementData_al F_size_al V_b hk hf hkc
    obtain ⟨T17, h17, X17, e17, E17, A17, D17, -, st17⟩ := newO X hx hZ hown (hw _ (List.mem_of_getElem? (i := 89) rfl)) (hw _ (List.mem_of_getElem? (i := 90) rfl)) (hw _ (List.mem_of_getElem? (i := 91) rfl)) eT (g := (mkF m 118 #[.val (.int i0), .val (.int i1), .val (.int i2), .val (.int i3), .val (.int cn), .val (.ref c0), .val (.ref c1), .val (.ref c2), .val (.ref al), .unset, .unset] [])) rfl (hb hby at_118) (by decide) (by decide)
    obtain ⟨ng, g17⟩ : ∃ z, z = h.size := ⟨_, rfl⟩
    rw [← g17] at A17 D17 st17
    have ne_c0_ng : c0 ≠ ng := Nat.ne_of_lt (Nat.lt_of_lt_of_le E_c0.lt (Nat.le_of_eq g17.symm))
    have ne_o0_ng : o0 ≠ ng := Nat.ne_of_lt (Nat.lt_of_lt_of_le E_o0.lt (Nat.le_of_eq g17.symm))
    have ne_al_ng : al ≠ ng := Nat.ne_of_lt (Nat.lt_of_lt_of_le E_al.lt (Nat.le_of_eq g17.symm))
    have ne_b_ng : b ≠ ng := Nat.ne_of_lt (Nat.lt_of_lt_of_le V_b.lt (Nat.le_of_eq g17.symm))
    have g_ng : n0 ≤ ng := Nat.le_trans Zs (Nat.le_of_eq g17.symm)
    have sz_ng : h0.size ≤ ng := Nat.le_trans szr (Nat.le_of_eq g17.symm)
    have E_c0 := E_c0.ext E17
    have F_status_c0 := F_status_c0.ext E17
    have E_o0 := E_o0.ext E17
    have F_action_o0 := F_action_o0.ext E17
    have E_al := E_al.ext E17
    have F_modCount_al := F_modCount_al.ext E17
    have F_elementData_al := F_elementData_al.ext E17
    have F_size_al := F_size_al.ext E17
    have V_b := V_b.ext E17
    have Kp := Kp.ext E17
    have Zs := Nat.le_trans Zs E17.1
    have szr := Nat.le_trans szr E17.1
    have E_ng := A17
    have F_offers_ng : Fld Z h17 ng "com/example/resolvent/resolvent/resolution/Trial$Negotiation" "offers" "Ljava/util/List;" .null := D17 (Or.inr (hw _ (List.mem_of_getElem? (i := 97) rfl))) (ty := (.object "java/util/List")) (by decide)
    refine own_go (fun tQ kQ => st17 tQ kQ) ?_
    show own_End p e below _ (T17.setTop (mkF m 121 #[.val (.int i0), .val (.int i1), .val (.int i2), .val (.int i3), .val (.int cn), .val (.ref c0), .val (.ref c1), .val (.ref c2), .val (.ref al), .unset, .unset] [(.ref ng)]))
    refine own_go (fun tQ kQ => XS.dup X17.here hx rfl (hb hby at_121) rfl rfl kQ) ?_
    show own_End p e below _ (T17.setTop (mkF m 122 #[.val (.int i0), .val (.int i1), .val (.int i2), .val (.int i3), .val (.int cn), .val (.ref c0), .val (.ref c1), .val (.ref c2), .val (.ref al), .unset, .unset] [(.ref ng), (.ref ng)]))
    refine own_go (fun tQ kQ => XS.aload X17.here hx rfl (hb hby at_122) rfl rfl kQ) ?_
    show own_End p e below _ (T17.setTop (mkF m 124 #[.val (.int i0), .val (.int i1), .val (.int i2), .val (.int i3), .val (.int cn), .val (.ref c0), .val (.ref c1), .val (.ref c2), .val (.ref al), .unset, .unset] [(.ref al), (.ref ng), (.ref ng)]))
    obtain ⟨_, _, ⟨T18, L18, k18, n18⟩, -, X18, ⟨Lc18, hQ18, l18, y18, z18⟩, st18⟩ := X17.specialBack hx (y := (⟨"com/example/resolvent/resolvent/resolution/Trial$Negotiation", "<init>", "(Ljava/util/List;)V"⟩ : MethodName)) rfl hown (mvT hZ (hw _ (List.mem_of_getElem? (i := 92) rfl))) (mvT hZ (hw _ (List.mem_of_getElem? (i := 93) rfl))) (mvT hZ (hw _ (List.mem_of_getElem? (i := 94) rfl))) (by decide) (backOf (W := 1) (rmNG l Z a0 hw [] ng al h17 n0 Zs E_ng F_offers_ng g_ng) hZ (hw _ (List.mem_of_getElem? (i := 94) rfl)) (hw _ (List.mem_of_getElem? (i := 91) rfl)) (by decide) (by decide)) (g := (mkF m 124 #[.val (.int i0), .val (.int i1), .val (.int i2), .val (.int i3), .val (.int cn), .val (.ref c0), .val (.ref c1), .val (.ref c2), .val (.ref al), .unset, .unset] [(.ref al), (.ref ng), (.ref ng)])) rfl (by rw [hml]; rfl) (Steps.refl _) (a := ng) (argsL := [(.ref al)]) (rest := [(.ref ng)]) (lenOf pd_20 rfl) rfl (by show 2 * 0 + _ ≤ _; exact Nat.le_of_eq rfl) (hb hby at_124) (fun _ _ => ⟨rfl, e17, (Nat.le_of_ble_eq_true rfl), (Nat.le_of_ble_eq_true rfl)⟩)
    dsimp only [Pt.U, Pt.locs, Pt.cells, Pt.slots] at X18 l18 y18 z18 st18 hQ18
    subst l18 y18 z18
    obtain ⟨rfl, N18q, K18, F_offers_ng⟩ := hQ18
    have Nf := Fr.app Nf N18q
    have E_c0 := E_c0.keep K18
    have F_status_c0 := F_status_c0.keep K18 (ninS ne_c0_ng nin0)
    have E_o0 := E_o0.keep K18
    have F_action_o0 := F_action_o0.keep K18 (ninS ne_o0_ng nin0)
    have E_al := E_al.keep K18
    have F_modCount_al := F_modCount_al.keep K18 (ninS ne_al_ng nin0)
    have F_elementData_al := F_elementData_al.keep K18 (ninS ne_al_ng nin0)
    have F_size_al := F_size_al.keep K18 (ninS ne_al_ng nin0)
    have V_b := V_b.keep K18 (ninS ne_b_ng nin0)
    have E_ng := E_ng.keep K18
    have Kp := Kp.trans K18 (allS (Or.inr sz_ng) all0)
    have Zs := Nat.le_trans Zs K18.1
    have szr := Nat.le_trans szr K18.1
    refine own_go (fun tQ kQ => st18.trans kQ) ?_
    show own_End p e below _ (T18.setTop (mkF m 127 #[.val (.int i0), .val (.int i1), .val (.int i2), .val (.int i3), .val (.int cn), .val (.ref c0), .val (.ref c1), .val (.ref c2), .val (.ref al), .unset, .unset] [(.ref ng)]))
    refine own_go (fun tQ kQ => XS.astore X18.here hx rfl (hb hby at_127) rfl rfl (l' := #[.val (.int i0), .val (.int i1), .val (.int i2), .val (.int i3), .val (.int cn), .val (.ref c0), .val (.ref c1), .val (.ref c2), .val (.ref al), .val (.ref ng), .unset]) rfl kQ) ?_
    show own_End p e below _ (T18.setTop (mkF m 129 #[.val (.int i0), .val (.int i1), .val (.int i2), .val (.int i3), .val (.int cn), .val (.ref c0), .val (.ref c1), .val (.ref c2), .val (.ref al), .val (.ref ng), .unset] []))
    refine own_go (fun tQ kQ => XS.aload X18.here hx rfl (hb hby at_129) rfl rfl kQ) ?_
    show own_End p e below _ (T18.setTop (mkF m 131 #[.val (.int i0), .val (.int i1), .val (.int i2), .val (.int i3), .val (.int cn), .val (.ref c0), .val (.ref c1), .val (.ref c2), .val (.ref al), .val (.ref ng), .unset] [(.ref ng)]))
    obtain ⟨cq19, kq19, q19a, q19b, q19c⟩ := isOf hZ rfl E_ng
    obtain ⟨_, _, ⟨T19, L19, k19, n19⟩, -, X19, ⟨Lc19, hQ19, l19, y19, z19⟩, st19⟩ := X18.virtualBack hx (y := (⟨"com/example/resolvent/resolvent/resolution/Trial$Negotiation", "offered", "()Lcom/example/resolvent/resolvent/resolution/CompiledAction;"⟩ : MethodName)) (z := (⟨"com/example/resolvent/resolvent/resolution/Trial$Negotiation", "offered", "()Lcom/example/resolvent/resolvent/resolution/CompiledAction;"⟩ : MethodName)) hown (mvT hZ (hw _ (List.mem_of_getElem? (i := 98) rfl))) (mvT hZ (hw _ (List.mem_of_getElem? (i := 99) rfl))) (notFace_of_selects (args := #[]) (mvT hZ (hw _ (List.mem_of_getElem? (i := 101) rfl)))) (mvT hZ (hw _ (List.mem_of_getElem? (i := 101) rfl))) (mvT hZ (hw _ (List.mem_of_getElem? (i := 100) rfl))) (by decide) (backOf (W := 0) (rmoff l Z a0 hw [] ng al b ff mc k o0 c0 T18.heap n0 Zs F_offers_ng E_al F_modCount_al F_elementData_al F_size_al V_b hk hf E_o0 F_action_o0) hZ (hw _ (List.mem_of_getElem? (i := 102) rfl)) (hw _ (List.mem_of_getElem? (i := 91) rfl)) (by decide) (by decide)) q19a q19c (g := (mkF m 131 #[.val (.int i0), .val (.int i1), .val (.int i2), .val (.int i3), .val (.int cn), .val (.ref c0), .val (.ref c1), .val (.ref c2), .val (.ref al), .val (.ref ng), .unset] [(.ref ng)])) rfl (by rw [hml]; rfl) (Steps.refl _) (argsL := []) (rest := []) (lenOf pd_16 rfl) rfl (by show 2 * 0 + _ ≤ _; exact Nat.le_of_eq rfl) (hb hby at_131) (fun _ _ => ⟨rfl, rfl, (Nat.le_of_ble_eq_true rfl), (Nat.le_of_ble_eq_true rfl)⟩)
    dsimp only [Pt.U, Pt.locs, Pt.cells, Pt.slots] at X19 l19 y19 z19 st19 hQ19
    subst l19 y19 z19
    obtain ⟨rfl, N19q, e19⟩ := hQ19
    have Nf := Fr.app Nf N19q
    refine own_go (fun tQ kQ => st19.trans kQ) ?_
    show own_End p e below _ (T19.setTop (mkF m 134 #[.val (.int i0), .val (.int i1), .val (.int i2), .val (.int i3), .val (.int cn), .val (.ref c0), .val (.ref c1), .val (.ref c2), .val (.ref al), .val (.ref ng), .unset] [(.ref c0)]))
    refine own_go (fun tQ kQ => XS.astore X19.here hx rfl (hb hby at_134) rfl rfl (l' := #[.val (.int i0), .val (.int i1), .val (.int i2), .val (.int i3), .val (.int cn), .val (.ref c0), .val (.ref c1), .val (.ref c2), .val (.ref al), .val (.ref ng), .val (.ref c0)]) rfl kQ) ?_
    show own_End p e below _ (T19.setTop (mkF m 136 #[.val (.int i0), .val (.int i1), .val (.int i2), .val (.int i3), .val (.int cn), .val (.ref c0), .val (.ref c1), .val (.ref c2), .val (.ref al), .val (.ref ng), .val (.ref c0)] []))
    refine own_go (fun tQ kQ => XS.aload X19.here hx rfl (hb hby at_136) rfl rfl kQ) ?_
    show own_End p e below _ (T19.setTop (mkF m 138 #[.val (.int i0), .val (.int i1), .val (.int i2), .val (.int i3), .val (.int cn), .val (.ref c0), .val (.ref c1), .val (.ref c2), .val (.ref al), .val (.ref ng), .val (.ref c0)] [(.ref c0)]))
    refine own_go (fun tQ kQ => XS.aload X19.here hx rfl (hb hby at_138) rfl rfl kQ) ?_
    show own_End p e below _ (T19.setTop (mkF m 140 #[.val (.int i0), .val (.int i1), .val (.int i2), .val (.int i3), .val (.int cn), .val (.ref c0), .val (.ref c1), .val (.ref c2), .val (.ref al), .val (.ref ng), .val (.ref c0)] [(.ref c0), (.ref c0)]))
    refine own_go (fun tQ kQ => Jvm.RoadKit.acmp (g := (mkF m 140 #[.val (.int i0), .val (.int i1), .val (.int i2), .val (.int i3), .val (.int cn), .val (.ref c0), .val (.ref c1), .val (.ref c2), .val (.ref al), .val (.ref ng), .val (.ref c0)] [(.ref c0), (.ref c0)])) X19 hx rfl rfl rfl (pc0 := 140) (pc' := 143) (same := true) rfl (hb hby at_140) rfl (decide_eq_true rfl) (by decide) (by decide) kQ) ?_
    show own_End p e below _ (T19.setTop (mkF m 143 #[.val (.int i0), .val (.int i1), .val (.int i2), .val (.int i3), .val (.int cn), .val (.ref c0), .val (.ref c1), .val (.ref c2), .val (.ref al), .val (.ref ng), .val (.ref c0)] []))
    refine own_go (fun tQ kQ => XS.aload X19.here hx rfl (hb hby at_143) rfl rfl kQ) ?_
    show own_End p e below _ (T19.setTop (mkF m 145 #[.val (.int i0), .val (.int i1), .val (.int i2), .val (.int i3), .val (.int cn), .val (.ref c0), .val (.ref c1), .val (.ref c2), .val (.ref al), .val (.ref ng), .val (.ref c0)] [(.ref c0)]))
    obtain ⟨cq20, kq20, q20a, q20b, q20c⟩ := isOf hZ e19 E_c0
    obtain ⟨_, _, ⟨T20, L20, k20, n20⟩, -, X20, ⟨Lc20, hQ20, l20, y20, z20⟩, st20⟩ := X19.virtualBack hx (y := (⟨"com/example/resolvent/resolvent/resolution/CompiledAction", "status", "()I"⟩ : MethodName)) (z := (⟨"com/example/resolvent/resolvent/resolution/CompiledAction", "status", "()I"⟩ : MethodName)) hown (mvT hZ (hw _ (List.mem_of_getElem? (i := 131) rfl))) (mvT hZ (hw _ (List.mem_of_getElem? (i := 132) rfl))) (notFace_of_selects (args := #[]) (mvT hZ (hw _ (List.mem_of_getElem? (i := 134) rfl)))) (mvT hZ (hw _ (List.mem_of_getElem? (i := 134) rfl))) (mvT hZ (hw _ (List.mem_of_getElem? (i := 133) rfl))) (by decide) (backOf (W := 0) (rmst l Z a0 hw [] c0 i0 T18.heap n0 Zs F_status_c0) hZ (hw _ (List.mem_of_getElem? (i := 135) rfl)) (hw _ (List.mem_of_getElem? (i := 3) rfl)) (by decide) (by decide)) q20a q20c (g := (mkF m 145 #[.val (.int i0), .val (.int i1), .val (.int i2), .val (.int i3), .val (.int cn), .val (.ref c0), .val (.ref c1), .val (.ref c2), .val (.ref al), .val (.ref ng), .val (.ref c0)] [(.ref c0)])) rfl (by rw [hml]; rfl) (Steps.refl _) (argsL := []) (rest := []) (lenOf pd_21 rfl) rfl (by show 2 * 0 + _ ≤ _; exact Nat.le_of_eq rfl) (hb hby at_145) (fun _ _ => ⟨rfl, e19, (Nat.le_of_ble_eq_true rfl), (Nat.le_of_ble_eq_true rfl)⟩)
    dsimp only [Pt.U, Pt.locs, Pt.cells, Pt.slots] at X20 l20 y20 z20 st20 hQ20
    subst l20 y20 z20
    obtain ⟨rfl, N20q, e20⟩ := hQ20
    have Nf := Fr.app Nf N20q
    refine own_go (fun tQ kQ => st20.trans kQ) ?_
    show own_End p e below _ (T20.setTop (mkF m 148 #[.val (.int i0), .val (.int i1), .val (.int i2), .val (.int i3), .val (.int cn), .val (.ref c0), .val (.ref c1), .val (.ref c2), .val (.ref al), .val (.ref ng), .val (.ref c0)] [(.int i0)]))
    refine own_go (fun tQ kQ => XS.iloadN X20.here hx rfl (hb hby at_148) rfl kQ) ?_
    show own_End p e below _ (T20.setTop (mkF m 149 #[.val (.int i0), .val (.int i1), .val (.int i2), .val (.int i3), .val (.int cn), .val (.ref c0), .val (.ref c1), .val (.ref c2), .val (.ref al), .val (.ref ng), .val (.ref c0)] [(.int i0), (.int i0)]))
    refine own_go (fun tQ kQ => XS.icmpNo X20.here hx rfl (hb hby at_149) rfl (teq (rfl : i0 = i0)).2 kQ) ?_
    show own_End p e below _ (T20.setTop (mkF m 152 #[.val (.int i0), .val (.int i1), .val (.int i2), .val (.int i3), .val (.int cn), .val (.ref c0), .val (.ref c1), .val (.ref c2), .val (.ref al), .val (.ref ng), .val (.ref c0)] []))
    refine own_go (fun tQ kQ => XS.aload X20.here hx rfl (hb hby at_152) rfl rfl kQ) ?_
    show own_End p e below _ (T20.setTop (mkF m 154 #[.val (.int i0), .val (.int i1), .val (.int i2), .val (.int i3), .val (.int cn), .val (.ref c0), .val (.ref c1), .val (.ref c2), .val (.ref al), .val (.ref ng), .val (.ref c0)] [(.ref al)]))
    obtain ⟨cq21, kq21, q21a, q21b, q21c⟩ := isOf hZ e20 E_al
    obtain ⟨_, _, ⟨T21, L21, k21, n21⟩, -, X21, ⟨Lc21, hQ21, l21, y21, z21⟩, st21⟩ := X20.interfaceBack hx (xi := (⟨"java/util/List", "size", "()I"⟩ : MethodName)) (y := (⟨"java/util/ArrayList", "size", "()I"⟩ : MethodName)) hown (mvT hZ (hw _ (List.mem_of_getElem? (i := 136) rfl))) (mvT hZ (hw _ (List.mem_of_getElem? (i := 137) rfl))) (mvT hZ (hw _ (List.mem_of_getElem? (i := 138) rfl))) (mvT hZ (hw _ (List.mem_of_getElem? (i := 139) rfl))) (mvT hZ (hw _ (List.mem_of_getElem? (i := 140) rfl))) (mvT hZ (hw _ (List.mem_of_getElem? (i := 141) rfl))) (mvT hZ (hw _ (List.mem_of_getElem? (i := 142) rfl))) (mvT hZ (hw _ (List.mem_of_getElem? (i := 61) rfl))) (by decide) (backOf (W := 0) (rmsz l Z a0 hw [] al k T18.heap n0 Zs F_size_al) hZ (hw _ (List.mem_of_getElem? (i := 143) rfl)) (hw _ (List.mem_of_getElem? (i := 21) rfl)) (by decide) (by decide)) q21a q21b q21c (g := (mkF m 154 #[.val (.int i0), .val (.int i1), .val (.int i2), .val (.int i3), .val (.int cn), .val (.ref c0), .val (.ref c1), .val (.ref c2), .val (.ref al), .val (.ref ng), .val (.ref c0)] [(.ref al)])) rfl (by rw [hml]; rfl) (Steps.refl _) (argsL := []) (rest := []) (lenOf pd_21 rfl) rfl (by show 2 * 0 + _ ≤ _; exact Nat.le_of_eq rfl) (hb hby at_154) (fun _ _ => ⟨rfl, e20, (Nat.le_of_ble_eq_true rfl), (Nat.le_of_ble_eq_true rfl)⟩)
    dsimp only [Pt.U, Pt.locs, Pt.cells, Pt.slots] at X21 l21 y21 z21 st21 hQ21
    subst l21 y21 z21
    obtain ⟨rfl, N21q, e21⟩ := hQ21
    have Nf := Fr.app Nf N21q
    refine own_go (fun tQ kQ => st21.trans kQ) ?_
    show own_End p e below _ (T21.setTop (mkF m 159 #[.val (.int i0), .val (.int i1), .val (.int i2), .val (.int i3), .val (.int cn), .val (.ref c0), .val (.ref c1), .val (.ref c2), .val (.ref al), .val (.ref ng), .val (.ref c0)] [(.int k)]))
    refine own_go (fun tQ kQ => XS.iload X21.here hx rfl (hb hby at_159) rfl kQ) ?_
    show own_End p e below _ (T21.setTop (mkF m 161 #[.val (.int i0), .val (.int i1), .val (.int i2), .val (.int i3), .val (.int cn), .val (.ref c0), .val (.ref c1), .val (.ref c2), .val (.ref al), .val (.ref ng), .val (.ref c0)] [(.int cn), (.int k)]))
    refine own_go (fun tQ kQ => XS.icmpNo X21.here hx rfl (hb hby at_161) rfl (teq hkc).2 kQ) ?_
    show own_End p e below _ (T21.setTop (mkF m 164 #[.val (.int i0), .val (.int i1), .val (.int i2), .val (.int i3), .val (.int cn), .val (.ref c0), .val (.ref c1), .val (.ref c2), .val (.ref al), .val (.ref ng), .val (.ref c0)] []))
    refine own_go (fun tQ kQ => XS.iconst X21.here hx rfl (hb hby at_164) kQ) ?_
    show own_End p e below _ (T21.setTop (mkF m 165 #[.val (.int i0), .val (.int i1), .val (.int i2), .val (.int i3), .val (.int cn), .val (.ref c0), .val (.ref c1), .val (.ref c2), .val (.ref al), .val (.ref ng), .val (.ref c0)] [(.int (1 : Int32))]))
    refine own_go (fun tQ kQ => XS.goto X21.here hx rfl (pc0 := 165) (pc' := 169) rfl (hb hby at_165) (by decide) (by decide) kQ) ?_
    show own_End p e below _ (T21.setTop (mkF m 169 #[.val (.int i0), .val (.int i1), .val (.int i2), .val (.int i3), .val (.int cn), .val (.ref c0), .val (.ref c1), .val (.ref c2), .val (.ref al), .val (.ref ng), .val (.ref c0)] [(.int (1 : Int32))]))
    obtain ⟨fs, hr, hrun, hended, hW, hsame⟩ := X21.leave (v := some (.int (1 : Int32))) (fun h => by rw [Bd.returns] at h; cases h)
    refine ⟨_, _, (retN X21 hx (t := .boolean) Bd.returns (by simp) (hb hby at_169) hr), hrun, hended, _, _, rfl, ?_, ⟨_, rfl⟩, hW, hsame.mono (by decide) (by decide)⟩
    show Q0 Z i0 i1 i2 i3 de fd h0 n0 _ T21.heap _
    rw [e21]
    exact ⟨rfl, Nf⟩
  have J118_8_25 : ∀ (mc : Int32) (k : Int32) (ff : Nat → Value) (T : State) (locs : List Loc) (h : Heap) (X : Stand p l e room_1 s m #[(.int i0), (.int i1), (.int i2), (.int i3)] below meth c T locs 8 25) (eT : T.heap = h) (Nf : Fr n0 locs) (Zs : n0 ≤ h.size) (Kp : Keep h0 h []) (szr : h0.size ≤ h.size) (E_c0 : Exa Z h c0 "com/example/resolvent/resolvent/resolution/CompiledAction") (F_status_c0 : Fld Z h c0 "com/example/resolvent/resolvent/resolution/CompiledAction" "status" "I" (.int i0)) (E_o0 : Exa Z h o0 "com/example/resolvent/resolvent/resolution/Trial$Offer") (F_action_o0 : Fld Z h o0 "com/example/resolvent/resolvent/resolution/Trial$Offer" "action" "Lcom/example/resolvent/resolvent/resolution/CompiledAction;" (.ref c0)) (E_al : Exa Z h al "java/util/ArrayList") (F_modCount_al : Fld Z h al "java/util/AbstractList" "modCount" "I" (.int mc)) (F_elementData_al : Fld Z h al "java/util/ArrayList" "elementData" "[Ljava/lang/Object;" (.ref b)) (F_size_al : Fld Z h al "java/util/ArrayList" "size" "I" (.int k)) (V_b : own_Rr Z h b "java/lang/Object" (10 : Int32) (ff)) (hk : (0 : Int32) < k) (hf : ff 0 = .ref o0) (hkc : k = cn), own_End p e below (P0 Z i0 i1 i2 i3 de fd h0 n0 s) (T.setTop (mkF m 118 #[.val (.int i0), .val (.int i1), .val (.int i2), .val (.int i3), .val (.int cn), .val (.ref c0), .val (.ref c1), .val (.ref c2), .val (.ref al), .unset, .unset] [])) := by
    intro mc k ff T locs h X eT Nf Zs Kp szr E_c0 F_status_c0 E_o0 F_action_o0 E_al F_modCount_al F_elementData_al F_size_al V_b hk hf hkc
    obtain ⟨T22, h22, X22, e22, E22, A22, D22, -, st22⟩ := newO X hx hZ hown (hw _ (List.mem_of_getElem? (i := 89) rfl)) (hw _ (List.mem_of_getElem? (i := 90) rfl)) (hw _ (List.mem_of_getElem? (i := 91) rfl)) eT (g := (mkF m 118 #[.val (.int i0), .val (.int i1), .val (.int i2), .val (.int i3), .val (.int cn), .val (.ref c0), .val (.ref c1), .val (.ref c2), .val (.ref al), .unset, .unset] [])) rfl (hb hby at_118) (by decide) (by decide)
    obtain ⟨ng, g22⟩ : ∃ z, z = h.size := ⟨_, rfl⟩
    rw [← g22] at A22 D22 st22
    have ne_c0_ng : c0 ≠ ng := Nat.ne_of_lt (Nat.lt_of_lt_of_le E_c0.lt (Nat.le_of_eq g22.symm))
    have ne_o0_ng : o0 ≠ ng := Nat.ne_of_lt (Nat.lt_of_lt_of_le E_o0.lt (Nat.le_of_eq g22.symm))
    have ne_al_ng : al ≠ ng := Nat.ne_of_lt (Nat.lt_of_lt_of_le E_al.lt (Nat.le_of_eq g22.symm))
    have ne_b_ng : b ≠ ng := Nat.ne_of_lt (Nat.lt_of_lt_of_le V_b.lt (Nat.le_of_eq g22.symm))
    have g_ng : n0 ≤ ng := Nat.le_trans Zs (Nat.le_of_eq g22.symm)
    have sz_ng : h0.size ≤ ng := Nat.le_trans szr (Nat.le_of_eq g22.symm)
    have E_c0 := E_c0.ext E22
    have F_status_c0 := F_status_c0.ext E22
    have E_o0 := E_o0.ext E22
    have F_action_o0 := F_action_o0.ext E22
    have E_al := E_al.ext E22
    have F_modCount_al := F_modCount_al.ext E22
    have F_elementData_al := F_elementData_al.ext E22
    have F_size_al := F_size_al.ext E22
    have V_b := V_b.ext E22
    have Kp := Kp.ext E22
    have Zs := Nat.le_trans Zs E22.1
    have szr := Nat.le_trans szr E22.1
    have E_ng := A22
    have F_offers_ng : Fld Z h22 ng "com/example/resolvent/resolvent/resolution/Trial$Negotiation" "offers" "Ljava/util/List;" .null := D22 (Or.inr (hw _ (List.mem_of_getElem? (i := 97) rfl))) (ty := (.object "java/util/List")) (by decide)
    refine own_go (fun tQ kQ => st22 tQ kQ) ?_
    show own_End p e below _ (T22.setTop (mkF m 121 #[.val (.int i0), .val (.int i1), .val (.int i2), .val (.int i3), .val (.int cn), .val (.ref c0), .val (.ref c1), .val (.ref c2), .val (.ref al), .unset, .unset] [(.ref ng)]))
    refine own_go (fun tQ kQ => XS.dup X22.here hx rfl (hb hby at_121) rfl rfl kQ) ?_
    show own_End p e below _ (T22.setTop (mkF m 122 #[.val (.int i0), .val (.int i1), .val (.int i2), .val (.int i3), .val (.int cn), .val (.ref c0), .val (.ref c1), .val (.ref c2), .val (.ref al), .unset, .unset] [(.ref ng), (.ref ng)]))
    refine own_go (fun tQ kQ => XS.aload X22.here hx rfl (hb hby at_122) rfl rfl kQ) ?_
    show own_End p e below _ (T22.setTop (mkF m 124 #[.val (.int i0), .val (.int i1), .val (.int i2), .val (.int i3), .val (.int cn), .val (.ref c0), .val (.ref c1), .val (.ref c2), .val (.ref al), .unset, .unset] [(.ref al), (.ref ng), (.ref ng)]))
    obtain ⟨_, _, ⟨T23, L23, k23, n23⟩, -, X23, ⟨Lc23, hQ23, l23, y23, z23⟩, st23⟩ := X22.specialBack hx (y := (⟨"com/example/resolvent/resolvent/resolution/Trial$Negotiation", "<init>", "(Ljava/util/List;)V"⟩ : MethodName)) rfl hown (mvT hZ (hw _ (List.mem_of_getElem? (i := 92) rfl))) (mvT hZ (hw _ (List.mem_of_getElem? (i := 93) rfl))) (mvT hZ (hw _ (List.mem_of_getElem? (i := 94) rfl))) (by decide) (backOf (W := 1) (rmNG l Z a0 hw [] ng al h22 n0 Zs E_ng F_offers_ng g_ng) hZ (hw _ (List.mem_of_getElem? (i := 94) rfl)) (hw _ (List.mem_of_getElem? (i := 91) rfl)) (by decide) (by decide)) (g := (mkF m 124 #[.val (.int i0), .val (.int i1), .val (.int i2), .val (.int i3), .val (.int cn), .val (.ref c0), .val (.ref c1), .val (.ref c2), .val (.ref al), .unset, .unset] [(.ref al), (.ref ng), (.ref ng)])) rfl (by rw [hml]; rfl) (Steps.refl _) (a := ng) (argsL := [(.ref al)]) (rest := [(.ref ng)]) (lenOf pd_20 rfl) rfl (by show 2 * 0 + _ ≤ _; exact Nat.le_of_eq rfl) (hb hby at_124) (fun _ _ => ⟨rfl, e22, (Nat.le_of_ble_eq_true rfl), (Nat.le_of_ble_eq_true rfl)⟩)
    dsimp only [Pt.U, Pt.locs, Pt.cells, Pt.slots] at X23 l23 y23 z23 st23 hQ23
    subst l23 y23 z23
    obtain ⟨rfl, N23q, K23, F_offers_ng⟩ := hQ23
    have Nf := Fr.app Nf N23q
    have E_c0 := E_c0.keep K23
    have F_status_c0 := F_status_c0.keep K23 (ninS ne_c0_ng nin0)
    have E_o0 := E_o0.keep K23
    have F_action_o0 := F_action_o0.keep K23 (ninS ne_o0_ng nin0)
    have E_al := E_al.keep K23
    have F_modCount_al := F_modCount_al.keep K23 (ninS ne_al_ng nin0)
    have F_elementData_al := F_elementData_al.keep K23 (ninS ne_al_ng nin0)
    have F_size_al := F_size_al.keep K23 (ninS ne_al_ng nin0)
    have V_b := V_b.keep K23 (ninS ne_b_ng nin0)
    have E_ng := E_ng.keep K23
    have Kp := Kp.trans K23 (allS (Or.inr sz_ng) all0)
    have Zs := Nat.le_trans Zs K23.1
    have szr := Nat.le_trans szr K23.1
    refine own_go (fun tQ kQ => st23.trans kQ) ?_
    show own_End p e below _ (T23.setTop (mkF m 127 #[.val (.int i0), .val (.int i1), .val (.int i2), .val (.int i3), .val (.int cn), .val (.ref c0), .val (.ref c1), .val (.ref c2), .val (.ref al), .unset, .unset] [(.ref ng)]))
    refine own_go (fun tQ kQ => XS.astore X23.here hx rfl (hb hby at_127) rfl rfl (l' := #[.val (.int i0), .val (.int i1), .val (.int i2), .val (.int i3), .val (.int cn), .val (.ref c0), .val (.ref c1), .val (.ref c2), .val (.ref al), .val (.ref ng), .unset]) rfl kQ) ?_
    show own_End p e below _ (T23.setTop (mkF m 129 #[.val (.int i0), .val (.int i1), .val (.int i2), .val (.int i3), .val (.int cn), .val (.ref c0), .val (.ref c1), .val (.ref c2), .val (.ref al), .val (.ref ng), .unset] []))
    refine own_go (fun tQ kQ => XS.aload X23.here hx rfl (hb hby at_129) rfl rfl kQ) ?_
    show own_End p e below _ (T23.setTop (mkF m 131 #[.val (.int i0), .val (.int i1), .val (.int i2), .val (.int i3), .val (.int cn), .val (.ref c0), .val (.ref c1), .val (.ref c2), .val (.ref al), .val (.ref ng), .unset] [(.ref ng)]))
    obtain ⟨cq24, kq24, q24a, q24b, q24c⟩ := isOf hZ rfl E_ng
    obtain ⟨_, _, ⟨T24, L24, k24, n24⟩, -, X24, ⟨Lc24, hQ24, l24, y24, z24⟩, st24⟩ := X23.virtualBack hx (y := (⟨"com/example/resolvent/resolvent/resolution/Trial$Negotiation", "offered", "()Lcom/example/resolvent/resolvent/resolution/CompiledAction;"⟩ : MethodName)) (z := (⟨"com/example/resolvent/resolvent/resolution/Trial$Negotiation", "offered", "()Lcom/example/resolvent/resolvent/resolution/CompiledAction;"⟩ : MethodName)) hown (mvT hZ (hw _ (List.mem_of_getElem? (i := 98) rfl))) (mvT hZ (hw _ (List.mem_of_getElem? (i := 99) rfl))) (notFace_of_selects (args := #[]) (mvT hZ (hw _ (List.mem_of_getElem? (i := 101) rfl)))) (mvT hZ (hw _ (List.mem_of_getElem? (i := 101) rfl))) (mvT hZ (hw _ (List.mem_of_getElem? (i := 100) rfl))) (by decide) (backOf (W := 0) (rmoff l Z a0 hw [] ng al b ff mc k o0 c0 T23.heap n0 Zs F_offers_ng E_al F_modCount_al F_elementData_al F_size_al V_b hk hf E_o0 F_action_o0) hZ (hw _ (List.mem_of_getElem? (i := 102) rfl)) (hw _ (List.mem_of_getElem? (i := 91) rfl)) (by decide) (by decide)) q24a q24c (g := (mkF m 131 #[.val (.int i0), .val (.int i1), .val (.int i2), .val (.int i3), .val (.int cn), .val (.ref c0), .val (.ref c1), .val (.ref c2), .val (.ref al), .val (.ref ng), .unset] [(.ref ng)])) rfl (by rw [hml]; rfl) (Steps.refl _) (argsL := []) (rest := []) (lenOf pd_16 rfl) rfl (by show 2 * 0 + _ ≤ _; exact Nat.le_of_eq rfl) (hb hby at_131) (fun _ _ => ⟨rfl, rfl, (Nat.le_of_ble_eq_true rfl), (Nat.le_of_ble_eq_true rfl)⟩)
    dsimp only [Pt.U, Pt.locs, Pt.cells, Pt.slots] at X24 l24 y24 z24 st24 hQ24
    subst l24 y24 z24
    obtain ⟨rfl, N24q, e24⟩ := hQ24
    have Nf := Fr.app Nf N24q
    refine own_go (fun tQ kQ => st24.trans kQ) ?_
    show own_End p e below _ (T24.setTop (mkF m 134 #[.val (.int i0), .val (.int i1), .val (.int i2), .val (.int i3), .val (.int cn), .val (.ref c0), .val (.ref c1), .val (.ref c2), .val (.ref al), .val (.ref ng), .unset] [(.ref c0)]))
    refine own_go (fun tQ kQ => XS.astore X24.here hx rfl (hb hby at_134) rfl rfl (l' := #[.val (.int i0), .val (.int i1), .val (.int i2), .val (.int i3), .val (.int cn), .val (.ref c0), .val (.ref c1), .val (.ref c2), .val (.ref al), .val (.ref ng), .val (.ref c0)]) rfl kQ) ?_
    show own_End p e below _ (T24.setTop (mkF m 136 #[.val (.int i0), .val (.int i1), .val (.int i2), .val (.int i3), .val (.int cn), .val (.ref c0), .val (.ref c1), .val (.ref c2), .val (.ref al), .val (.ref ng), .val (.ref c0)] []))
    refine own_go (fun tQ kQ => XS.aload X24.here hx rfl (hb hby at_136) rfl rfl kQ) ?_
    show own_End p e below _ (T24.setTop (mkF m 138 #[.val (.int i0), .val (.int i1), .val (.int i2), .val (.int i3), .val (.int cn), .val (.ref c0), .val (.ref c1), .val (.ref c2), .val (.ref al), .val (.ref ng), .val (.ref c0)] [(.ref c0)]))
    refine own_go (fun tQ kQ => XS.aload X24.here hx rfl (hb hby at_138) rfl rfl kQ) ?_
    show own_End p e below _ (T24.setTop (mkF m 140 #[.val (.int i0), .val (.int i1), .val (.int i2), .val (.int i3), .val (.int cn), .val (.ref c0), .val (.ref c1), .val (.ref c2), .val (.ref al), .val (.ref ng), .val (.ref c0)] [(.ref c0), (.ref c0)]))
    refine own_go (fun tQ kQ => Jvm.RoadKit.acmp (g := (mkF m 140 #[.val (.int i0), .val (.int i1), .val (.int i2), .val (.int i3), .val (.int cn), .val (.ref c0), .val (.ref c1), .val (.ref c2), .val (.ref al), .val (.ref ng), .val (.ref c0)] [(.ref c0), (.ref c0)])) X24 hx rfl rfl rfl (pc0 := 140) (pc' := 143) (same := true) rfl (hb hby at_140) rfl (decide_eq_true rfl) (by decide) (by decide) kQ) ?_
    show own_End p e below _ (T24.setTop (mkF m 143 #[.val (.int i0), .val (.int i1), .val (.int i2), .val (.int i3), .val (.int cn), .val (.ref c0), .val (.ref c1), .val (.ref c2), .val (.ref al), .val (.ref ng), .val (.ref c0)] []))
    refine own_go (fun tQ kQ => XS.aload X24.here hx rfl (hb hby at_143) rfl rfl kQ) ?_
    show own_End p e below _ (T24.setTop (mkF m 145 #[.val (.int i0), .val (.int i1), .val (.int i2), .val (.int i3), .val (.int cn), .val (.ref c0), .val (.ref c1), .val (.ref c2), .val (.ref al), .val (.ref ng), .val (.ref c0)] [(.ref c0)]))
    obtain ⟨cq25, kq25, q25a, q25b, q25c⟩ := isOf hZ e24 E_c0
    obtain ⟨_, _, ⟨T25, L25, k25, n25⟩, -, X25, ⟨Lc25, hQ25, l25, y25, z25⟩, st25⟩ := X24.virtualBack hx (y := (⟨"com/example/resolvent/resolvent/resolution/CompiledAction", "status", "()I"⟩ : MethodName)) (z := (⟨"com/example/resolvent/resolvent/resolution/CompiledAction", "status", "()I"⟩ : MethodName)) hown (mvT hZ (hw _ (List.mem_of_getElem? (i := 131) rfl))) (mvT hZ (hw _ (List.mem_of_getElem? (i := 132) rfl))) (notFace_of_selects (args := #[]) (mvT hZ (hw _ (List.mem_of_getElem? (i := 134) rfl)))) (mvT hZ (hw _ (List.mem_of_getElem? (i := 134) rfl))) (mvT hZ (hw _ (List.mem_of_getElem? (i := 133) rfl))) (by decide) (backOf (W := 0) (rmst l Z a0 hw [] c0 i0 T23.heap n0 Zs F_status_c0) hZ (hw _ (List.mem_of_getElem? (i := 135) rfl)) (hw _ (List.mem_of_getElem? (i := 3) rfl)) (by decide) (by decide)) q25a q25c (g := (mkF m 145 #[.val (.int i0), .val (.int i1), .val (.int i2), .val (.int i3), .val (.int cn), .val (.ref c0), .val (.ref c1), .val (.ref c2), .val (.ref al), .val (.ref ng), .val (.ref c0)] [(.ref c0)])) rfl (by rw [hml]; rfl) (Steps.refl _) (argsL := []) (rest := []) (lenOf pd_21 rfl) rfl (by show 2 * 0 + _ ≤ _; exact Nat.le_of_eq rfl) (hb hby at_145) (fun _ _ => ⟨rfl, e24, (Nat.le_of_ble_eq_true rfl), (Nat.le_of_ble_eq_true rfl)⟩)
    dsimp only [Pt.U, Pt.locs, Pt.cells, Pt.slots] at X25 l25 y25 z25 st25 hQ25
    subst l25 y25 z25
    obtain ⟨rfl, N25q, e25⟩ := hQ25
    have Nf := Fr.app Nf N25q
    refine own_go (fun tQ kQ => st25.trans kQ) ?_
    show own_End p e below _ (T25.setTop (mkF m 148 #[.val (.int i0), .val (.int i1), .val (.int i2), .val (.int i3), .val (.int cn), .val (.ref c0), .val (.ref c1), .val (.ref c2), .val (.ref al), .val (.ref ng), .val (.ref c0)] [(.int i0)]))
    refine own_go (fun tQ kQ => XS.iloadN X25.here hx rfl (hb hby at_148) rfl kQ) ?_
    show own_End p e below _ (T25.setTop (mkF m 149 #[.val (.int i0), .val (.int i1), .val (.int i2), .val (.int i3), .val (.int cn), .val (.ref c0), .val (.ref c1), .val (.ref c2), .val (.ref al), .val (.ref ng), .val (.ref c0)] [(.int i0), (.int i0)]))
    refine own_go (fun tQ kQ => XS.icmpNo X25.here hx rfl (hb hby at_149) rfl (teq (rfl : i0 = i0)).2 kQ) ?_
    show own_End p e below _ (T25.setTop (mkF m 152 #[.val (.int i0), .val (.int i1), .val (.int i2), .val (.int i3), .val (.int cn), .val (.ref c0), .val (.ref c1), .val (.ref c2), .val (.ref al), .val (.ref ng), .val (.ref c0)] []))
    refine own_go (fun tQ kQ => XS.aload X25.here hx rfl (hb hby at_152) rfl rfl kQ) ?_
    show own_End p e below _ (T25.setTop (mkF m 154 #[.val (.int i0), .val (.int i1), .val (.int i2), .val (.int i3), .val (.int cn), .val (.ref c0), .val (.ref c1), .val (.ref c2), .val (.ref al), .val (.ref ng), .val (.ref c0)] [(.ref al)]))
    obtain ⟨cq26, kq26, q26a, q26b, q26c⟩ := isOf hZ e25 E_al
    obtain ⟨_, _, ⟨T26, L26, k26, n26⟩, -, X26, ⟨Lc26, hQ26, l26, y26, z26⟩, st26⟩ := X25.interfaceBack hx (xi := (⟨"java/util/List", "size", "()I"⟩ : MethodName)) (y := (⟨"java/util/ArrayList", "size", "()I"⟩ : MethodName)) hown (mvT hZ (hw _ (List.mem_of_getElem? (i := 136) rfl))) (mvT hZ (hw _ (List.mem_of_getElem? (i := 137) rfl))) (mvT hZ (hw _ (List.mem_of_getElem? (i := 138) rfl))) (mvT hZ (hw _ (List.mem_of_getElem? (i := 139) rfl))) (mvT hZ (hw _ (List.mem_of_getElem? (i := 140) rfl))) (mvT hZ (hw _ (List.mem_of_getElem? (i := 141) rfl))) (mvT hZ (hw _ (List.mem_of_getElem? (i := 142) rfl))) (mvT hZ (hw _ (List.mem_of_getElem? (i := 61) rfl))) (by decide) (backOf (W := 0) (rmsz l Z a0 hw [] al k T23.heap n0 Zs F_size_al) hZ (hw _ (List.mem_of_getElem? (i := 143) rfl)) (hw _ (List.mem_of_getElem? (i := 21) rfl)) (by decide) (by decide)) q26a q26b q26c (g := (mkF m 154 #[.val (.int i0), .val (.int i1), .val (.int i2), .val (.int i3), .val (.int cn), .val (.ref c0), .val (.ref c1), .val (.ref c2), .val (.ref al), .val (.ref ng), .val (.ref c0)] [(.ref al)])) rfl (by rw [hml]; rfl) (Steps.refl _) (argsL := []) (rest := []) (lenOf pd_21 rfl) rfl (by show 2 * 0 + _ ≤ _; exact Nat.le_of_eq rfl) (hb hby at_154) (fun _ _ => ⟨rfl, e25, (Nat.le_of_ble_eq_true rfl), (Nat.le_of_ble_eq_true rfl)⟩)
    dsimp only [Pt.U, Pt.locs, Pt.cells, Pt.slots] at X26 l26 y26 z26 st26 hQ26
    subst l26 y26 z26
    obtain ⟨rfl, N26q, e26⟩ := hQ26
    have Nf := Fr.app Nf N26q
    refine own_go (fun tQ kQ => st26.trans kQ) ?_
    show own_End p e below _ (T26.setTop (mkF m 159 #[.val (.int i0), .val (.int i1), .val (.int i2), .val (.int i3), .val (.int cn), .val (.ref c0), .val (.ref c1), .val (.ref c2), .val (.ref al), .val (.ref ng), .val (.ref c0)] [(.int k)]))
    refine own_go (fun tQ kQ => XS.iload X26.here hx rfl (hb hby at_159) rfl kQ) ?_
    show own_End p e below _ (T26.setTop (mkF m 161 #[.val (.int i0), .val (.int i1), .val (.int i2), .val (.int i3), .val (.int cn), .val (.ref c0), .val (.ref c1), .val (.ref c2), .val (.ref al), .val (.ref ng), .val (.ref c0)] [(.int cn), (.int k)]))
    refine own_go (fun tQ kQ => XS.icmpNo X26.here hx rfl (hb hby at_161) rfl (teq hkc).2 kQ) ?_
    show own_End p e below _ (T26.setTop (mkF m 164 #[.val (.int i0), .val (.int i1), .val (.int i2), .val (.int i3), .val (.int cn), .val (.ref c0), .val (.ref c1), .val (.ref c2), .val (.ref al), .val (.ref ng), .val (.ref c0)] []))
    refine own_go (fun tQ kQ => XS.iconst X26.here hx rfl (hb hby at_164) kQ) ?_
    show own_End p e below _ (T26.setTop (mkF m 165 #[.val (.int i0), .val (.int i1), .val (.int i2), .val (.int i3), .val (.int cn), .val (.ref c0), .val (.ref c1), .val (.ref c2), .val (.ref al), .val (.ref ng), .val (.ref c0)] [(.int (1 : Int32))]))
    refine own_go (fun tQ kQ => XS.goto X26.here hx rfl (pc0 := 165) (pc' := 169) rfl (hb hby at_165) (by decide) (by decide) kQ) ?_
    show own_End p e below _ (T26.setTop (mkF m 169 #[.val (.int i0), .val (.int i1), .val (.int i2), .val (.int i3), .val (.int cn), .val (.ref c0), .val (.ref c1), .val (.ref c2), .val (.ref al), .val (.ref ng), .val (.ref c0)] [(.int (1 : Int32))]))
    obtain ⟨fs, hr, hrun, hended, hW, hsame⟩ := X26.leave (v := some (.int (1 : Int32))) (fun h => by rw [Bd.returns] at h; cases h)
    refine ⟨_, _, (retN X26 hx (t := .boolean) Bd.returns (by simp) (hb hby at_169) hr), hrun, hended, _, _, rfl, ?_, ⟨_, rfl⟩, hW, hsame.mono (by decide) (by decide)⟩
    show Q0 Z i0 i1 i2 i3 de fd h0 n0 _ T26.heap _
    rw [e26]
    exact ⟨rfl, Nf⟩
  refine own_go (fun tQ kQ => XS.iload X11.here hx rfl (hb hby at_70) rfl kQ) ?_
  show own_End p e below _ (T11.setTop (mkF m 72 #[.val (.int i0), .val (.int i1), .val (.int i2), .val (.int i3), .val (.int cn), .val (.ref c0), .val (.ref c1), .val (.ref c2), .val (.ref al), .unset, .unset] [(.int cn)]))
  refine own_go (fun tQ kQ => XS.iconst X11.here hx rfl (hb hby at_72) kQ) ?_
  show own_End p e below _ (T11.setTop (mkF m 73 #[.val (.int i0), .val (.int i1), .val (.int i2), .val (.int i3), .val (.int cn), .val (.ref c0), .val (.ref c1), .val (.ref c2), .val (.ref al), .unset, .unset] [(.int (1 : Int32)), (.int cn)]))
  by_cases hc73 : (1 : Int32) < cn
  ·
    refine own_go (fun tQ kQ => XS.icmpNo X11.here hx rfl (hb hby at_73) rfl (tlt hc73).2.2.2 kQ) ?_
    show own_End p e below _ (T11.setTop (mkF m 76 #[.val (.int i0), .val (.int i1), .val (.int i2), .val (.int i3), .val (.int cn), .val (.ref c0), .val (.ref c1), .val (.ref c2), .val (.ref al), .unset, .unset] []))
    refine own_go (fun tQ kQ => XS.aload X11.here hx rfl (hb hby at_76) rfl rfl kQ) ?_
    show own_End p e below _ (T11.setTop (mkF m 78 #[.val (.int i0), .val (.int i1), .val (.int i2), .val (.int i3), .val (.int cn), .val (.ref c0), .val (.ref c1), .val (.ref c2), .val (.ref al), .unset, .unset] [(.ref al)]))
    obtain ⟨T27, h27, X27, e27, E27, A27, D27, -, st27⟩ := newO X11 hx hZ hown (hw _ (List.mem_of_getElem? (i := 43) rfl)) (hw _ (List.mem_of_getElem? (i := 44) rfl)) (hw _ (List.mem_of_getElem? (i := 45) rfl)) rfl (g := (mkF m 78 #[.val (.int i0), .val (.int i1), .val (.int i2), .val (.int i3), .val (.int cn), .val (.ref c0), .val (.ref c1), .val (.ref c2), .val (.ref al), .unset, .unset] [(.ref al)])) rfl (hb hby at_78) (by decide) (by decide)
    obtain ⟨o1, g27⟩ : ∃ z, z = T11.heap.size := ⟨_, rfl⟩
    rw [← g27] at A27 D27 st27
    have ne_c0_o1 : c0 ≠ o1 := Nat.ne_of_lt (Nat.lt_of_lt_of_le E_c0.lt (Nat.le_of_eq g27.symm))
    have ne_al_o1 : al ≠ o1 := Nat.ne_of_lt (Nat.lt_of_lt_of_le E_al.lt (Nat.le_of_eq g27.symm))
    have ne_o0_o1 : o0 ≠ o1 := Nat.ne_of_lt (Nat.lt_of_lt_of_le E_o0.lt (Nat.le_of_eq g27.symm))
    have ne_b_o1 : b ≠ o1 := Nat.ne_of_lt (Nat.lt_of_lt_of_le V_b.lt (Nat.le_of_eq g27.symm))
    have g_o1 : n0 ≤ o1 := Nat.le_trans Zs (Nat.le_of_eq g27.symm)
    have sz_o1 : h0.size ≤ o1 := Nat.le_trans szr (Nat.le_of_eq g27.symm)
    have Ol := Ol.ext E27
    have E_c0 := E_c0.ext E27
    have F_status_c0 := F_status_c0.ext E27
    have F_target_c0 := F_target_c0.ext E27
    have E_al := E_al.ext E27
    have E_o0 := E_o0.ext E27
    have F_match_o0 := F_match_o0.ext E27
    have F_action_o0 := F_action_o0.ext E27
    have F_modCount_al := F_modCount_al.ext E27
    have F_elementData_al := F_elementData_al.ext E27
    have F_size_al := F_size_al.ext E27
    have V_b := V_b.ext E27
    have Kp := Kp.ext E27
    have Zs := Nat.le_trans Zs E27.1
    have szr := Nat.le_trans szr E27.1
    have E_o1 := A27
    have F_match_o1 : Fld Z h27 o1 "com/example/resolvent/resolvent/resolution/Trial$Offer" "match" "Ljava/util/regex/Pattern;" .null := D27 (Or.inr (hw _ (List.mem_of_getElem? (i := 51) rfl))) (ty := (.object "java/util/regex/Pattern")) (by decide)
    have F_action_o1 : Fld Z h27 o1 "com/example/resolvent/resolvent/resolution/Trial$Offer" "action" "Lcom/example/resolvent/resolvent/resolution/CompiledAction;" .null := D27 (Or.inr (hw _ (List.mem_of_getElem? (i := 53) rfl))) (ty := (.object "com/example/resolvent/resolvent/resolution/CompiledAction")) (by decide)
    refine own_go (fun tQ kQ => st27 tQ kQ) ?_
    show own_End p e below _ (T27.setTop (mkF m 81 #[.val (.int i0), .val (.int i1), .val (.int i2), .val (.int i3), .val (.int cn), .val (.ref c0), .val (.ref c1), .val (.ref c2), .val (.ref al), .unset, .unset] [(.ref o1), (.ref al)]))
    refine own_go (fun tQ kQ => XS.dup X27.here hx rfl (hb hby at_81) rfl rfl kQ) ?_
    show own_End p e below _ (T27.setTop (mkF m 82 #[.val (.int i0), .val (.int i1), .val (.int i2), .val (.int i3), .val (.int cn), .val (.ref c0), .val (.ref c1), .val (.ref c2), .val (.ref al), .unset, .unset] [(.ref o1), (.ref o1), (.ref al)]))
    refine own_go (fun tQ kQ => XS.aconstNull X27.here hx rfl (hb hby at_82) kQ) ?_
    show own_End p e below _ (T27.setTop (mkF m 83 #[.val (.int i0), .val (.int i1), .val (.int i2), .val (.int i3), .val (.int cn), .val (.ref c0), .val (.ref c1), .val (.ref c2), .val (.ref al), .unset, .unset] [.null, (.ref o1), (.ref o1), (.ref al)]))
    refine own_go (fun tQ kQ => XS.aload X27.here hx rfl (hb hby at_83) rfl rfl kQ) ?_
    show own_End p e below _ (T27.setTop (mkF m 85 #[.val (.int i0), .val (.int i1), .val (.int i2), .val (.int i3), .val (.int cn), .val (.ref c0), .val (.ref c1), .val (.ref c2), .val (.ref al), .unset, .unset] [(.ref c1), .null, (.ref o1), (.ref o1), (.ref al)]))
    obtain ⟨_, _, ⟨T28, L28, k28, n28⟩, -, X28, ⟨Lc28, hQ28, l28, y28, z28⟩, st28⟩ := X27.specialBack hx (y := (⟨"com/example/resolvent/resolvent/resolution/Trial$Offer", "<init>", "(Ljava/util/regex/Pattern;Lcom/example/resolvent/resolvent/resolution/CompiledAction;)V"⟩ : MethodName)) rfl hown (mvT hZ (hw _ (List.mem_of_getElem? (i := 46) rfl))) (mvT hZ (hw _ (List.mem_of_getElem? (i := 47) rfl))) (mvT hZ (hw _ (List.mem_of_getElem? (i := 48) rfl))) (by decide) (backOf (W := 2) (rmOF l Z a0 hw [] o1 c1 h27 n0 Zs E_o1 F_match_o1 F_action_o1 g_o1) hZ (hw _ (List.mem_of_getElem? (i := 48) rfl)) (hw _ (List.mem_of_getElem? (i := 45) rfl)) (by decide) (by decide)) (g := (mkF m 85 #[.val (.int i0), .val (.int i1), .val (.int i2), .val (.int i3), .val (.int cn), .val (.ref c0), .val (.ref c1), .val (.ref c2), .val (.ref al), .unset, .unset] [(.ref c1), .null, (.ref o1), (.ref o1), (.ref al)])) rfl (by rw [hml]; rfl) (Steps.refl _) (a := o1) (argsL := [.null, (.ref c1)]) (rest := [(.ref o1), (.ref al)]) (lenOf pd_18 rfl) rfl (by show 2 * 0 + _ ≤ _; exact Nat.le_of_eq rfl) (hb hby at_85) (fun _ _ => ⟨rfl, e27, (Nat.le_of_ble_eq_true rfl), (Nat.le_of_ble_eq_true rfl)⟩)
    dsimp only [Pt.U, Pt.locs, Pt.cells, Pt.slots] at X28 l28 y28 z28 st28 hQ28
    subst l28 y28 z28
    obtain ⟨rfl, N28q, K28, F_match_o1, F_action_o1⟩ := hQ28
    have Nf := Fr.app Nf N28q
    have Ol := Ol.keep K28 (allS g_o1 all0)
    have E_c0 := E_c0.keep K28
    have F_status_c0 := F_status_c0.keep K28 (ninS ne_c0_o1 nin0)
    have F_target_c0 := F_target_c0.keep K28 (ninS ne_c0_o1 nin0)
    have E_al := E_al.keep K28
    have E_o0 := E_o0.keep K28
    have F_match_o0 := F_match_o0.keep K28 (ninS ne_o0_o1 nin0)
    have F_action_o0 := F_action_o0.keep K28 (ninS ne_o0_o1 nin0)
    have F_modCount_al := F_modCount_al.keep K28 (ninS ne_al_o1 nin0)
    have F_elementData_al := F_elementData_al.keep K28 (ninS ne_al_o1 nin0)
    have F_size_al := F_size_al.keep K28 (ninS ne_al_o1 nin0)
    have V_b := V_b.keep K28 (ninS ne_b_o1 nin0)
    have E_o1 := E_o1.keep K28
    have Kp := Kp.trans K28 (allS (Or.inr sz_o1) all0)
    have Zs := Nat.le_trans Zs K28.1
    have szr := Nat.le_trans szr K28.1
    refine own_go (fun tQ kQ => st28.trans kQ) ?_
    show own_End p e below _ (T28.setTop (mkF m 88 #[.val (.int i0), .val (.int i1), .val (.int i2), .val (.int i3), .val (.int cn), .val (.ref c0), .val (.ref c1), .val (.ref c2), .val (.ref al), .unset, .unset] [(.ref o1), (.ref al)]))
    obtain ⟨cq29, kq29, q29a, q29b, q29c⟩ := isOf hZ rfl E_al
    obtain ⟨_, _, ⟨T29, L29, k29, n29⟩, -, X29, ⟨Lc29, hQ29, l29, y29, z29⟩, st29⟩ := X28.interfaceBack hx (xi := (⟨"java/util/List", "add", "(Ljava/lang/Object;)Z"⟩ : MethodName)) (y := (⟨"java/util/ArrayList", "add", "(Ljava/lang/Object;)Z"⟩ : MethodName)) hown (mvT hZ (hw _ (List.mem_of_getElem? (i := 54) rfl))) (mvT hZ (hw _ (List.mem_of_getElem? (i := 55) rfl))) (mvT hZ (hw _ (List.mem_of_getElem? (i := 56) rfl))) (mvT hZ (hw _ (List.mem_of_getElem? (i := 57) rfl))) (mvT hZ (hw _ (List.mem_of_getElem? (i := 58) rfl))) (mvT hZ (hw _ (List.mem_of_getElem? (i := 59) rfl))) (mvT hZ (hw _ (List.mem_of_getElem? (i := 60) rfl))) (mvT hZ (hw _ (List.mem_of_getElem? (i := 61) rfl))) (by decide) (backOf (W := 0) (rma2 l Z a0 hw [] al b (fun j => if j = (0 : Int32).toNatClampNeg then .ref o0 else .null) ((0 : Int32) + (1 : Int32)) ((0 : Int32) + (1 : Int32)) o1 T28.heap n0 Zs E_al F_modCount_al F_elementData_al F_size_al g_al V_b g_b ne_al_b (by decide) (by decide) E_o1) hZ (hw _ (List.mem_of_getElem? (i := 62) rfl)) (hw _ (List.mem_of_getElem? (i := 21) rfl)) (by decide) (by decide)) q29a q29b q29c (g := (mkF m 88 #[.val (.int i0), .val (.int i1), .val (.int i2), .val (.int i3), .val (.int cn), .val (.ref c0), .val (.ref c1), .val (.ref c2), .val (.ref al), .unset, .unset] [(.ref o1), (.ref al)])) rfl (by rw [hml]; rfl) (Steps.refl _) (argsL := [(.ref o1)]) (rest := []) (lenOf pd_19 rfl) rfl (by show 2 * 0 + _ ≤ _; exact Nat.le_of_eq rfl) (hb hby at_88) (fun _ _ => ⟨rfl, rfl, (Nat.le_of_ble_eq_true rfl), (Nat.le_of_ble_eq_true rfl)⟩)
    dsimp only [Pt.U, Pt.locs, Pt.cells, Pt.slots] at X29 l29 y29 z29 st29 hQ29
    subst l29 y29 z29
    obtain ⟨rfl, N29q, K29, F_modCount_al, F_elementData_al, F_size_al, V_b⟩ := hQ29
    have Nf := Fr.app Nf N29q
    have Ol := Ol.keep K29 (allS g_al (allS g_b all0))
    have E_c0 := E_c0.keep K29
    have F_status_c0 := F_status_c0.keep K29 (ninS ne_c0_al (ninS ne_c0_b nin0))
    have F_target_c0 := F_target_c0.keep K29 (ninS ne_c0_al (ninS ne_c0_b nin0))
    have E_al := E_al.keep K29
    have E_o0 := E_o0.keep K29
    have F_match_o0 := F_match_o0.keep K29 (ninS (Ne.symm ne_al_o0) (ninS ne_o0_b nin0))
    have F_action_o0 := F_action_o0.keep K29 (ninS (Ne.symm ne_al_o0) (ninS ne_o0_b nin0))
    have E_o1 := E_o1.keep K29
    have F_match_o1 := F_match_o1.keep K29 (ninS (Ne.symm ne_al_o1) (ninS (Ne.symm ne_b_o1) nin0))
    have F_action_o1 := F_action_o1.keep K29 (ninS (Ne.symm ne_al_o1) (ninS (Ne.symm ne_b_o1) nin0))
    have Kp := Kp.trans K29 (allS (Or.inr sz_al) (allS (Or.inr sz_b) all0))
    have Zs := Nat.le_trans Zs K29.1
    have szr := Nat.le_trans szr K29.1
    refine own_go (fun tQ kQ => st29.trans kQ) ?_
    show own_End p e below _ (T29.setTop (mkF m 93 #[.val (.int i0), .val (.int i1), .val (.int i2), .val (.int i3), .val (.int cn), .val (.ref c0), .val (.ref c1), .val (.ref c2), .val (.ref al), .unset, .unset] [(.int (1 : Int32))]))
    refine own_go (fun tQ kQ => XS.pop X29.here hx rfl (hb hby at_93) rfl rfl kQ) ?_
    show own_End p e below _ (T29.setTop (mkF m 94 #[.val (.int i0), .val (.int i1), .val (.int i2), .val (.int i3), .val (.int cn), .val (.ref c0), .val (.ref c1), .val (.ref c2), .val (.ref al), .unset, .unset] []))
    refine own_go (fun tQ kQ => XS.iload X29.here hx rfl (hb hby at_94) rfl kQ) ?_
    show own_End p e below _ (T29.setTop (mkF m 96 #[.val (.int i0), .val (.int i1), .val (.int i2), .val (.int i3), .val (.int cn), .val (.ref c0), .val (.ref c1), .val (.ref c2), .val (.ref al), .unset, .unset] [(.int cn)]))
    refine own_go (fun tQ kQ => XS.iconst X29.here hx rfl (hb hby at_96) kQ) ?_
    show own_End p e below _ (T29.setTop (mkF m 97 #[.val (.int i0), .val (.int i1), .val (.int i2), .val (.int i3), .val (.int cn), .val (.ref c0), .val (.ref c1), .val (.ref c2), .val (.ref al), .unset, .unset] [(.int (2 : Int32)), (.int cn)]))
    by_cases hc97 : (2 : Int32) < cn
    ·
      refine own_go (fun tQ kQ => XS.icmpNo X29.here hx rfl (hb hby at_97) rfl (tlt hc97).2.2.2 kQ) ?_
      show own_End p e below _ (T29.setTop (mkF m 100 #[.val (.int i0), .val (.int i1), .val (.int i2), .val (.int i3), .val (.int cn), .val (.ref c0), .val (.ref c1), .val (.ref c2), .val (.ref al), .unset, .unset] []))
      refine own_go (fun tQ kQ => XS.aload X29.here hx rfl (hb hby at_100) rfl rfl kQ) ?_
      show own_End p e below _ (T29.setTop (mkF m 102 #[.val (.int i0), .val (.int i1), .val (.int i2), .val (.int i3), .val (.int cn), .val (.ref c0), .val (.ref c1), .val (.ref c2), .val (.ref al), .unset, .unset] [(.ref al)]))
      obtain ⟨T30, h30, X30, e30, E30, A30, D30, -, st30⟩ := newO X29 hx hZ hown (hw _ (List.mem_of_getElem? (i := 43) rfl)) (hw _ (List.mem_of_getElem? (i := 44) rfl)) (hw _ (List.mem_of_getElem? (i := 45) rfl)) rfl (g := (mkF m 102 #[.val (.int i0), .val (.int i1), .val (.int i2), .val (.int i3), .val (.int cn), .val (.ref c0), .val (.ref c1), .val (.ref c2), .val (.ref al), .unset, .unset] [(.ref al)])) rfl (hb hby at_102) (by decide) (by decide)
      obtain ⟨o2, g30⟩ : ∃ z, z = T29.heap.size := ⟨_, rfl⟩
      rw [← g30] at A30 D30 st30
      have ne_c0_o2 : c0 ≠ o2 := Nat.ne_of_lt (Nat.lt_of_lt_of_le E_c0.lt (Nat.le_of_eq g30.symm))
      have ne_al_o2 : al ≠ o2 := Nat.ne_of_lt (Nat.lt_of_lt_of_le E_al.lt (Nat.le_of_eq g30.symm))
      have ne_o0_o2 : o0 ≠ o2 := Nat.ne_of_lt (Nat.lt_of_lt_of_le E_o0.lt (Nat.le_of_eq g30.symm))
      have ne_b_o2 : b ≠ o2 := Nat.ne_of_lt (Nat.lt_of_lt_of_le V_b.lt (Nat.le_of_eq g30.symm))
      have g_o2 : n0 ≤ o2 := Nat.le_trans Zs (Nat.le_of_eq g30.symm)
      have sz_o2 : h0.size ≤ o2 := Nat.le_trans szr (Nat.le_of_eq g30.symm)
      have Ol := Ol.ext E30
      have E_c0 := E_c0.ext E30
      have F_status_c0 := F_status_c0.ext E30
      have F_target_c0 := F_target_c0.ext E30
      have E_al := E_al.ext E30
      have E_o0 := E_o0.ext E30
      have F_match_o0 := F_match_o0.ext E30
      have F_action_o0 := F_action_o0.ext E30
      have F_modCount_al := F_modCount_al.ext E30
      have F_elementData_al := F_elementData_al.ext E30
      have F_size_al := F_size_al.ext E30
      have V_b := V_b.ext E30
      have Kp := Kp.ext E30
      have Zs := Nat.le_trans Zs E30.1
      have szr := Nat.le_trans szr E30.1
      have E_o2 := A30
      have F_match_o2 : Fld Z h30 o2 "com/example/resolvent/resolvent/resolution/Trial$Offer" "match" "Ljava/util/regex/Pattern;" .null := D30 (Or.inr (hw _ (List.mem_of_getElem? (i := 51) rfl))) (ty := (.object "java/util/regex/Pattern")) (by decide)
      have F_action_o2 : Fld Z h30 o2 "com/example/resolvent/resolvent/resolution/Trial$Offer" "action" "Lcom/example/resolvent/resolvent/resolution/CompiledAction;" .null := D30 (Or.inr (hw _ (List.mem_of_getElem? (i := 53) rfl))) (ty := (.object "com/example/resolvent/resolvent/resolution/CompiledAction")) (by decide)
      refine own_go (fun tQ kQ => st30 tQ kQ) ?_
      show own_End p e below _ (T30.setTop (mkF m 105 #[.val (.int i0), .val (.int i1), .val (.int i2), .val (.int i3), .val (.int cn), .val (.ref c0), .val (.ref c1), .val (.ref c2), .val (.ref al), .unset, .unset] [(.ref o2), (.ref al)]))
      refine own_go (fun tQ kQ => XS.dup X30.here hx rfl (hb hby at_105) rfl rfl kQ) ?_
      show own_End p e below _ (T30.setTop (mkF m 106 #[.val (.int i0), .val (.int i1), .val (.int i2), .val (.int i3), .val (.int cn), .val (.ref c0), .val (.ref c1), .val (.ref c2), .val (.ref al), .unset, .unset] [(.ref o2), (.ref o2), (.ref al)]))
      refine own_go (fun tQ kQ => XS.aconstNull X30.here hx rfl (hb hby at_106) kQ) ?_
      show own_End p e below _ (T30.setTop (mkF m 107 #[.val (.int i0), .val (.int i1), .val (.int i2), .val (.int i3), .val (.int cn), .val (.ref c0), .val (.ref c1), .val (.ref c2), .val (.ref al), .unset, .unset] [.null, (.ref o2), (.ref o2), (.ref al)]))
      refine own_go (fun tQ kQ => XS.aload X30.here hx rfl (hb hby at_107) rfl rfl kQ) ?_
      show own_End p e below _ (T30.setTop (mkF m 109 #[.val (.int i0), .val (.int i1), .val (.int i2), .val (.int i3), .val (.int cn), .val (.ref c0), .val (.ref c1), .val (.ref c2), .val (.ref al), .unset, .unset] [(.ref c2), .null, (.ref o2), (.ref o2), (.ref al)]))
      obtain ⟨_, _, ⟨T31, L31, k31, n31⟩, -, X31, ⟨Lc31, hQ31, l31, y31, z31⟩, st31⟩ := X30.specialBack hx (y := (⟨"com/example/resolvent/resolvent/resolution/Trial$Offer", "<init>", "(Ljava/util/regex/Pattern;Lcom/example/resolvent/resolvent/resolution/CompiledAction;)V"⟩ : MethodName)) rfl hown (mvT hZ (hw _ (List.mem_of_getElem? (i := 46) rfl))) (mvT hZ (hw _ (List.mem_of_getElem? (i := 47) rfl))) (mvT hZ (hw _ (List.mem_of_getElem? (i := 48) rfl))) (by decide) (backOf (W := 2) (rmOF l Z a0 hw [] o2 c2 h30 n0 Zs E_o2 F_match_o2 F_action_o2 g_o2) hZ (hw _ (List.mem_of_getElem? (i := 48) rfl)) (hw _ (List.mem_of_getElem? (i := 45) rfl)) (by decide) (by decide)) (g := (mkF m 109 #[.val (.int i0), .val (.int i1), .val (.int i2), .val (.int i3), .val (.int cn), .val (.ref c0), .val (.ref c1), .val (.ref c2), .val (.ref al), .unset, .unset] [(.ref c2), .null, (.ref o2), (.ref o2), (.ref al)])) rfl (by rw [hml]; rfl) (Steps.refl _) (a := o2) (argsL := [.null, (.ref c2)]) (rest := [(.ref o2), (.ref al)]) (lenOf pd_18 rfl) rfl (by show 2 * 0 + _ ≤ _; exact Nat.le_of_eq rfl) (hb hby at_109) (fun _ _ => ⟨rfl, e30, (Nat.le_of_ble_eq_true rfl), (Nat.le_of_ble_eq_true rfl)⟩)
      dsimp only [Pt.U, Pt.locs, Pt.cells, Pt.slots] at X31 l31 y31 z31 st31 hQ31
      subst l31 y31 z31
      obtain ⟨rfl, N31q, K31, F_match_o2, F_action_o2⟩ := hQ31
      have Nf := Fr.app Nf N31q
      have Ol := Ol.keep K31 (allS g_o2 all0)
      have E_c0 := E_c0.keep K31
      have F_status_c0 := F_status_c0.keep K31 (ninS ne_c0_o2 nin0)
      have F_target_c0 := F_target_c0.keep K31 (ninS ne_c0_o2 nin0)
      have E_al := E_al.keep K31
      have E_o0 := E_o0.keep K31
      have F_match_o0 := F_match_o0.keep K31 (ninS ne_o0_o2 nin0)
      have F_action_o0 := F_action_o0.keep K31 (ninS ne_o0_o2 nin0)
      have F_modCount_al := F_modCount_al.keep K31 (ninS ne_al_o2 nin0)
      have F_elementData_al := F_elementData_al.keep K31 (ninS ne_al_o2 nin0)
      have F_size_al := F_size_al.keep K31 (ninS ne_al_o2 nin0)
      have V_b := V_b.keep K31 (ninS ne_b_o2 nin0)
      have E_o2 := E_o2.keep K31
      have Kp := Kp.trans K31 (allS (Or.inr sz_o2) all0)
      have Zs := Nat.le_trans Zs K31.1
      have szr := Nat.le_trans szr K31.1
      refine own_go (fun tQ kQ => st31.trans kQ) ?_
      show own_End p e below _ (T31.setTop (mkF m 112 #[.val (.int i0), .val (.int i1), .val (.int i2), .val (.int i3), .val (.int cn), .val (.ref c0), .val (.ref c1), .val (.ref c2), .val (.ref al), .unset, .unset] [(.ref o2), (.ref al)]))
      obtain ⟨cq32, kq32, q32a, q32b, q32c⟩ := isOf hZ rfl E_al
      obtain ⟨_, _, ⟨T32, L32, k32, n32⟩, -, X32, ⟨Lc32, hQ32, l32, y32, z32⟩, st32⟩ := X31.interfaceBack hx (xi := (⟨"java/util/List", "add", "(Ljava/lang/Object;)Z"⟩ : MethodName)) (y := (⟨"java/util/ArrayList", "add", "(Ljava/lang/Object;)Z"⟩ : MethodName)) hown (mvT hZ (hw _ (List.mem_of_getElem? (i := 54) rfl))) (mvT hZ (hw _ (List.mem_of_getElem? (i := 55) rfl))) (mvT hZ (hw _ (List.mem_of_getElem? (i := 56) rfl))) (mvT hZ (hw _ (List.mem_of_getElem? (i := 57) rfl))) (mvT hZ (hw _ (List.mem_of_getElem? (i := 58) rfl))) (mvT hZ (hw _ (List.mem_of_getElem? (i := 59) rfl))) (mvT hZ (hw _ (List.mem_of_getElem? (i := 60) rfl))) (mvT hZ (hw _ (List.mem_of_getElem? (i := 61) rfl))) (by decide) (backOf (W := 0) (rma2 l Z a0 hw [] al b (fun j => if j = ((0 : Int32) + (1 : Int32)).toNatClampNeg then .ref o1 else (fun j => if j = (0 : Int32).toNatClampNeg then .ref o0 else .null) j) (((0 : Int32) + (1 : Int32)) + (1 : Int32)) (((0 : Int32) + (1 : Int32)) + (1 : Int32)) o2 T31.heap n0 Zs E_al F_modCount_al F_elementData_al F_size_al g_al V_b g_b ne_al_b (by decide) (by decide) E_o2) hZ (hw _ (List.mem_of_getElem? (i := 62) rfl)) (hw _ (List.mem_of_getElem? (i := 21) rfl)) (by decide) (by decide)) q32a q32b q32c (g := (mkF m 112 #[.val (.int i0), .val (.int i1), .val (.int i2), .val (.int i3), .val (.int cn), .val (.ref c0), .val (.ref c1), .val (.ref c2), .val (.ref al), .unset, .unset] [(.ref o2), (.ref al)])) rfl (by rw [hml]; rfl) (Steps.refl _) (argsL := [(.ref o2)]) (rest := []) (lenOf pd_19 rfl) rfl (by show 2 * 0 + _ ≤ _; exact Nat.le_of_eq rfl) (hb hby at_112) (fun _ _ => ⟨rfl, rfl, (Nat.le_of_ble_eq_true rfl), (Nat.le_of_ble_eq_true rfl)⟩)
      dsimp only [Pt.U, Pt.locs, Pt.cells, Pt.slots] at X32 l32 y32 z32 st32 hQ32
      subst l32 y32 z32
      obtain ⟨rfl, N32q, K32, F_modCount_al, F_elementData_al, F_size_al, V_b⟩ := hQ32
      have Nf := Fr.app Nf N32q
      have Ol := Ol.keep K32 (allS g_al (allS g_b all0))
      have E_c0 := E_c0.keep K32
      have F_status_c0 := F_status_c0.keep K32 (ninS ne_c0_al (ninS ne_c0_b nin0))
      have F_target_c0 := F_target_c0.keep K32 (ninS ne_c0_al (ninS ne_c0_b nin0))
      have E_al := E_al.keep K32
      have E_o0 := E_o0.keep K32
      have F_match_o0 := F_match_o0.keep K32 (ninS (Ne.symm ne_al_o0) (ninS ne_o0_b nin0))
      have F_action_o0 := F_action_o0.keep K32 (ninS (Ne.symm ne_al_o0) (ninS ne_o0_b nin0))
      have E_o2 := E_o2.keep K32
      have F_match_o2 := F_match_o2.keep K32 (ninS (Ne.symm ne_al_o2) (ninS (Ne.symm ne_b_o2) nin0))
      have F_action_o2 := F_action_o2.keep K32 (ninS (Ne.symm ne_al_o2) (ninS (Ne.symm ne_b_o2) nin0))
      have Kp := Kp.trans K32 (allS (Or.inr sz_al) (allS (Or.inr sz_b) all0))
      have Zs := Nat.le_trans Zs K32.1
      have szr := Nat.le_trans szr K32.1
      refine own_go (fun tQ kQ => st32.trans kQ) ?_
      show own_End p e below _ (T32.setTop (mkF m 117 #[.val (.int i0), .val (.int i1), .val (.int i2), .val (.int i3), .val (.int cn), .val (.ref c0), .val (.ref c1), .val (.ref c2), .val (.ref al), .unset, .unset] [(.int (1 : Int32))]))
      refine own_go (fun tQ kQ => XS.pop X32.here hx rfl (hb hby at_117) rfl rfl kQ) ?_
      show own_End p e below _ (T32.setTop (mkF m 118 #[.val (.int i0), .val (.int i1), .val (.int i2), .val (.int i3), .val (.int cn), .val (.ref c0), .val (.ref c1), .val (.ref c2), .val (.ref al), .unset, .unset] []))
      have hkc' : cn = ((((0 : Int32) + (1 : Int32)) + (1 : Int32)) + (1 : Int32)) := by rcases hcn with q | q | q <;> subst q <;> first | rfl | (exfalso; revert hc73; decide) | (exfalso; revert hc97; decide)
      exact J118_8_25 ((((0 : Int32) + (1 : Int32)) + (1 : Int32)) + (1 : Int32)) ((((0 : Int32) + (1 : Int32)) + (1 : Int32)) + (1 : Int32)) (fun j => if j = (((0 : Int32) + (1 : Int32)) + (1 : Int32)).toNatClampNeg then .ref o2 else (fun j => if j = ((0 : Int32) + (1 : Int32)).toNatClampNeg then .ref o1 else (fun j => if j = (0 : Int32).toNatClampNeg then .ref o0 else .null) j) j) T32 _ T32.heap X32 rfl Nf Zs Kp szr E_c0 F_status_c0 E_o0 F_action_o0 E_al F_modCount_al F_elementData_al F_size_al V_b (by decide) rfl hkc'.symm
    ·
      refine own_go (fun tQ kQ => XS.icmpYes X29.here hx rfl (pc0 := 97) (pc' := 118) rfl (hb hby at_97) rfl (flt hc97).2.2.2 (by decide) (by decide) kQ) ?_
      show own_End p e below _ (T29.setTop (mkF m 118 #[.val (.int i0), .val (.int i1), .val (.int i2), .val (.int i3), .val (.int cn), .val (.ref c0), .val (.ref c1), .val (.ref c2), .val (.ref al), .unset, .unset] []))
      have hkc' : cn = (((0 : Int32) + (1 : Int32)) + (1 : Int32)) := by rcases hcn with q | q | q <;> subst q <;> first | rfl | (exfalso; revert hc73; decide) | (exfalso; revert hc97; decide)
      exact J118_7_23 (((0 : Int32) + (1 : Int32)) + (1 : Int32)) (((0 : Int32) + (1 : Int32)) + (1 : Int32)) (fun j => if j = ((0 : Int32) + (1 : Int32)).toNatClampNeg then .ref o1 else (fun j => if j = (0 : Int32).toNatClampNeg then .ref o0 else .null) j) T29 _ T29.heap X29 rfl Nf Zs Kp szr E_c0 F_status_c0 E_o0 F_action_o0 E_al F_modCount_al F_elementData_al F_size_al V_b (by decide) rfl hkc'.symm
  ·
    refine own_go (fun tQ kQ => XS.icmpYes X11.here hx rfl (pc0 := 73) (pc' := 94) rfl (hb hby at_73) rfl (flt hc73).2.2.2 (by decide) (by decide) kQ) ?_
    show own_End p e below _ (T11.setTop (mkF m 94 #[.val (.int i0), .val (.int i1), .val (.int i2), .val (.int i3), .val (.int cn), .val (.ref c0), .val (.ref c1), .val (.ref c2), .val (.ref al), .unset, .unset] []))
    refine own_go (fun tQ kQ => XS.iload X11.here hx rfl (hb hby at_94) rfl kQ) ?_
    show own_End p e below _ (T11.setTop (mkF m 96 #[.val (.int i0), .val (.int i1), .val (.int i2), .val (.int i3), .val (.int cn), .val (.ref c0), .val (.ref c1), .val (.ref c2), .val (.ref al), .unset, .unset] [(.int cn)]))
    refine own_go (fun tQ kQ => XS.iconst X11.here hx rfl (hb hby at_96) kQ) ?_
    show own_End p e below _ (T11.setTop (mkF m 97 #[.val (.int i0), .val (.int i1), .val (.int i2), .val (.int i3), .val (.int cn), .val (.ref c0), .val (.ref c1), .val (.ref c2), .val (.ref al), .unset, .unset] [(.int (2 : Int32)), (.int cn)]))
    refine own_go (fun tQ kQ => XS.icmpYes X11.here hx rfl (pc0 := 97) (pc' := 118) rfl (hb hby at_97) rfl (flt (by rcases hcn with q | q | q <;> subst q <;> first | decide | (exfalso; revert hc73; decide))).2.2.2 (by decide) (by decide) kQ) ?_
    show own_End p e below _ (T11.setTop (mkF m 118 #[.val (.int i0), .val (.int i1), .val (.int i2), .val (.int i3), .val (.int cn), .val (.ref c0), .val (.ref c1), .val (.ref c2), .val (.ref al), .unset, .unset] []))
    have hc97 : ¬ (2 : Int32) < cn := by rcases hcn with q | q | q <;> subst q <;> first | decide | (exfalso; revert hc73; decide)
    have hkc' : cn = ((0 : Int32) + (1 : Int32)) := by rcases hcn with q | q | q <;> subst q <;> first | rfl | (exfalso; revert hc73; decide) | (exfalso; revert hc97; decide)
    exact J118_6_21 ((0 : Int32) + (1 : Int32)) ((0 : Int32) + (1 : Int32)) (fun j => if j = (0 : Int32).toNatClampNeg then .ref o0 else .null) T11 _ T11.heap X11 rfl Nf Zs Kp szr E_c0 F_status_c0 E_o0 F_action_o0 E_al F_modCount_al F_elementData_al F_size_al V_b (by decide) rfl hkc'.symm
set_option maxRecDepth 65536 in
set_option maxHeartbeats 40000000 in
theorem comes_1 {Post : Tables → Env → Array Value → State → Outcome → State → Prop} (hpost : ∀ tb e args s v u, (limb_1_1.after args s (.returned v) u = true ∧ limb_1_2.after args s (.returned v) u = true ∧ True) → FrameEnd s (.returned v) u (Jvm.fieldLocs frame_1_writes args s ++ Jvm.arrayLocs frame_1_arrays args s ++ Jvm.staticLocs frame_1_statics s) 32 128 → Post tb e args s (.returned v) u) :
    ArmFor flags0 classFile x code maxLocals ret World_1 tables_1 room_1 Calls_1 rest_1 Pre_1 Post := by
  intro l hfl _ _ p e ha hc hk s m args below hf hA hF happ hP
  obtain ⟨hcalls, hrest, hpre⟩ := hP
  obtain ⟨-, -, -, hnamed, -, -, -, hat⟩ := (Spec.applies_iff hf).mp happ
  obtain ⟨hg, hn⟩ := and_e (Cond.before_iff.mp (show (Jvm.Cond.and given_1 narrow_1).before args s = true from hpre))
  obtain ⟨h1, g0⟩ := and_e hg
  obtain ⟨k0, g1⟩ := and_e g0
  obtain ⟨k1, g2⟩ := and_e g1
  obtain ⟨k2, g3⟩ := and_e g2
  obtain ⟨w0, w1, w2, w3, rfl⟩ : ∃ w0 w1 w2 w3 : Value, args = #[w0, w1, w2, w3] := by
    have hs : args.size = 4 := by simpa [Cond.value, given_1] using h1
    obtain ⟨L⟩ := args
    match L, hs with
    | [w0, w1, w2, w3], _ => exact ⟨w0, w1, w2, w3, rfl⟩
  have hw := fun d (hd : d ∈ tables_1) => atoms_spec (ws := Jvm.Cond.code x code maxLocals ret :: tables_1) hat d (List.mem_cons_of_mem _ hd)
  have hfit : Fit s := fun {y c} hc i hi => by
    obtain ⟨ha, rfl⟩ := Array.getElem?_eq_some_iff.mp hc
    have q := List.all_eq_true.mp ((Array.all_eq_true_iff_forall_mem.mp hF) _ (Array.getElem_mem ha)) i (List.mem_range.mpr hi)
    simpa [Array.getElem?_eq_getElem hi] using q
  obtain ⟨v0, e0⟩ := is_v k0
  obtain rfl : w0 = (.int v0) := Option.some.inj e0
  obtain ⟨v1, e1⟩ := is_v k1
  obtain rfl : w1 = (.int v1) := Option.some.inj e1
  obtain ⟨v2, e2⟩ := is_v k2
  obtain rfl : w2 = (.int v2) := Option.some.inj e2
  obtain ⟨v3, e3⟩ := is_v g3
  obtain rfl : w3 = (.int v3) := Option.some.inj e3
  obtain ⟨hsets, hown0⟩ := atoms_of _ (rest_1_c_eq ▸ (show rest_1_c.before _ s = true from hrest))
  obtain ⟨de, ede⟩ := arr_v (Cond.before_iff.mp (hsets _ (List.mem_of_getElem? (i := 6) rfl)))
  have S_de : Sta s s.heap "java/util/ArrayList" "DEFAULTCAPACITY_EMPTY_ELEMENTDATA" "[Ljava/lang/Object;" (.ref de) := Sta.start ede (Or.inr ⟨hw _ (List.mem_of_getElem? (i := 21) rfl), hsets _ (List.mem_of_getElem? (i := 2) rfl)⟩)
  obtain ⟨cde, Ade⟩ := Arr.start ede (Cond.before_iff.mp (hsets _ (List.mem_of_getElem? (i := 6) rfl)))
  have hlen := Cond.before_iff.mp (hsets _ (List.mem_of_getElem? (i := 8) rfl))
  have hl0 : cde.slots.size = 0 := own_len0 hlen ede Ade
  have V_de : own_Ar s s.heap de (.object "java/lang/Object") (0 : Int32) (fun _ => .null) := ⟨cde, Ade, hl0, by decide, fun j hj => absurd hj (Nat.not_lt_zero _)⟩
  obtain ⟨n, o, h1, h2, h3, _, L, rfl, ⟨rfl, N⟩, hq⟩ := rm0 l s _ hw tables_1 v0 v1 v2 v3 de (fun _ => .null) s.heap s.heap.size (Nat.le_refl _) (Old.start s) S_de V_de p e ha hc hk s m _ below hf ((Spec.applies_iff_loose hf).mp happ).1 ⟨rfl, State.Warmed39.refl s, rfl⟩ trivial
  refine ⟨n, _, h1, h2, h3, hpost _ _ _ _ _ _ ⟨Cond.after_iff.mpr rfl, Cond.after_iff.mpr (eq_i res_at (Term.int_eval (1)) rfl), trivial⟩ ⟨hq.1, hq.2.1, (hq.2.2.sift fun y hy => Or.inr (N y hy)).mono (by decide) (by decide)⟩⟩
theorem main_1_1 : Claimed_1_1 := comes_1 fun _ _ _ _ _ _ h hF => ⟨h.1, hF⟩
theorem main_1_2 : Claimed_1_2 := comes_1 fun _ _ _ _ _ _ h hF => ⟨h.2.1, hF⟩
end Jvm.Pilot.@@N@@
namespace Jvm.Pilot.@@N@@
open Jvm Jvm.ClassFile Sem Op Lib Jvm.Free Jvm.Stand Jvm.Pilot.@@N@@.Jvm.D
/-! MADE BY PROGRAM (witnessworld.py) out of the Statement's table words and the real class files: 25 classes; the members and pool entries that the words name. The judged class is class 1, her method 1. -/
namespace start1
open Jvm.ClassFile
def u (s : String) : CpInfo := .utf8 (stringToUtf16 s)
/-- a pool by its gaps: so many unusable entries, then the entry; so many at the end -/
def gap : Nat → List CpInfo → List CpInfo
  | 0, r => r
  | n + 1, r => .unusable :: gap n r
def poolList (es : List (Nat × CpInfo)) (last : Nat) : List CpInfo := es.foldr (fun e r => gap e.1 (e.2 :: r)) (gap last [])
def pool (es : List (Nat × CpInfo)) (last : Nat) : Array CpInfo := ⟨poolList es last⟩
def fileOf (pool : Array CpInfo) (this : Nat) (attrs : Array Attribute := #[]) (ms : Array MethodInfo := #[]) (fl : Nat := 33) (sup : Nat := 0) (ifs : Array Nat := #[]) (fds : Array FieldInfo := #[]) : ClassFile where
  minorVersion := 0
  majorVersion := 65
  constantPool := pool
  accessFlags := fl
  thisClass := this
  superClass := sup
  interfaces := ifs
  fields := fds
  methods := ms
  attributes := attrs
def plain (name : String) (sup : Option ClassId) : Class where
  name := name
  kind := .ordinary
  loader := none
  accessFlags := 33
  super := sup
  interfaces := #[]
  cf := none
  fields := #[]
  methods := #[]
  instanceTypes := #[]
  staticTypes := #[]
  resolved := #[]
  callSites := []
  init := .initialized
  statics := none
  mirror := none

def pool0 : Array CpInfo := pool [(5, u "<init>"), (0, u "()V"), (1, .class_ 10), (1, u "java/lang/Object")] 113

def k0c0 : Code := { maxStack := 0, maxLocals := 1, code := object_method_1_code, exceptionTable := #[], attributes := #[] }
def k0m0 : Method := { name := "<init>", desc := "()V", sig := { parameters := [], returnType := none }, accessFlags := 1, code := some k0c0 }
/-- java/lang/Object -/
def k0 : Class := { plain "java/lang/Object" none with
  accessFlags := 33
  interfaces := #[]
  cf := some (fileOf pool0 8 #[] #[{ accessFlags := 1, nameIndex := 5, descriptorIndex := 6, attributes := #[] }] 33 0 #[] #[])
  fields := #[]
  methods := #[k0m0]
  instanceTypes := #[]
  staticTypes := #[]
  resolved := Array.replicate 124 none
  statics := none }

def pool1 : Array CpInfo := pool [(2, .class_ 4), (0, .nameAndType 5 6), (0, u "java/lang/Object"), (0, u "<init>"), (0, u "()V"), (0, .integer 2147483647), (0, .class_ 9), (0, u "com/example/resolvent/resolvent/resolution/CompiledAction"), (0, .methodref 8 11), (0, .nameAndType 5 12), (0, u "(ILcom/example/resolvent/resolvent/resolution/Target;)V"), (0, .class_ 14), (0, u "java/util/ArrayList"), (0, .methodref 13 3), (0, .class_ 17), (0, u "com/example/resolvent/resolvent/resolution/Trial$Offer"), (0, .methodref 16 19), (0, .nameAndType 5 20), (0, u "(Ljava/util/regex/Pattern;Lcom/example/resolvent/resolvent/resolution/CompiledAction;)V"), (0, .interfaceMethodref 22 23), (0, .class_ 24), (0, .nameAndType 25 26), (0, u "java/util/List"), (0, u "add"), (0, u "(Ljava/lang/Object;)Z"), (0, .class_ 28), (0, u "com/example/resolvent/resolvent/resolution/Trial$Negotiation"), (0, .methodref 27 30), (0, .nameAndType 5 31), (0, u "(Ljava/util/List;)V"), (0, .methodref 27 33), (0, .nameAndType 34 35), (0, u "offered"), (0, u "()Lcom/example/resolvent/resolvent/resolution/CompiledAction;"), (0, .methodref 8 37), (0, .nameAndType 38 39), (0, u "status"), (0, u "()I"), (0, .interfaceMethodref 22 41), (0, .nameAndType 42 39), (0, u "size"), (0, .class_ 44), (0, u "com/example/resolvent/resolvent/resolution/NegotiationOfferedPinLaw"), (2, u "law"), (0, u "(IIII)Z")] 8

def k1m0 : Method := { name := "<init>", desc := "()V", sig := { parameters := [], returnType := none }, accessFlags := 1, code := none }
def k1c1 : Code := { maxStack := 5, maxLocals := 11, code := code, exceptionTable := #[], attributes := #[] }
def k1m1 : Method := { name := "law", desc := "(IIII)Z", sig := { parameters := [.int, .int, .int, .int], returnType := some .boolean }, accessFlags := 9, code := some k1c1 }
/-- com/example/resolvent/resolvent/resolution/NegotiationOfferedPinLaw -/
def k1 : Class := { plain "com/example/resolvent/resolvent/resolution/NegotiationOfferedPinLaw" (some 0) with
  accessFlags := 49
  interfaces := #[]
  cf := some (fileOf pool1 43 #[] #[{ accessFlags := 1, nameIndex := 5, descriptorIndex := 6, attributes := #[] }, { accessFlags := 9, nameIndex := 47, descriptorIndex := 48, attributes := #[] }] 49 2 #[] #[])
  fields := #[]
  methods := #[k1m0, k1m1]
  instanceTypes := #[]
  staticTypes := #[]
  resolved := Array.replicate 57 none
  statics := none }

def pool2 : Array CpInfo := pool [(1, .methodref 2 3), (0, .class_ 4), (0, .nameAndType 5 6), (0, u "java/lang/Object"), (0, u "<init>"), (0, u "()V"), (0, .class_ 8), (0, u "java/lang/Record")] 13

def k2c0 : Code := { maxStack := 1, maxLocals := 1, code := jdk_30_method_1_code, exceptionTable := #[], attributes := #[] }
def k2m0 : Method := { name := "<init>", desc := "()V", sig := { parameters := [], returnType := none }, accessFlags := 4, code := some k2c0 }
/-- java/lang/Record -/
def k2 : Class := { plain "java/lang/Record" (some 0) with
  accessFlags := 1057
  interfaces := #[]
  cf := some (fileOf pool2 7 #[] #[{ accessFlags := 4, nameIndex := 5, descriptorIndex := 6, attributes := #[] }] 1057 2 #[] #[])
  fields := #[]
  methods := #[k2m0]
  instanceTypes := #[]
  staticTypes := #[]
  resolved := Array.replicate 22 none
  statics := none }

def pool3 : Array CpInfo := pool [(1, .methodref 2 3), (0, .class_ 4), (0, .nameAndType 5 6), (0, u "java/lang/Record"), (0, u "<init>"), (0, u "()V"), (0, .fieldref 8 9), (0, .class_ 10), (0, .nameAndType 11 12), (0, u "com/example/resolvent/resolvent/resolution/CompiledAction"), (0, u "status"), (0, u "I"), (0, .fieldref 8 14), (0, .nameAndType 15 16), (0, u "target"), (0, u "Lcom/example/resolvent/resolvent/resolution/Target;"), (10, u "()I"), (11, u "(ILcom/example/resolvent/resolvent/resolution/Target;)V")] 72

def k3c0 : Code := { maxStack := 2, maxLocals := 3, code := prog_7_method_1_code, exceptionTable := #[], attributes := #[] }
def k3m0 : Method := { name := "<init>", desc := "(ILcom/example/resolvent/resolvent/resolution/Target;)V", sig := { parameters := [.int, (.object "com/example/resolvent/resolvent/resolution/Target")], returnType := none }, accessFlags := 0, code := some k3c0 }
def k3c1 : Code := { maxStack := 1, maxLocals := 1, code := prog_7_method_7_code, exceptionTable := #[], attributes := #[] }
def k3m1 : Method := { name := "status", desc := "()I", sig := { parameters := [], returnType := some .int }, accessFlags := 1, code := some k3c1 }
/-- com/example/resolvent/resolvent/resolution/CompiledAction -/
def k3 : Class := { plain "com/example/resolvent/resolvent/resolution/CompiledAction" (some 2) with
  accessFlags := 48
  interfaces := #[]
  cf := some (fileOf pool3 8 #[] #[{ accessFlags := 0, nameIndex := 5, descriptorIndex := 39, attributes := #[] }, { accessFlags := 1, nameIndex := 11, descriptorIndex := 27, attributes := #[] }] 48 2 #[] #[{ accessFlags := 18, nameIndex := 11, descriptorIndex := 12, attributes := #[] }, { accessFlags := 18, nameIndex := 15, descriptorIndex := 16, attributes := #[] }])
  fields := #[{ name := "status", type := .int, accessFlags := 18, slot := 0, constantValue := 0 }, { name := "target", type := (.object "com/example/resolvent/resolvent/resolution/Target"), accessFlags := 18, slot := 1, constantValue := 0 }]
  methods := #[k3m0, k3m1]
  instanceTypes := #[.int, (.object "com/example/resolvent/resolvent/resolution/Target")]
  staticTypes := #[]
  resolved := Array.replicate 112 none
  statics := none }

def pool4 : Array CpInfo := pool [(8, .class_ 10), (1, u "java/lang/Iterable"), (24, .class_ 36), (0, u "java/lang/Object")] 25

/-- java/lang/Iterable -/
def k4 : Class := { plain "java/lang/Iterable" (some 0) with
  accessFlags := 1537
  interfaces := #[]
  cf := some (fileOf pool4 8 #[] #[] 1537 35 #[] #[])
  fields := #[]
  methods := #[]
  instanceTypes := #[]
  staticTypes := #[]
  resolved := Array.replicate 62 none
  statics := none }

def pool5 : Array CpInfo := pool [(10, .class_ 12), (1, u "java/util/Collection"), (47, .class_ 61), (0, u "java/lang/Object"), (0, .class_ 63), (0, u "java/lang/Iterable")] 51

/-- java/util/Collection -/
def k5 : Class := { plain "java/util/Collection" (some 0) with
  accessFlags := 1537
  interfaces := #[4]
  cf := some (fileOf pool5 10 #[] #[] 1537 60 #[62] #[])
  fields := #[]
  methods := #[]
  instanceTypes := #[]
  staticTypes := #[]
  resolved := Array.replicate 115 none
  statics := none }

def pool6 : Array CpInfo := pool [(1, .methodref 2 3), (0, .class_ 4), (0, .nameAndType 5 6), (0, u "java/lang/Object"), (0, u "<init>"), (0, u "()V"), (1, .class_ 10), (1, u "java/util/AbstractCollection"), (66, .class_ 78), (0, u "java/util/Collection")] 81

def k6c0 : Code := { maxStack := 1, maxLocals := 1, code := jdk_22_method_1_code, exceptionTable := #[], attributes := #[] }
def k6m0 : Method := { name := "<init>", desc := "()V", sig := { parameters := [], returnType := none }, accessFlags := 4, code := some k6c0 }
/-- java/util/AbstractCollection -/
def k6 : Class := { plain "java/util/AbstractCollection" (some 0) with
  accessFlags := 1057
  interfaces := #[5]
  cf := some (fileOf pool6 8 #[] #[{ accessFlags := 4, nameIndex := 5, descriptorIndex := 6, attributes := #[] }] 1057 2 #[77] #[])
  fields := #[]
  methods := #[k6m0]
  instanceTypes := #[]
  staticTypes := #[]
  resolved := Array.replicate 160 none
  statics := none }

def pool7 : Array CpInfo := pool [(8, .class_ 10), (1, u "java/util/SequencedCollection"), (15, .class_ 27), (0, u "java/lang/Object"), (0, .class_ 29), (0, u "java/util/Collection")] 27

/-- java/util/SequencedCollection -/
def k7 : Class := { plain "java/util/SequencedCollection" (some 0) with
  accessFlags := 1537
  interfaces := #[5]
  cf := some (fileOf pool7 8 #[] #[] 1537 26 #[28] #[])
  fields := #[]
  methods := #[]
  instanceTypes := #[]
  staticTypes := #[]
  resolved := Array.replicate 57 none
  statics := none }

def pool8 : Array CpInfo := pool [(8, .class_ 10), (1, u "java/util/List"), (49, u "add"), (3, u "(Ljava/lang/Object;)Z"), (10, u "get"), (0, u "(I)Ljava/lang/Object;"), (2, u "size"), (0, u "()I"), (22, .class_ 104), (0, u "java/lang/Object"), (15, .class_ 121), (0, u "java/util/SequencedCollection")] 129

def k8m0 : Method := { name := "size", desc := "()I", sig := { parameters := [], returnType := some .int }, accessFlags := 1025, code := none }
def k8m1 : Method := { name := "add", desc := "(Ljava/lang/Object;)Z", sig := { parameters := [(.object "java/lang/Object")], returnType := some .boolean }, accessFlags := 1025, code := none }
def k8m2 : Method := { name := "get", desc := "(I)Ljava/lang/Object;", sig := { parameters := [.int], returnType := some (.object "java/lang/Object") }, accessFlags := 1025, code := none }
/-- java/util/List -/
def k8 : Class := { plain "java/util/List" (some 0) with
  accessFlags := 1537
  interfaces := #[7]
  cf := some (fileOf pool8 8 #[] #[{ accessFlags := 1025, nameIndex := 79, descriptorIndex := 80, attributes := #[] }, { accessFlags := 1025, nameIndex := 60, descriptorIndex := 64, attributes := #[] }, { accessFlags := 1025, nameIndex := 75, descriptorIndex := 76, attributes := #[] }] 1537 103 #[120] #[])
  fields := #[]
  methods := #[k8m0, k8m1, k8m2]
  instanceTypes := #[]
  staticTypes := #[]
  resolved := Array.replicate 251 none
  statics := none }

def pool9 : Array CpInfo := pool [(1, .methodref 2 3), (0, .class_ 4), (0, .nameAndType 5 6), (0, u "java/util/AbstractCollection"), (0, u "<init>"), (0, u "()V"), (0, .fieldref 8 9), (0, .class_ 10), (0, .nameAndType 11 12), (0, u "java/util/AbstractList"), (0, u "modCount"), (0, u "I"), (64, .class_ 78), (0, u "java/util/AbstractList$Itr"), (3, .class_ 83), (0, u "java/util/AbstractList$ListItr"), (9, .class_ 94), (0, u "java/util/AbstractList$RandomAccessSubList"), (3, .class_ 99), (0, u "java/util/AbstractList$SubList"), (33, .class_ 134), (0, u "java/util/List"), (73, .class_ 209), (0, u "java/util/AbstractList$SubList$1"), (0, .class_ 211), (0, u "java/util/AbstractList$RandomAccessSpliterator")] 6

def k9c0 : Code := { maxStack := 2, maxLocals := 1, code := jdk_39_method_1_code, exceptionTable := #[], attributes := #[] }
def k9m0 : Method := { name := "<init>", desc := "()V", sig := { parameters := [], returnType := none }, accessFlags := 4, code := some k9c0 }
/-- java/util/AbstractList -/
def k9 : Class := { plain "java/util/AbstractList" (some 6) with
  accessFlags := 1057
  interfaces := #[8]
  cf := some (fileOf pool9 8 #[.nestMembers #[93, 98, 208, 210, 82, 77]] #[{ accessFlags := 4, nameIndex := 5, descriptorIndex := 6, attributes := #[] }] 1057 2 #[133] #[{ accessFlags := 132, nameIndex := 11, descriptorIndex := 12, attributes := #[] }])
  fields := #[{ name := "modCount", type := .int, accessFlags := 132, slot := 0, constantValue := 0 }]
  methods := #[k9m0]
  instanceTypes := #[.int]
  staticTypes := #[]
  resolved := Array.replicate 218 none
  statics := none }

def pool10 : Array CpInfo := pool [(1, .class_ 2), (0, u "java/util/RandomAccess"), (0, .class_ 4), (0, u "java/lang/Object")] 2

/-- java/util/RandomAccess -/
def k10 : Class := { plain "java/util/RandomAccess" (some 0) with
  accessFlags := 1537
  interfaces := #[]
  cf := some (fileOf pool10 1 #[] #[] 1537 3 #[] #[])
  fields := #[]
  methods := #[]
  instanceTypes := #[]
  staticTypes := #[]
  resolved := Array.replicate 7 none
  statics := none }

def pool11 : Array CpInfo := pool [(1, .class_ 2), (0, u "java/lang/Cloneable"), (0, .class_ 4), (0, u "java/lang/Object")] 2

/-- java/lang/Cloneable -/
def k11 : Class := { plain "java/lang/Cloneable" (some 0) with
  accessFlags := 1537
  interfaces := #[]
  cf := some (fileOf pool11 1 #[] #[] 1537 3 #[] #[])
  fields := #[]
  methods := #[]
  instanceTypes := #[]
  staticTypes := #[]
  resolved := Array.replicate 7 none
  statics := none }

def pool12 : Array CpInfo := pool [(1, .class_ 2), (0, u "java/io/Serializable"), (0, .class_ 4), (0, u "java/lang/Object")] 2

/-- java/io/Serializable -/
def k12 : Class := { plain "java/io/Serializable" (some 0) with
  accessFlags := 1537
  interfaces := #[]
  cf := some (fileOf pool12 1 #[] #[] 1537 3 #[] #[])
  fields := #[]
  methods := #[]
  instanceTypes := #[]
  staticTypes := #[]
  resolved := Array.replicate 7 none
  statics := none }

def pool13 : Array CpInfo := pool [(1, .methodref 2 3), (0, .class_ 4), (0, .nameAndType 5 6), (0, u "java/util/AbstractList"), (0, u "<init>"), (0, u "()V"), (0, .class_ 8), (0, u "java/lang/Object"), (0, .fieldref 10 11), (0, .class_ 12), (0, .nameAndType 13 14), (0, u "java/util/ArrayList"), (0, u "elementData"), (0, u "[Ljava/lang/Object;"), (2, u "EMPTY_ELEMENTDATA"), (21, .fieldref 10 40), (0, .nameAndType 41 14), (0, u "DEFAULTCAPACITY_EMPTY_ELEMENTDATA"), (5, u "()[Ljava/lang/Object;"), (0, .fieldref 10 49), (0, .nameAndType 50 51), (0, u "size"), (0, u "I"), (11, .fieldref 10 64), (0, .nameAndType 65 51), (0, u "modCount"), (3, .methodref 10 70), (0, .nameAndType 71 72), (0, u "grow"), (0, u "(I)[Ljava/lang/Object;"), (6, .methodref 80 81), (0, .class_ 82), (0, .nameAndType 83 84), (0, u "java/lang/Math"), (0, u "max"), (0, u "(II)I"), (11, u "(Ljava/lang/Object;)Z"), (21, .methodref 119 120), (0, .class_ 121), (0, .nameAndType 122 84), (0, u "java/util/Objects"), (0, u "checkIndex"), (0, .methodref 10 124), (0, .nameAndType 13 125), (0, u "(I)Ljava/lang/Object;"), (3, .methodref 10 130), (0, .nameAndType 71 47), (0, .methodref 10 132), (0, .nameAndType 133 134), (0, u "add"), (0, u "(Ljava/lang/Object;[Ljava/lang/Object;I)V"), (13, .class_ 149), (0, u "java/util/List"), (36, u "()I"), (75, .class_ 263), (0, u "java/util/ArrayList$ListItr"), (3, .class_ 268), (0, u "java/util/ArrayList$Itr"), (7, .class_ 277), (0, u "java/util/ArrayList$SubList"), (12, .class_ 291), (0, u "java/util/ArrayList$ArrayListSpliterator"), (37, .class_ 330), (0, u "java/util/RandomAccess"), (0, .class_ 332), (0, u "java/lang/Cloneable"), (0, .class_ 334), (0, u "java/io/Serializable"), (0, u "serialVersionUID"), (0, u "J"), (3, u "DEFAULT_CAPACITY"), (40, u "get"), (118, .class_ 501), (0, u "java/util/ArrayList$SubList$2"), (0, .class_ 503), (0, u "java/util/ArrayList$SubList$1")] 5

def k13c0 : Code := { maxStack := 2, maxLocals := 1, code := jdk_38_method_2_code, exceptionTable := #[], attributes := #[] }
def k13m0 : Method := { name := "<init>", desc := "()V", sig := { parameters := [], returnType := none }, accessFlags := 1, code := some k13c0 }
def k13c1 : Code := { maxStack := 4, maxLocals := 4, code := jdk_38_method_6_code, exceptionTable := #[], attributes := #[] }
def k13m1 : Method := { name := "grow", desc := "(I)[Ljava/lang/Object;", sig := { parameters := [.int], returnType := some (.array (.object "java/lang/Object")) }, accessFlags := 2, code := some k13c1 }
def k13c2 : Code := { maxStack := 3, maxLocals := 1, code := jdk_38_method_7_code, exceptionTable := #[], attributes := #[] }
def k13m2 : Method := { name := "grow", desc := "()[Ljava/lang/Object;", sig := { parameters := [], returnType := some (.array (.object "java/lang/Object")) }, accessFlags := 2, code := some k13c2 }
def k13c3 : Code := { maxStack := 1, maxLocals := 1, code := jdk_38_method_8_code, exceptionTable := #[], attributes := #[] }
def k13m3 : Method := { name := "size", desc := "()I", sig := { parameters := [], returnType := some .int }, accessFlags := 1, code := some k13c3 }
def k13c4 : Code := { maxStack := 2, maxLocals := 2, code := jdk_38_method_18_code, exceptionTable := #[], attributes := #[] }
def k13m4 : Method := { name := "elementData", desc := "(I)Ljava/lang/Object;", sig := { parameters := [.int], returnType := some (.object "java/lang/Object") }, accessFlags := 0, code := some k13c4 }
def k13c5 : Code := { maxStack := 2, maxLocals := 2, code := jdk_38_method_20_code, exceptionTable := #[], attributes := #[] }
def k13m5 : Method := { name := "get", desc := "(I)Ljava/lang/Object;", sig := { parameters := [.int], returnType := some (.object "java/lang/Object") }, accessFlags := 1, code := some k13c5 }
def k13c6 : Code := { maxStack := 3, maxLocals := 4, code := jdk_38_method_24_code, exceptionTable := #[], attributes := #[] }
def k13m6 : Method := { name := "add", desc := "(Ljava/lang/Object;[Ljava/lang/Object;I)V", sig := { parameters := [(.object "java/lang/Object"), (.array (.object "java/lang/Object")), .int], returnType := none }, accessFlags := 2, code := some k13c6 }
def k13c7 : Code := { maxStack := 4, maxLocals := 2, code := jdk_38_method_25_code, exceptionTable := #[], attributes := #[] }
def k13m7 : Method := { name := "add", desc := "(Ljava/lang/Object;)Z", sig := { parameters := [(.object "java/lang/Object")], returnType := some .boolean }, accessFlags := 1, code := some k13c7 }
/-- java/util/ArrayList -/
def k13 : Class := { plain "java/util/ArrayList" (some 9) with
  accessFlags := 33
  interfaces := #[8, 10, 11, 12]
  cf := some (fileOf pool13 10 #[.nestMembers #[290, 276, 500, 502, 262, 267]] #[{ accessFlags := 1, nameIndex := 5, descriptorIndex := 6, attributes := #[] }, { accessFlags := 2, nameIndex := 71, descriptorIndex := 72, attributes := #[] }, { accessFlags := 2, nameIndex := 71, descriptorIndex := 47, attributes := #[] }, { accessFlags := 1, nameIndex := 50, descriptorIndex := 186, attributes := #[] }, { accessFlags := 0, nameIndex := 13, descriptorIndex := 125, attributes := #[] }, { accessFlags := 1, nameIndex := 381, descriptorIndex := 125, attributes := #[] }, { accessFlags := 2, nameIndex := 133, descriptorIndex := 134, attributes := #[] }, { accessFlags := 1, nameIndex := 133, descriptorIndex := 96, attributes := #[] }] 33 2 #[148, 329, 331, 333] #[{ accessFlags := 26, nameIndex := 335, descriptorIndex := 336, attributes := #[] }, { accessFlags := 26, nameIndex := 340, descriptorIndex := 51, attributes := #[] }, { accessFlags := 26, nameIndex := 17, descriptorIndex := 14, attributes := #[] }, { accessFlags := 26, nameIndex := 41, descriptorIndex := 14, attributes := #[] }, { accessFlags := 128, nameIndex := 13, descriptorIndex := 14, attributes := #[] }, { accessFlags := 2, nameIndex := 50, descriptorIndex := 51, attributes := #[] }])
  fields := #[{ name := "serialVersionUID", type := .long, accessFlags := 26, slot := 0, constantValue := 0 }, { name := "DEFAULT_CAPACITY", type := .int, accessFlags := 26, slot := 1, constantValue := 0 }, { name := "EMPTY_ELEMENTDATA", type := (.array (.object "java/lang/Object")), accessFlags := 26, slot := 2, constantValue := 0 }, { name := "DEFAULTCAPACITY_EMPTY_ELEMENTDATA", type := (.array (.object "java/lang/Object")), accessFlags := 26, slot := 3, constantValue := 0 }, { name := "elementData", type := (.array (.object "java/lang/Object")), accessFlags := 128, slot := 1, constantValue := 0 }, { name := "size", type := .int, accessFlags := 2, slot := 2, constantValue := 0 }]
  methods := #[k13m0, k13m1, k13m2, k13m3, k13m4, k13m5, k13m6, k13m7]
  instanceTypes := #[.int, (.array (.object "java/lang/Object")), .int]
  staticTypes := #[.long, .int, (.array (.object "java/lang/Object")), (.array (.object "java/lang/Object"))]
  resolved := Array.replicate 509 none
  statics := some 0 }

def pool14 : Array CpInfo := pool [(1, .methodref 2 3), (0, .class_ 4), (0, .nameAndType 5 6), (0, u "java/lang/Record"), (0, u "<init>"), (0, u "()V"), (0, .fieldref 8 9), (0, .class_ 10), (0, .nameAndType 11 12), (0, u "com/example/resolvent/resolvent/resolution/Trial$Offer"), (0, u "match"), (0, u "Ljava/util/regex/Pattern;"), (0, .fieldref 8 14), (0, .nameAndType 15 16), (0, u "action"), (0, u "Lcom/example/resolvent/resolvent/resolution/CompiledAction;"), (12, u "(Ljava/util/regex/Pattern;Lcom/example/resolvent/resolvent/resolution/CompiledAction;)V"), (7, u "()Lcom/example/resolvent/resolvent/resolution/CompiledAction;"), (3, .class_ 42), (0, u "com/example/resolvent/resolvent/resolution/Trial")] 20

def k14c0 : Code := { maxStack := 2, maxLocals := 3, code := prog_34_method_1_code, exceptionTable := #[], attributes := #[] }
def k14m0 : Method := { name := "<init>", desc := "(Ljava/util/regex/Pattern;Lcom/example/resolvent/resolvent/resolution/CompiledAction;)V", sig := { parameters := [(.object "java/util/regex/Pattern"), (.object "com/example/resolvent/resolvent/resolution/CompiledAction")], returnType := none }, accessFlags := 1, code := some k14c0 }
def k14c1 : Code := { maxStack := 1, maxLocals := 1, code := prog_34_method_6_code, exceptionTable := #[], attributes := #[] }
def k14m1 : Method := { name := "action", desc := "()Lcom/example/resolvent/resolvent/resolution/CompiledAction;", sig := { parameters := [], returnType := some (.object "com/example/resolvent/resolvent/resolution/CompiledAction") }, accessFlags := 1, code := some k14c1 }
/-- com/example/resolvent/resolvent/resolution/Trial$Offer -/
def k14 : Class := { plain "com/example/resolvent/resolvent/resolution/Trial$Offer" (some 2) with
  accessFlags := 49
  interfaces := #[]
  cf := some (fileOf pool14 8 #[.nestHost 41] #[{ accessFlags := 1, nameIndex := 5, descriptorIndex := 29, attributes := #[] }, { accessFlags := 1, nameIndex := 15, descriptorIndex := 37, attributes := #[] }] 49 2 #[] #[{ accessFlags := 18, nameIndex := 11, descriptorIndex := 12, attributes := #[] }, { accessFlags := 18, nameIndex := 15, descriptorIndex := 16, attributes := #[] }])
  fields := #[{ name := "match", type := (.object "java/util/regex/Pattern"), accessFlags := 18, slot := 0, constantValue := 0 }, { name := "action", type := (.object "com/example/resolvent/resolvent/resolution/CompiledAction"), accessFlags := 18, slot := 1, constantValue := 0 }]
  methods := #[k14m0, k14m1]
  instanceTypes := #[(.object "java/util/regex/Pattern"), (.object "com/example/resolvent/resolvent/resolution/CompiledAction")]
  staticTypes := #[]
  resolved := Array.replicate 63 none
  statics := none }

def pool15 : Array CpInfo := pool [(1, .class_ 2), (0, u "java/lang/Math"), (1, .class_ 6), (1, u "java/lang/Object"), (0, u "<init>"), (0, u "()V"), (89, .class_ 100), (1, u "java/lang/Math$RandomNumberGeneratorHolder"), (71, u "negativeZeroFloatBits"), (0, u "J"), (2, u "negativeZeroDoubleBits"), (21, u "max"), (46, u "$assertionsDisabled"), (0, u "Z"), (88, u "(II)I"), (2, u "twoToTheDoubleScaleDown"), (0, u "D"), (4, u "twoToTheDoubleScaleUp"), (9, u "E"), (3, u "PI"), (2, u "TAU"), (2, u "DEGREES_TO_RADIANS"), (0, u "RADIANS_TO_DEGREES")] 94

def k15m0 : Method := { name := "<init>", desc := "()V", sig := { parameters := [], returnType := none }, accessFlags := 2, code := none }
def k15c1 : Code := { maxStack := 2, maxLocals := 2, code := jdk_29_method_65_code, exceptionTable := #[], attributes := #[] }
def k15m1 : Method := { name := "max", desc := "(II)I", sig := { parameters := [.int, .int], returnType := some .int }, accessFlags := 9, code := some k15c1 }
/-- java/lang/Math -/
def k15 : Class := { plain "java/lang/Math" (some 0) with
  accessFlags := 49
  interfaces := #[]
  cf := some (fileOf pool15 1 #[.nestMembers #[98]] #[{ accessFlags := 2, nameIndex := 7, descriptorIndex := 8, attributes := #[] }, { accessFlags := 9, nameIndex := 198, descriptorIndex := 335, attributes := #[] }] 49 4 #[] #[{ accessFlags := 25, nameIndex := 354, descriptorIndex := 339, attributes := #[] }, { accessFlags := 25, nameIndex := 358, descriptorIndex := 339, attributes := #[] }, { accessFlags := 25, nameIndex := 361, descriptorIndex := 339, attributes := #[] }, { accessFlags := 26, nameIndex := 364, descriptorIndex := 339, attributes := #[] }, { accessFlags := 26, nameIndex := 365, descriptorIndex := 339, attributes := #[] }, { accessFlags := 26, nameIndex := 172, descriptorIndex := 173, attributes := #[] }, { accessFlags := 26, nameIndex := 176, descriptorIndex := 173, attributes := #[] }, { accessFlags := 8, nameIndex := 344, descriptorIndex := 339, attributes := #[] }, { accessFlags := 8, nameIndex := 338, descriptorIndex := 339, attributes := #[] }, { accessFlags := 4120, nameIndex := 245, descriptorIndex := 246, attributes := #[] }])
  fields := #[{ name := "E", type := .double, accessFlags := 25, slot := 0, constantValue := 0 }, { name := "PI", type := .double, accessFlags := 25, slot := 1, constantValue := 0 }, { name := "TAU", type := .double, accessFlags := 25, slot := 2, constantValue := 0 }, { name := "DEGREES_TO_RADIANS", type := .double, accessFlags := 26, slot := 3, constantValue := 0 }, { name := "RADIANS_TO_DEGREES", type := .double, accessFlags := 26, slot := 4, constantValue := 0 }, { name := "negativeZeroFloatBits", type := .long, accessFlags := 26, slot := 5, constantValue := 0 }, { name := "negativeZeroDoubleBits", type := .long, accessFlags := 26, slot := 6, constantValue := 0 }, { name := "twoToTheDoubleScaleUp", type := .double, accessFlags := 8, slot := 7, constantValue := 0 }, { name := "twoToTheDoubleScaleDown", type := .double, accessFlags := 8, slot := 8, constantValue := 0 }, { name := "$assertionsDisabled", type := .boolean, accessFlags := 4120, slot := 9, constantValue := 0 }]
  methods := #[k15m0, k15m1]
  instanceTypes := #[]
  staticTypes := #[.double, .double, .double, .double, .double, .long, .long, .double, .double, .boolean]
  resolved := Array.replicate 460 none
  statics := none }

def pool16 : Array CpInfo := pool [(8, .class_ 10), (1, u "com/example/resolvent/resolvent/resolution/Trial"), (37, .class_ 49), (0, u "com/example/resolvent/resolvent/resolution/Trial$Offer"), (25, .class_ 76), (0, u "com/example/resolvent/resolvent/resolution/Trial$Negotiation"), (43, .class_ 122), (1, u "com/example/resolvent/resolvent/resolution/Trial$1"), (10, .class_ 134), (0, u "com/example/resolvent/resolvent/resolution/Trial$ExtensionTrial"), (1, .class_ 137), (0, u "com/example/resolvent/resolvent/resolution/Trial$FieldsTrial"), (17, .class_ 156), (0, u "com/example/resolvent/resolvent/resolution/Trial$ComparisonsTrial"), (25, .class_ 183), (0, u "java/lang/Object"), (16, .class_ 201), (0, u "com/example/resolvent/resolvent/resolution/Trial$Captured"), (0, .class_ 203), (0, u "com/example/resolvent/resolvent/resolution/Trial$Choice")] 69

/-- com/example/resolvent/resolvent/resolution/Trial -/
def k16 : Class := { plain "com/example/resolvent/resolvent/resolution/Trial" (some 0) with
  accessFlags := 1536
  interfaces := #[]
  cf := some (fileOf pool16 8 #[.nestMembers #[120, 200, 202, 155, 136, 133, 75, 48]] #[] 1536 182 #[] #[])
  fields := #[]
  methods := #[]
  instanceTypes := #[]
  staticTypes := #[]
  resolved := Array.replicate 273 none
  statics := none }

def pool17 : Array CpInfo := pool [(1, .methodref 2 3), (0, .class_ 4), (0, .nameAndType 5 6), (0, u "java/lang/Record"), (0, u "<init>"), (0, u "()V"), (0, .fieldref 8 9), (0, .class_ 10), (0, .nameAndType 11 12), (0, u "com/example/resolvent/resolvent/resolution/Trial$Negotiation"), (0, u "offers"), (0, u "Ljava/util/List;"), (13, .class_ 28), (1, u "java/util/List"), (14, .class_ 44), (0, u "com/example/resolvent/resolvent/resolution/Trial$Offer"), (9, .methodref 43 55), (0, .nameAndType 56 57), (0, u "action"), (0, u "()Lcom/example/resolvent/resolvent/resolution/CompiledAction;"), (9, .interfaceMethodref 26 68), (0, .nameAndType 69 70), (0, u "get"), (0, u "(I)Ljava/lang/Object;"), (12, .class_ 84), (0, u "com/example/resolvent/resolvent/resolution/Trial"), (2, u "(Ljava/util/List;)V"), (8, u "offered")] 28

def k17c0 : Code := { maxStack := 2, maxLocals := 2, code := prog_33_method_1_code, exceptionTable := #[], attributes := #[] }
def k17m0 : Method := { name := "<init>", desc := "(Ljava/util/List;)V", sig := { parameters := [(.object "java/util/List")], returnType := none }, accessFlags := 1, code := some k17c0 }
def k17c1 : Code := { maxStack := 2, maxLocals := 1, code := prog_33_method_3_code, exceptionTable := #[], attributes := #[] }
def k17m1 : Method := { name := "offered", desc := "()Lcom/example/resolvent/resolvent/resolution/CompiledAction;", sig := { parameters := [], returnType := some (.object "com/example/resolvent/resolvent/resolution/CompiledAction") }, accessFlags := 1, code := some k17c1 }
/-- com/example/resolvent/resolvent/resolution/Trial$Negotiation -/
def k17 : Class := { plain "com/example/resolvent/resolvent/resolution/Trial$Negotiation" (some 2) with
  accessFlags := 49
  interfaces := #[16]
  cf := some (fileOf pool17 8 #[.nestHost 83] #[{ accessFlags := 1, nameIndex := 5, descriptorIndex := 87, attributes := #[] }, { accessFlags := 1, nameIndex := 96, descriptorIndex := 57, attributes := #[] }] 49 2 #[83] #[{ accessFlags := 18, nameIndex := 11, descriptorIndex := 12, attributes := #[] }])
  fields := #[{ name := "offers", type := (.object "java/util/List"), accessFlags := 18, slot := 0, constantValue := 0 }]
  methods := #[k17m0, k17m1]
  instanceTypes := #[(.object "java/util/List")]
  staticTypes := #[]
  resolved := Array.replicate 125 none
  statics := none }

def pool18 : Array CpInfo := pool [(2, .class_ 4), (1, u "java/lang/Object"), (0, u "<init>"), (0, u "()V"), (35, .class_ 44), (1, u "java/util/Objects"), (60, .methodref 106 107), (0, .class_ 108), (0, .nameAndType 109 110), (0, u "jdk/internal/util/Preconditions"), (0, u "checkIndex"), (0, u "(IILjava/util/function/BiFunction;)I"), (60, u "(II)I")] 12

def k18m0 : Method := { name := "<init>", desc := "()V", sig := { parameters := [], returnType := none }, accessFlags := 2, code := none }
def k18c1 : Code := { maxStack := 3, maxLocals := 2, code := jdk_31_method_17_code, exceptionTable := #[], attributes := #[] }
def k18m1 : Method := { name := "checkIndex", desc := "(II)I", sig := { parameters := [.int, .int], returnType := some .int }, accessFlags := 9, code := some k18c1 }
/-- java/util/Objects -/
def k18 : Class := { plain "java/util/Objects" (some 0) with
  accessFlags := 49
  interfaces := #[]
  cf := some (fileOf pool18 42 #[] #[{ accessFlags := 2, nameIndex := 5, descriptorIndex := 6, attributes := #[] }, { accessFlags := 9, nameIndex := 109, descriptorIndex := 171, attributes := #[] }] 49 2 #[] #[])
  fields := #[]
  methods := #[k18m0, k18m1]
  instanceTypes := #[]
  staticTypes := #[]
  resolved := Array.replicate 184 none
  statics := none }

def pool19 : Array CpInfo := pool [(2, .class_ 4), (1, u "java/lang/Object"), (0, u "<init>"), (0, u "()V"), (17, .class_ 26), (1, u "jdk/internal/util/Preconditions"), (6, u "checkIndex"), (21, .class_ 56), (0, u "jdk/internal/util/Preconditions$4"), (57, .class_ 115), (0, u "jdk/internal/util/Preconditions$1"), (7, u "SIOOBE_FORMATTER"), (0, u "Ljava/util/function/BiFunction;"), (0, .class_ 126), (0, u "jdk/internal/util/Preconditions$2"), (3, u "AIOOBE_FORMATTER"), (0, .class_ 132), (0, u "jdk/internal/util/Preconditions$3"), (3, u "IOOBE_FORMATTER"), (41, u "(IILjava/util/function/BiFunction;)I")] 15

def k19m0 : Method := { name := "<init>", desc := "()V", sig := { parameters := [], returnType := none }, accessFlags := 1, code := none }
def k19c1 : Code := { maxStack := 3, maxLocals := 3, code := jdk_41_method_11_code, exceptionTable := #[], attributes := #[] }
def k19m1 : Method := { name := "checkIndex", desc := "(IILjava/util/function/BiFunction;)I", sig := { parameters := [.int, .int, (.object "java/util/function/BiFunction")], returnType := some .int }, accessFlags := 9, code := some k19c1 }
/-- jdk/internal/util/Preconditions -/
def k19 : Class := { plain "jdk/internal/util/Preconditions" (some 0) with
  accessFlags := 33
  interfaces := #[]
  cf := some (fileOf pool19 24 #[.nestMembers #[55, 131, 125, 114]] #[{ accessFlags := 1, nameIndex := 5, descriptorIndex := 6, attributes := #[] }, { accessFlags := 9, nameIndex := 33, descriptorIndex := 178, attributes := #[] }] 33 2 #[] #[{ accessFlags := 25, nameIndex := 123, descriptorIndex := 124, attributes := #[] }, { accessFlags := 25, nameIndex := 130, descriptorIndex := 124, attributes := #[] }, { accessFlags := 25, nameIndex := 136, descriptorIndex := 124, attributes := #[] }])
  fields := #[{ name := "SIOOBE_FORMATTER", type := (.object "java/util/function/BiFunction"), accessFlags := 25, slot := 0, constantValue := 0 }, { name := "AIOOBE_FORMATTER", type := (.object "java/util/function/BiFunction"), accessFlags := 25, slot := 1, constantValue := 0 }, { name := "IOOBE_FORMATTER", type := (.object "java/util/function/BiFunction"), accessFlags := 25, slot := 2, constantValue := 0 }]
  methods := #[k19m0, k19m1]
  instanceTypes := #[]
  staticTypes := #[(.object "java/util/function/BiFunction"), (.object "java/util/function/BiFunction"), (.object "java/util/function/BiFunction")]
  resolved := Array.replicate 194 none
  statics := none }

/-- the primitive byte -/
def k20 : Class := { plain "byte" none with kind := .primitive 'B', accessFlags := 0x411 }
/-- [B -/
def k21 : Class := { plain "[B" (some 0) with kind := .array 20 .byte, interfaces := #[11, 12], accessFlags := 1041 }

/-- the primitive int -/
def k22 : Class := { plain "int" none with kind := .primitive 'I', accessFlags := 0x411 }
/-- [I -/
def k23 : Class := { plain "[I" (some 0) with kind := .array 22 .int, interfaces := #[11, 12], accessFlags := 1041 }

/-- [Ljava/lang/Object; -/
def k24 : Class := { plain "[Ljava/lang/Object;" (some 0) with kind := .array 0 (.object "java/lang/Object"), interfaces := #[11, 12], accessFlags := 1041 }

def heap : Heap := #[{ cls := 13, slots := #[.long 0, .int 0, .ref 1, .ref 2], vm := .statics 13 },
  { cls := 24, slots := #[], vm := .none },
  { cls := 24, slots := #[], vm := .none }]
def classes : Array Class := #[k0, k1, k2, k3, k4, k5, k6, k7, k8, k9, k10, k11, k12, k13, k14, k15, k16, k17, k18, k19, k20, k21, k22, k23, k24]
def interned : List (Array UInt16 × Addr) := []
def slotsUsed : Nat := 4
def theMethod : MethodId := ⟨1, 1⟩
def args0 : Array Value := #[.int 5, .int 5, .int 5, .int 5]
def aboutOver (below : List Frame) : State where
  vm := { classes := classes, interned := interned.toArray }
  heap := heap
  slotsUsed := slotsUsed
  threads := #[{ frames := .invoking theMethod args0 :: below }]
def below0 : List Frame := [.native { method := ⟨0, 0⟩, args := #[] }]
def about1 : State := aboutOver below0
def p0 : Program := .bare "" "" ""
def e0 : Env := launch0.env 0 0 0
theorem w_frames : about1.frames = Frame.invoking theMethod args0 :: below0 := rfl
set_option maxRecDepth 65536 in
theorem w_args : argsFit about1.vm theMethod args0 = true := by decide +kernel
set_option maxRecDepth 65536 in
theorem w_heap : heapFits about1 = true := by decide +kernel
set_option maxRecDepth 65536 in
theorem w_runnable : about1.curStatus? = some .runnable := by decide +kernel
set_option maxRecDepth 65536 in
theorem w_alone : about1.alone = true := by decide +kernel
set_option maxRecDepth 65536 in
theorem w_named : about1.methodNamed? x = some theMethod := by decide +kernel
set_option maxRecDepth 65536 in
theorem w_hears : about1.hears theMethod below0 = true := by decide +kernel
set_option maxRecDepth 65536 in
theorem w_ripe : about1.ripe theMethod args0 below0 = true := by decide +kernel
theorem w_running : about1.status = .running := rfl
set_option maxRecDepth 65536 in
theorem w_room : about1.hasRoom e0.platform room_1 = true :=
  launch0.hasRoom_least _ room_1 (by decide +kernel) (by decide +kernel) (by decide +kernel) (by decide +kernel) (by decide +kernel) (by decide +kernel)
theorem allAtoms_all (ts : List Jvm.Cond) (a : Array Jvm.Value) (st : Jvm.State) : (allAtoms ts).before a st = ts.all (fun c => c.before a st) := by
  induction ts with
  | nil => rfl
  | cons c t ih =>
    show (Jvm.Cond.and c (allAtoms t)).before a st = _
    rw [Jvm.Cond.before_and, ih, List.all_cons]
def words1 : List Jvm.Cond := Jvm.Cond.code x code maxLocals ret :: tables_1
/-- a 'code' word, met by the world's own term for the bytes: nothing is compared byte by byte -/
theorem code_word {y : MethodName} {bytes : ByteArray} {mx : Nat} {rt : Option FieldType} {a : Array Value} {s : State} {m : MethodId} {meth : Method} {c : Code} (h1 : s.methodNamed? y = some m) (h2 : s.vm.method? m = some meth) (h3 : meth.code = some c) (h4 : c.code = bytes)
    (h5 : (c.maxLocals == mx && c.exceptionTable.isEmpty && decide (c.maxStack ≤ mostOperands) && decide (meth.sig.returnType = rt) && !meth.locks && decide (parseMethodDescriptor y.desc = some meth.sig)) = true) : (Jvm.Cond.code y bytes mx rt).before a s = true := by
  simp only [Bool.and_eq_true, beq_iff_eq, Bool.not_eq_true', decide_eq_true_eq] at h5
  obtain ⟨⟨⟨⟨⟨g1, g2⟩, g3⟩, g4⟩, g5⟩, g6⟩ := h5
  simp [Cond.before, Cond.holds, Cond.value, h1, h2, h3, h4, g1, g2, g3, g4, g5, g6]
def isCode : Jvm.Cond → Bool
  | .code _ _ _ _ => true
  | _ => false
theorem all_split {L : List Jvm.Cond} {P : Jvm.Cond → Bool} (h1 : L.all (fun c => isCode c || P c) = true) (h2 : ∀ c ∈ L.filter isCode, P c = true) : L.all P = true := by
  refine List.all_eq_true.mpr fun c hc => ?_
  have h := List.all_eq_true.mp h1 c hc
  rcases Bool.eq_false_or_eq_true (isCode c) with hi | hi
  · exact h2 c (List.mem_filter.mpr ⟨hc, hi⟩)
  · simpa [hi] using h
set_option maxRecDepth 65536 in
theorem w_c0 : (Jvm.Cond.code x code maxLocals ret).before args0 about1 = true := code_word (m := ⟨1, 1⟩) (meth := k1m1) (c := k1c1) (by decide +kernel) rfl rfl rfl (by decide +kernel)
set_option maxRecDepth 65536 in
theorem w_c1 : (Jvm.Cond.code ({ cls := "com/example/resolvent/resolvent/resolution/CompiledAction", name := "<init>", desc := "(ILcom/example/resolvent/resolvent/resolution/Target;)V" } : Jvm.MethodName) prog_7_method_1_code (3 : Nat) (Option.none : Option Jvm.ClassFile.FieldType)).before args0 about1 = true := code_word (m := ⟨3, 0⟩) (meth := k3m0) (c := k3c0) (by decide +kernel) rfl rfl rfl (by decide +kernel)
set_option maxRecDepth 65536 in
theorem w_c2 : (Jvm.Cond.code ({ cls := "java/lang/Record", name := "<init>", desc := "()V" } : Jvm.MethodName) jdk_30_method_1_code (1 : Nat) (Option.none : Option Jvm.ClassFile.FieldType)).before args0 about1 = true := code_word (m := ⟨2, 0⟩) (meth := k2m0) (c := k2c0) (by decide +kernel) rfl rfl rfl (by decide +kernel)
set_option maxRecDepth 65536 in
theorem w_c3 : (Jvm.Cond.code ({ cls := "java/lang/Object", name := "<init>", desc := "()V" } : Jvm.MethodName) object_method_1_code (1 : Nat) (Option.none : Option Jvm.ClassFile.FieldType)).before args0 about1 = true := code_word (m := ⟨0, 0⟩) (meth := k0m0) (c := k0c0) (by decide +kernel) rfl rfl rfl (by decide +kernel)
set_option maxRecDepth 65536 in
theorem w_c4 : (Jvm.Cond.code ({ cls := "java/util/ArrayList", name := "<init>", desc := "()V" } : Jvm.MethodName) jdk_38_method_2_code (1 : Nat) (Option.none : Option Jvm.ClassFile.FieldType)).before args0 about1 = true := code_word (m := ⟨13, 0⟩) (meth := k13m0) (c := k13c0) (by decide +kernel) rfl rfl rfl (by decide +kernel)
set_option maxRecDepth 65536 in
theorem w_c5 : (Jvm.Cond.code ({ cls := "java/util/AbstractList", name := "<init>", desc := "()V" } : Jvm.MethodName) jdk_39_method_1_code (1 : Nat) (Option.none : Option Jvm.ClassFile.FieldType)).before args0 about1 = true := code_word (m := ⟨9, 0⟩) (meth := k9m0) (c := k9c0) (by decide +kernel) rfl rfl rfl (by decide +kernel)
set_option maxRecDepth 65536 in
theorem w_c6 : (Jvm.Cond.code ({ cls := "java/util/AbstractCollection", name := "<init>", desc := "()V" } : Jvm.MethodName) jdk_22_method_1_code (1 : Nat) (Option.none : Option Jvm.ClassFile.FieldType)).before args0 about1 = true := code_word (m := ⟨6, 0⟩) (meth := k6m0) (c := k6c0) (by decide +kernel) rfl rfl rfl (by decide +kernel)
set_option maxRecDepth 65536 in
theorem w_c7 : (Jvm.Cond.code ({ cls := "com/example/resolvent/resolvent/resolution/Trial$Offer", name := "<init>", desc := "(Ljava/util/regex/Pattern;Lcom/example/resolvent/resolvent/resolution/CompiledAction;)V" } : Jvm.MethodName) prog_34_method_1_code (3 : Nat) (Option.none : Option Jvm.ClassFile.FieldType)).before args0 about1 = true := code_word (m := ⟨14, 0⟩) (meth := k14m0) (c := k14c0) (by decide +kernel) rfl rfl rfl (by decide +kernel)
set_option maxRecDepth 65536 in
theorem w_c8 : (Jvm.Cond.code ({ cls := "java/util/ArrayList", name := "add", desc := "(Ljava/lang/Object;)Z" } : Jvm.MethodName) jdk_38_method_25_code (2 : Nat) (Option.some Jvm.ClassFile.FieldType.boolean)).before args0 about1 = true := code_word (m := ⟨13, 7⟩) (meth := k13m7) (c := k13c7) (by decide +kernel) rfl rfl rfl (by decide +kernel)
set_option maxRecDepth 65536 in
theorem w_c9 : (Jvm.Cond.code ({ cls := "java/util/ArrayList", name := "add", desc := "(Ljava/lang/Object;[Ljava/lang/Object;I)V" } : Jvm.MethodName) jdk_38_method_24_code (4 : Nat) (Option.none : Option Jvm.ClassFile.FieldType)).before args0 about1 = true := code_word (m := ⟨13, 6⟩) (meth := k13m6) (c := k13c6) (by decide +kernel) rfl rfl rfl (by decide +kernel)
set_option maxRecDepth 65536 in
theorem w_c10 : (Jvm.Cond.code ({ cls := "java/util/ArrayList", name := "grow", desc := "()[Ljava/lang/Object;" } : Jvm.MethodName) jdk_38_method_7_code (1 : Nat) (Option.some (Jvm.ClassFile.FieldType.array (Jvm.ClassFile.FieldType.object "java/lang/Object")))).before args0 about1 = true := code_word (m := ⟨13, 2⟩) (meth := k13m2) (c := k13c2) (by decide +kernel) rfl rfl rfl (by decide +kernel)
set_option maxRecDepth 65536 in
theorem w_c11 : (Jvm.Cond.code ({ cls := "java/util/ArrayList", name := "grow", desc := "(I)[Ljava/lang/Object;" } : Jvm.MethodName) jdk_38_method_6_code (4 : Nat) (Option.some (Jvm.ClassFile.FieldType.array (Jvm.ClassFile.FieldType.object "java/lang/Object")))).before args0 about1 = true := code_word (m := ⟨13, 1⟩) (meth := k13m1) (c := k13c1) (by decide +kernel) rfl rfl rfl (by decide +kernel)
set_option maxRecDepth 65536 in
theorem w_c12 : (Jvm.Cond.code ({ cls := "java/lang/Math", name := "max", desc := "(II)I" } : Jvm.MethodName) jdk_29_method_65_code (2 : Nat) (Option.some Jvm.ClassFile.FieldType.int)).before args0 about1 = true := code_word (m := ⟨15, 1⟩) (meth := k15m1) (c := k15c1) (by decide +kernel) rfl rfl rfl (by decide +kernel)
set_option maxRecDepth 65536 in
theorem w_c13 : (Jvm.Cond.code ({ cls := "com/example/resolvent/resolvent/resolution/Trial$Negotiation", name := "<init>", desc := "(Ljava/util/List;)V" } : Jvm.MethodName) prog_33_method_1_code (2 : Nat) (Option.none : Option Jvm.ClassFile.FieldType)).before args0 about1 = true := code_word (m := ⟨17, 0⟩) (meth := k17m0) (c := k17c0) (by decide +kernel) rfl rfl rfl (by decide +kernel)
set_option maxRecDepth 65536 in
theorem w_c14 : (Jvm.Cond.code ({ cls := "com/example/resolvent/resolvent/resolution/Trial$Negotiation", name := "offered", desc := "()Lcom/example/resolvent/resolvent/resolution/CompiledAction;" } : Jvm.MethodName) prog_33_method_3_code (1 : Nat) (Option.some (Jvm.ClassFile.FieldType.object "com/example/resolvent/resolvent/resolution/CompiledAction"))).before args0 about1 = true := code_word (m := ⟨17, 1⟩) (meth := k17m1) (c := k17c1) (by decide +kernel) rfl rfl rfl (by decide +kernel)
set_option maxRecDepth 65536 in
theorem w_c15 : (Jvm.Cond.code ({ cls := "java/util/ArrayList", name := "get", desc := "(I)Ljava/lang/Object;" } : Jvm.MethodName) jdk_38_method_20_code (2 : Nat) (Option.some (Jvm.ClassFile.FieldType.object "java/lang/Object"))).before args0 about1 = true := code_word (m := ⟨13, 5⟩) (meth := k13m5) (c := k13c5) (by decide +kernel) rfl rfl rfl (by decide +kernel)
set_option maxRecDepth 65536 in
theorem w_c16 : (Jvm.Cond.code ({ cls := "java/util/Objects", name := "checkIndex", desc := "(II)I" } : Jvm.MethodName) jdk_31_method_17_code (2 : Nat) (Option.some Jvm.ClassFile.FieldType.int)).before args0 about1 = true := code_word (m := ⟨18, 1⟩) (meth := k18m1) (c := k18c1) (by decide +kernel) rfl rfl rfl (by decide +kernel)
set_option maxRecDepth 65536 in
theorem w_c17 : (Jvm.Cond.code ({ cls := "jdk/internal/util/Preconditions", name := "checkIndex", desc := "(IILjava/util/function/BiFunction;)I" } : Jvm.MethodName) jdk_41_method_11_code (3 : Nat) (Option.some Jvm.ClassFile.FieldType.int)).before args0 about1 = true := code_word (m := ⟨19, 1⟩) (meth := k19m1) (c := k19c1) (by decide +kernel) rfl rfl rfl (by decide +kernel)
set_option maxRecDepth 65536 in
theorem w_c18 : (Jvm.Cond.code ({ cls := "java/util/ArrayList", name := "elementData", desc := "(I)Ljava/lang/Object;" } : Jvm.MethodName) jdk_38_method_18_code (2 : Nat) (Option.some (Jvm.ClassFile.FieldType.object "java/lang/Object"))).before args0 about1 = true := code_word (m := ⟨13, 4⟩) (meth := k13m4) (c := k13c4) (by decide +kernel) rfl rfl rfl (by decide +kernel)
set_option maxRecDepth 65536 in
theorem w_c19 : (Jvm.Cond.code ({ cls := "com/example/resolvent/resolvent/resolution/Trial$Offer", name := "action", desc := "()Lcom/example/resolvent/resolvent/resolution/CompiledAction;" } : Jvm.MethodName) prog_34_method_6_code (1 : Nat) (Option.some (Jvm.ClassFile.FieldType.object "com/example/resolvent/resolvent/resolution/CompiledAction"))).before args0 about1 = true := code_word (m := ⟨14, 1⟩) (meth := k14m1) (c := k14c1) (by decide +kernel) rfl rfl rfl (by decide +kernel)
set_option maxRecDepth 65536 in
theorem w_c20 : (Jvm.Cond.code ({ cls := "com/example/resolvent/resolvent/resolution/CompiledAction", name := "status", desc := "()I" } : Jvm.MethodName) prog_7_method_7_code (1 : Nat) (Option.some Jvm.ClassFile.FieldType.int)).before args0 about1 = true := code_word (m := ⟨3, 1⟩) (meth := k3m1) (c := k3c1) (by decide +kernel) rfl rfl rfl (by decide +kernel)
set_option maxRecDepth 65536 in
theorem w_c21 : (Jvm.Cond.code ({ cls := "java/util/ArrayList", name := "size", desc := "()I" } : Jvm.MethodName) jdk_38_method_8_code (1 : Nat) (Option.some Jvm.ClassFile.FieldType.int)).before args0 about1 = true := code_word (m := ⟨13, 3⟩) (meth := k13m3) (c := k13c3) (by decide +kernel) rfl rfl rfl (by decide +kernel)
def codes1 : List Jvm.Cond := [Jvm.Cond.code x code maxLocals ret, Jvm.Cond.code ({ cls := "com/example/resolvent/resolvent/resolution/CompiledAction", name := "<init>", desc := "(ILcom/example/resolvent/resolvent/resolution/Target;)V" } : Jvm.MethodName) prog_7_method_1_code (3 : Nat) (Option.none : Option Jvm.ClassFile.FieldType), Jvm.Cond.code ({ cls := "java/lang/Record", name := "<init>", desc := "()V" } : Jvm.MethodName) jdk_30_method_1_code (1 : Nat) (Option.none : Option Jvm.ClassFile.FieldType), Jvm.Cond.code ({ cls := "java/lang/Object", name := "<init>", desc := "()V" } : Jvm.MethodName) object_method_1_code (1 : Nat) (Option.none : Option Jvm.ClassFile.FieldType), Jvm.Cond.code ({ cls := "java/util/ArrayList", name := "<init>", desc := "()V" } : Jvm.MethodName) jdk_38_method_2_code (1 : Nat) (Option.none : Option Jvm.ClassFile.FieldType), Jvm.Cond.code ({ cls := "java/util/AbstractList", name := "<init>", desc := "()V" } : Jvm.MethodName) jdk_39_method_1_code (1 : Nat) (Option.none : Option Jvm.ClassFile.FieldType), Jvm.Cond.code ({ cls := "java/util/AbstractCollection", name := "<init>", desc := "()V" } : Jvm.MethodName) jdk_22_method_1_code (1 : Nat) (Option.none : Option Jvm.ClassFile.FieldType), Jvm.Cond.code ({ cls := "com/example/resolvent/resolvent/resolution/Trial$Offer", name := "<init>", desc := "(Ljava/util/regex/Pattern;Lcom/example/resolvent/resolvent/resolution/CompiledAction;)V" } : Jvm.MethodName) prog_34_method_1_code (3 : Nat) (Option.none : Option Jvm.ClassFile.FieldType), Jvm.Cond.code ({ cls := "java/util/ArrayList", name := "add", desc := "(Ljava/lang/Object;)Z" } : Jvm.MethodName) jdk_38_method_25_code (2 : Nat) (Option.some Jvm.ClassFile.FieldType.boolean), Jvm.Cond.code ({ cls := "java/util/ArrayList", name := "add", desc := "(Ljava/lang/Object;[Ljava/lang/Object;I)V" } : Jvm.MethodName) jdk_38_method_24_code (4 : Nat) (Option.none : Option Jvm.ClassFile.FieldType), Jvm.Cond.code ({ cls := "java/util/ArrayList", name := "grow", desc := "()[Ljava/lang/Object;" } : Jvm.MethodName) jdk_38_method_7_code (1 : Nat) (Option.some (Jvm.ClassFile.FieldType.array (Jvm.ClassFile.FieldType.object "java/lang/Object"))), Jvm.Cond.code ({ cls := "java/util/ArrayList", name := "grow", desc := "(I)[Ljava/lang/Object;" } : Jvm.MethodName) jdk_38_method_6_code (4 : Nat) (Option.some (Jvm.ClassFile.FieldType.array (Jvm.ClassFile.FieldType.object "java/lang/Object"))), Jvm.Cond.code ({ cls := "java/lang/Math", name := "max", desc := "(II)I" } : Jvm.MethodName) jdk_29_method_65_code (2 : Nat) (Option.some Jvm.ClassFile.FieldType.int), Jvm.Cond.code ({ cls := "com/example/resolvent/resolvent/resolution/Trial$Negotiation", name := "<init>", desc := "(Ljava/util/List;)V" } : Jvm.MethodName) prog_33_method_1_code (2 : Nat) (Option.none : Option Jvm.ClassFile.FieldType), Jvm.Cond.code ({ cls := "com/example/resolvent/resolvent/resolution/Trial$Negotiation", name := "offered", desc := "()Lcom/example/resolvent/resolvent/resolution/CompiledAction;" } : Jvm.MethodName) prog_33_method_3_code (1 : Nat) (Option.some (Jvm.ClassFile.FieldType.object "com/example/resolvent/resolvent/resolution/CompiledAction")), Jvm.Cond.code ({ cls := "java/util/ArrayList", name := "get", desc := "(I)Ljava/lang/Object;" } : Jvm.MethodName) jdk_38_method_20_code (2 : Nat) (Option.some (Jvm.ClassFile.FieldType.object "java/lang/Object")), Jvm.Cond.code ({ cls := "java/util/Objects", name := "checkIndex", desc := "(II)I" } : Jvm.MethodName) jdk_31_method_17_code (2 : Nat) (Option.some Jvm.ClassFile.FieldType.int), Jvm.Cond.code ({ cls := "jdk/internal/util/Preconditions", name := "checkIndex", desc := "(IILjava/util/function/BiFunction;)I" } : Jvm.MethodName) jdk_41_method_11_code (3 : Nat) (Option.some Jvm.ClassFile.FieldType.int), Jvm.Cond.code ({ cls := "java/util/ArrayList", name := "elementData", desc := "(I)Ljava/lang/Object;" } : Jvm.MethodName) jdk_38_method_18_code (2 : Nat) (Option.some (Jvm.ClassFile.FieldType.object "java/lang/Object")), Jvm.Cond.code ({ cls := "com/example/resolvent/resolvent/resolution/Trial$Offer", name := "action", desc := "()Lcom/example/resolvent/resolvent/resolution/CompiledAction;" } : Jvm.MethodName) prog_34_method_6_code (1 : Nat) (Option.some (Jvm.ClassFile.FieldType.object "com/example/resolvent/resolvent/resolution/CompiledAction")), Jvm.Cond.code ({ cls := "com/example/resolvent/resolvent/resolution/CompiledAction", name := "status", desc := "()I" } : Jvm.MethodName) prog_7_method_7_code (1 : Nat) (Option.some Jvm.ClassFile.FieldType.int), Jvm.Cond.code ({ cls := "java/util/ArrayList", name := "size", desc := "()I" } : Jvm.MethodName) jdk_38_method_8_code (1 : Nat) (Option.some Jvm.ClassFile.FieldType.int)]
set_option maxRecDepth 65536 in
theorem codes_eq : words1.filter isCode = codes1 := rfl
theorem w_codes : ∀ c ∈ words1.filter isCode, c.before args0 about1 = true := by
  rw [codes_eq]
  intro c hc
  simp only [codes1, List.mem_cons, List.not_mem_nil, or_false] at hc
  rcases hc with rfl | rfl | rfl | rfl | rfl | rfl | rfl | rfl | rfl | rfl | rfl | rfl | rfl | rfl | rfl | rfl | rfl | rfl | rfl | rfl | rfl | rfl
  · exact w_c0
  · exact w_c1
  · exact w_c2
  · exact w_c3
  · exact w_c4
  · exact w_c5
  · exact w_c6
  · exact w_c7
  · exact w_c8
  · exact w_c9
  · exact w_c10
  · exact w_c11
  · exact w_c12
  · exact w_c13
  · exact w_c14
  · exact w_c15
  · exact w_c16
  · exact w_c17
  · exact w_c18
  · exact w_c19
  · exact w_c20
  · exact w_c21
set_option maxRecDepth 65536 in
theorem w_t1 : (words1.take 24).all (fun c => isCode c || c.before args0 about1) = true := by decide +kernel
set_option maxRecDepth 65536 in
theorem w_t2 : ((words1.drop 24).take 24).all (fun c => isCode c || c.before args0 about1) = true := by decide +kernel
set_option maxRecDepth 65536 in
theorem w_t3 : (((words1.drop 24).drop 24).take 24).all (fun c => isCode c || c.before args0 about1) = true := by decide +kernel
set_option maxRecDepth 65536 in
theorem w_t4 : ((((words1.drop 24).drop 24).drop 24).take 24).all (fun c => isCode c || c.before args0 about1) = true := by decide +kernel
set_option maxRecDepth 65536 in
theorem w_t5 : (((((words1.drop 24).drop 24).drop 24).drop 24).take 24).all (fun c => isCode c || c.before args0 about1) = true := by decide +kernel
set_option maxRecDepth 65536 in
theorem w_t6 : ((((((words1.drop 24).drop 24).drop 24).drop 24).drop 24).take 24).all (fun c => isCode c || c.before args0 about1) = true := by decide +kernel
set_option maxRecDepth 65536 in
theorem w_t7 : ((((((words1.drop 24).drop 24).drop 24).drop 24).drop 24).drop 24).all (fun c => isCode c || c.before args0 about1) = true := by decide +kernel
theorem w_tables : (allAtoms (Jvm.Cond.code x code maxLocals ret :: tables_1)).before args0 about1 = true := by
  rw [allAtoms_all]
  show words1.all (fun c => c.before args0 about1) = true
  refine all_split ?_ w_codes
  rw [← List.take_append_drop 24 words1, List.all_append, w_t1, ← List.take_append_drop 24 (words1.drop 24), List.all_append, w_t2, ← List.take_append_drop 24 ((words1.drop 24).drop 24), List.all_append, w_t3, ← List.take_append_drop 24 (((words1.drop 24).drop 24).drop 24), List.all_append, w_t4, ← List.take_append_drop 24 ((((words1.drop 24).drop 24).drop 24).drop 24), List.all_append, w_t5, ← List.take_append_drop 24 (((((words1.drop 24).drop 24).drop 24).drop 24).drop 24), List.all_append, w_t6, w_t7]
  rfl
set_option maxRecDepth 65536 in
theorem w_rest : rest_1_c.before args0 about1 = true := by decide +kernel
set_option maxRecDepth 65536 in
theorem w_case : (Jvm.Cond.and given_1 narrow_1).before args0 about1 = true := by decide +kernel
theorem w_applies : (headSpec (Jvm.Cond.code x code maxLocals ret :: tables_1) room_1).applies x e0.platform about1 = true :=
  (Spec.applies_iff w_frames).mpr ⟨w_running, w_runnable, w_alone, w_named, w_hears, w_ripe, w_room, w_tables⟩
theorem atStart : AtStart classFile x code maxLocals ret World_1 tables_1 room_1 Calls_1 rest_1 Pre_1 launch0 p0 e0 about1 theMethod args0 below0 :=
  ⟨lists_1, trivial, launch0.admits_env _ _ _, launch0.least_env, fairChoices_fair.cas, fairChoices_fair.clock, w_frames, w_args, w_heap, w_applies, trivial, w_rest, w_case⟩
end start1
theorem witness_1 : WitnessClaimed_1 := ⟨start1.p0, start1.e0, start1.about1, start1.theMethod, start1.args0, start1.below0, start1.atStart⟩
end Jvm.Pilot.@@N@@

import JvmDerived
import JvmDerived.Pilot.@@N@@Statement
import JvmDerived.Pilot.@@N@@Code
set_option linter.unusedVariables false
set_option linter.unusedSimpArgs false
namespace Jvm.RoadKit
open Sem ClassFile Op Lib Jvm.Stand Jvm.Free Jvm.LawKit
section New
variable {p : Program} {l : Launch} {e : Env} {R : Room} {s : State} {m : MethodId} {args : Array Value} {below : List Frame} {meth : Method} {c : Code} {T : State} {locs : List Loc} {cells slots : Nat}
theorem retI (X : Stand p l e R s m args below meth c T locs cells slots) (hx : p.tables.exec = Jvm.exec) {pc : Nat} {Ls : Array Slot} {z : Int32} {rest : List Value} (hret : meth.sig.returnType = some .int) (hd : decode c.code pc = .ok (.ireturn, 1)) {fs : List Frame}
    (hl : ∀ (f : JFrame) (acts : List Action), f.method = m → f.locked = none → f.entered = [] → (doReturn e (T.setTop f) acts (some (.int z))).1 = T.setFrames fs) : Steps p.tables e below (T.setTop (mkF m pc Ls (.int z :: rest))) (T.setFrames fs) := by
  have hm' : T.vm.method? m = some meth := X.method'
  have hn : narrow .int (.int z) = .int z := rfl
  show Steps p.tables e below (T.setTop { method := m, pc := pc, locals := Ls, stack := _ :: rest, locked := none }) _
  jvm_step X.here [X.here.top, hx, hd, hm', hret, hn]
  first | (intro acts; rw [hl _ acts rfl rfl rfl]) | rw [hl _ _ rfl rfl rfl]
  exact Steps.refl _
end New
end Jvm.RoadKit
namespace Jvm.Pilot.@@N@@
open Jvm Jvm.ClassFile Sem Op Lib Jvm.Free Jvm.Stand Jvm.LawKit Jvm.RoadKit Bundle Jvm.Pilot.@@N@@.Jvm.D
/-- two slots that hold nothing, or one double or long -/
def own_Two (s t : Slot) : Prop := (s = .unset ∧ t = .unset) ∨ (∃ d, s = .val (.double d) ∧ t = .second) ∨ ∃ d, s = .val (.long d) ∧ t = .second
theorem own_pad {p : Program} {l : Launch} {e : Env} {R : Room} {s : State} {m : MethodId} {args : Array Value} {below : List Frame} {meth : Method} {c : Code} {T : State} {locs : List Loc} {k n k' n' : Nat} (X : Stand p l e R s m args below meth c T locs k n) (hk : k ≤ k') (hn : n ≤ n') : Stand p l e R s m args below meth c T locs k' n' := { X with same := X.same.mono hk hn }
/-- the walk from S on comes to an end of which Q is true -/
def own_End (p : Program) (e : Env) (below : List Frame) (Q : Outcome → State → Prop) (S : State) : Prop := ∃ s₂ o, Steps p.tables e below S s₂ ∧ s₂.status = .running ∧ Ended s₂ below o ∧ Q o s₂
theorem own_go {p : Program} {e : Env} {below : List Frame} {Q : Outcome → State → Prop} {S S' : State} (h : ∀ t, Steps p.tables e below S' t → Steps p.tables e below S t) (k : own_End p e below Q S') : own_End p e below Q S := by
  obtain ⟨s₂, o, h1, h2⟩ := k
  exact ⟨s₂, o, h s₂ h1, h2⟩
/-- an array of z places, of which the j-th holds f j -/
def own_Ar (Z : State) (h : Heap) (a : Addr) (ty : FieldType) (z : Int32) (f : Nat → Value) : Prop := ∃ cl : Cell, Arr Z h a cl ty ∧ cl.slots.size = z.toNatClampNeg ∧ ¬ z < 0 ∧ ∀ j, j < z.toNatClampNeg → cl.slots[j]? = some (f j)
section OwnAr
variable {Z : State} {h h' : Heap} {a b : Addr} {ty : FieldType} {z : Int32} {f g : Nat → Value} {ws : List Addr} {sl : Nat} {v : Value}
theorem own_Ar.lt (F : own_Ar Z h a ty z f) : a < h.size := by obtain ⟨c, A, -⟩ := F; exact A.lt
theorem own_Ar.ext (F : own_Ar Z h a ty z f) (E : Ext h h') : own_Ar Z h' a ty z f := by obtain ⟨c, A, r⟩ := F; exact ⟨c, A.ext E, r⟩
theorem own_Ar.other (F : own_Ar Z h b ty z f) (W : Wr h h' a sl v) (q : b ≠ a) : own_Ar Z h' b ty z f := by obtain ⟨c, A, r⟩ := F; exact ⟨c, A.other W q, r⟩
theorem own_Ar.keep (F : own_Ar Z h a ty z f) (K : Keep h h' ws) (q : a ∉ ws) : own_Ar Z h' a ty z f := by obtain ⟨c, A, r⟩ := F; exact ⟨c, ⟨K.2.1 a c A.1 q, A.2⟩, r⟩
theorem own_Ar.turn (F : own_Ar Z h a ty z f) (q : ∀ j, j < z.toNatClampNeg → f j = g j) : own_Ar Z h a ty z g := by obtain ⟨c, A, r1, r2, r3⟩ := F; exact ⟨c, A, r1, r2, fun j hj => by rw [r3 j hj, q j hj]⟩
theorem own_Ar.new {k : ClassId} (A : Arr Z h a (newA k ty z) ty) (q : ¬ z < 0) : own_Ar Z h a ty z (fun _ => defaultValue ty) := ⟨_, A, sz_new _ _ _, q, fun j hj => by simp [newA, hj]⟩
theorem own_Ar_set {c : Cell} (A : Arr Z h a c ty) (S : c.slots.size = z.toNatClampNeg) (M : ¬ z < 0) (H : ∀ j, j < z.toNatClampNeg → c.slots[j]? = some (f j)) (W : Wr h h' a sl v) : own_Ar Z h' a ty z (fun j => if j = sl then v else f j) := by
  refine ⟨_, A.same W, (sz_set _ _ _).trans S, M, fun j hj => ?_⟩
  show (c.setSlot sl v).slots[j]? = some (if j = sl then v else f j)
  by_cases e : j = sl
  · subst e; simp [Cell.setSlot, S, hj]
  · have e' : ¬ sl = j := fun q => e q.symm
    simp [Cell.setSlot, e, e', Array.getElem?_setIfInBounds, H j hj]
theorem own_in {c : Cell} {z j : Int32} (S : c.slots.size = z.toNatClampNeg) (q : ¬ (j < 0 ∨ c.slots.size ≤ j.toNatClampNeg)) : j.toNatClampNeg < z.toNatClampNeg := by
  rw [← S]; exact Nat.lt_of_not_le fun y => q (Or.inr y)
/-- the same of an array of references, whose class is known -/
def own_Rr (Z : State) (h : Heap) (a : Addr) (C : String) (z : Int32) (f : Nat → Value) : Prop := ∃ cl : Cell, Arr Z h a cl (.object C) ∧ cl.slots.size = z.toNatClampNeg ∧ ¬ z < 0 ∧ (∀ j, j < z.toNatClampNeg → cl.slots[j]? = some (f j)) ∧ Ovr Z cl.cls C
variable {C : String}
theorem own_Rr.lt (F : own_Rr Z h a C z f) : a < h.size := by obtain ⟨c, A, -⟩ := F; exact A.lt
theorem own_Rr.ext (F : own_Rr Z h a C z f) (E : Ext h h') : own_Rr Z h' a C z f := by obtain ⟨c, A, r⟩ := F; exact ⟨c, A.ext E, r⟩
theorem own_Rr.other (F : own_Rr Z h b C z f) (W : Wr h h' a sl v) (q : b ≠ a) : own_Rr Z h' b C z f := by obtain ⟨c, A, r⟩ := F; exact ⟨c, A.other W q, r⟩
theorem own_Rr.keep (F : own_Rr Z h a C z f) (K : Keep h h' ws) (q : a ∉ ws) : own_Rr Z h' a C z f := by obtain ⟨c, A, r⟩ := F; exact ⟨c, ⟨K.2.1 a c A.1 q, A.2⟩, r⟩
theorem own_Rr.turn (F : own_Rr Z h a C z f) (q : ∀ j, j < z.toNatClampNeg → f j = g j) : own_Rr Z h a C z g := by obtain ⟨c, A, r1, r2, r3, r4⟩ := F; exact ⟨c, A, r1, r2, fun j hj => by rw [r3 j hj, q j hj], r4⟩
theorem own_Rr.new {k : ClassId} (A : Arr Z h a (newA k (.object C) z) (.object C)) (O : Ovr Z k C) (q : ¬ z < 0) : own_Rr Z h a C z (fun _ => .null) := ⟨_, A, sz_new _ _ _, q, fun j hj => by simp [newA, hj, defaultValue], O⟩
theorem own_Rr_set {c : Cell} (A : Arr Z h a c (.object C)) (S : c.slots.size = z.toNatClampNeg) (M : ¬ z < 0) (H : ∀ j, j < z.toNatClampNeg → c.slots[j]? = some (f j)) (O : Ovr Z c.cls C) (W : Wr h h' a sl v) : own_Rr Z h' a C z (fun j => if j = sl then v else f j) := by
  refine ⟨_, A.same W, (sz_set _ _ _).trans S, M, fun j hj => ?_, O⟩
  show (c.setSlot sl v).slots[j]? = some (if j = sl then v else f j)
  by_cases e : j = sl
  · subst e; simp [Cell.setSlot, S, hj]
  · have e' : ¬ sl = j := fun q => e q.symm
    simp [Cell.setSlot, e, e', Array.getElem?_setIfInBounds, H j hj]
end OwnAr
/-- what draw gives -/
def own_draw (x : Int32) : Int32 := if x &&& 1 = 0 then nar .byte ((x >>> ((1 : Int32) &&& 31)).toInt8.toInt32) else 10
theorem own_nar (x : Int32) : nar .byte (own_draw x) = own_draw x := by
  unfold own_draw
  split
  · simp [nar]
  · decide
/-- the first place from i on that holds a line's end; k: the places left -/
def own_end (b : Nat → Int32) : Nat → Nat → Int32
  | 0, _ => -1
  | k + 1, i => if b i = 10 then i.toInt32 else own_end b k (i + 1)
theorem own_small {n : Nat} (h : n < 2147483648) : n.toInt32.toInt = n := Int32.toInt_ofNat_small h
theorem own_clamp {i : Int32} {n : Nat} (h : i.toInt = n) : i.toNatClampNeg = n := by rw [← Int32.toNat_toInt, h]; rfl
theorem own_num {i : Int32} {n : Nat} (h : i.toInt = n) : n.toInt32 = i := by
  rw [← Int32.toInt_inj, own_small (by have := (rng32 i).2; omega), h]
theorem own_lt_of {i z : Int32} {n N : Nat} (h : i.toInt = n) (hz : z.toInt = N) : i < z ↔ n < N := by rw [Int32.lt_iff_toInt_lt, h, hz]; omega
theorem own_nn {i : Int32} {n : Nat} (h : i.toInt = n) : ¬ i < 0 := by
  rw [Int32.lt_iff_toInt_lt]; have : (0 : Int32).toInt = 0 := by decide
  omega
theorem own_inc {i : Int32} {n : Nat} (h : i.toInt = n) (q : n < 2147483647) : (i + 1).toInt = ((n + 1 : Nat) : Int) := by
  have a := c_iadd i 1; have b := rng32 (i + 1); have : (1 : Int32).toInt = 1 := by decide
  omega
/-- the four values -/
def own_v (v0 v1 v2 v3 : Int32) (j : Nat) : Int32 := if j = 0 then v0 else if j = 1 then v1 else if j = 2 then v2 else v3
/-- what stands in the array when the first k are written -/
def own_w (v0 v1 v2 v3 : Int32) (k j : Nat) : Int32 := if j < k then own_v v0 v1 v2 v3 j else 0
/-- what the law expects, from place k on -/
def own_ex (b : Nat → Int32) (N fr : Nat) : Nat → Nat → Int32
  | 0, _ => -1
  | d + 1, k => if k < N ∧ fr ≤ k ∧ b k = 10 then k.toInt32 else own_ex b N fr d (k + 1)
theorem own_exs (b : Nat → Int32) (N fr d k : Nat) : own_ex b N fr (d + 1) k = if k < N ∧ fr ≤ k ∧ b k = 10 then k.toInt32 else own_ex b N fr d (k + 1) := rfl
theorem own_end_ge (b : Nat → Int32) (N fr : Nat) (h : N ≤ fr) : own_end b (N - fr) fr = -1 := by
  have : N - fr = 0 := by omega
  rw [this]; rfl
theorem own_ex_ge (b : Nat → Int32) (N fr : Nat) : ∀ d k, N ≤ fr → own_ex b N fr d k = -1 := by
  intro d
  induction d with
  | zero => intro k h; rfl
  | succ d ih => intro k h; rw [own_exs, if_neg (by omega)]; exact ih _ h
theorem own_ex_past (b : Nat → Int32) (N fr : Nat) : ∀ d k, N ≤ k → own_ex b N fr d k = -1 := by
  intro d
  induction d with
  | zero => intro k h; rfl
  | succ d ih => intro k h; rw [own_exs, if_neg (by omega)]; exact ih _ (by omega)
/-- from fr on, with all places up to N ahead -/
theorem own_ex_at (b : Nat → Int32) (N fr : Nat) : ∀ d k, fr ≤ k → N ≤ k + d → own_ex b N fr d k = own_end b (N - k) k := by
  intro d
  induction d with
  | zero => intro k h1 h2; rw [own_end_ge b N k (by omega)]; rfl
  | succ d ih =>
    intro k h1 h2
    by_cases hk : k < N
    · obtain ⟨e, he⟩ : ∃ e, N - k = e + 1 := ⟨N - k - 1, by omega⟩
      rw [own_exs, he]
      by_cases q : b k = 10
      · rw [if_pos ⟨hk, h1, q⟩]; simp [own_end, q]
      · rw [if_neg (fun r => q r.2.2), ih (k + 1) (by omega) (by omega)]
        have : N - (k + 1) = e := by omega
        rw [this]; simp [own_end, q]
    · rw [own_ex_past b N fr _ k (by omega), own_end_ge b N k (by omega)]
theorem own_ex_end (b : Nat → Int32) (N fr : Nat) : ∀ d k, k ≤ fr → N ≤ k + d → own_ex b N fr d k = own_end b (N - fr) fr := by
  intro d
  induction d with
  | zero => intro k h1 h2; rw [own_end_ge b N fr (by omega)]; rfl
  | succ d ih =>
    intro k h1 h2
    by_cases q : k = fr
    · subst q; exact own_ex_at b N k _ k (Nat.le_refl _) h2
    · rw [own_exs, if_neg (by omega)]; exact ih _ (by omega) (by omega)
theorem own_five (x : Int32) : ∃ n : Nat, n ≤ 4 ∧ ((x &&& (2147483647 : Int32)) % (5 : Int32)).toInt = n := by
  have a := c_and x (2147483647 : Int32) (by decide)
  have b := (c_irem (x &&& (2147483647 : Int32)) (5 : Int32) 5 (by decide)).1 a.1
  refine ⟨(((x &&& (2147483647 : Int32)) % (5 : Int32)).toInt).toNat, ?_, ?_⟩ <;> omega
theorem own_shr (x : Int32) : ∃ n : Nat, ((x.toUInt32 >>> ((1 : Int32) &&& 31).toUInt32).toInt32).toInt = n := by
  have a := c_iushr x (1 : Int32) 1 (by decide) (by decide)
  exact ⟨_, by rw [a]; exact (Int.toNat_of_nonneg (by omega)).symm⟩
theorem own_msk (x : Int32) : ∃ n : Nat, (x &&& (7 : Int32)).toInt = n := by
  have a := c_and x (7 : Int32) (by decide)
  exact ⟨_, (Int.toNat_of_nonneg a.1).symm⟩
theorem own_skip {b : Nat → Int32} {N fr d k : Nat} {ex : Int32} (q : ¬ (k < N ∧ fr ≤ k ∧ b k = 10)) (h : ex = own_ex b N fr d (k + 1)) : ex = own_ex b N fr (d + 1) k := by rw [own_exs, if_neg q]; exact h
theorem own_hit {b : Nat → Int32} {N fr d k : Nat} (h1 : k < N) (h2 : fr ≤ k) (h3 : b k = 10) : k.toInt32 = own_ex b N fr (d + 1) k := by rw [own_exs, if_pos ⟨h1, h2, h3⟩]
theorem own_put (v0 v1 v2 v3 vk : Int32) (k j : Nat) (hk : own_v v0 v1 v2 v3 k = vk) : (if j = k then Value.int vk else .int (own_w v0 v1 v2 v3 k j)) = .int (own_w v0 v1 v2 v3 (k + 1) j) := by
  unfold own_w
  by_cases e : j = k
  · subst e; simp [hk]
  · by_cases q : j < k
    · have q' : j < k + 1 := by omega
      simp [e, q, q']
    · have q' : ¬ j < k + 1 := by omega
      simp [e, q, q']
theorem own_same (v0 v1 v2 v3 : Int32) (k j : Nat) (h : j < k) : own_w v0 v1 v2 v3 k j = own_w v0 v1 v2 v3 (k + 1) j := by
  unfold own_w
  have : j < k + 1 := by omega
  simp [h, this]
theorem own_gt {i : Int32} {n : Nat} (h : i.toInt = n) {k : Int32} {j : Nat} (hk : k.toInt = j) : k < i ↔ j < n := by rw [Int32.lt_iff_toInt_lt, h, hk]; omega
theorem d1_0 : decode method_3_code 0 = .ok (.iload_n 0, 1) := by decide +kernel
theorem d1_1 : decode method_3_code 1 = .ok (.iconst 1, 1) := by decide +kernel
theorem d1_2 : decode method_3_code 2 = .ok (.iand, 1) := by decide +kernel
theorem d1_3 : decode method_3_code 3 = .ok (.ifCond .eq 8, 3) := by decide +kernel
theorem d1_6 : decode method_3_code 6 = .ok (.bipush 10, 2) := by decide +kernel
theorem d1_8 : decode method_3_code 8 = .ok (.goto 7, 3) := by decide +kernel
theorem d1_11 : decode method_3_code 11 = .ok (.iload_n 0, 1) := by decide +kernel
theorem d1_12 : decode method_3_code 12 = .ok (.iconst 1, 1) := by decide +kernel
theorem d1_13 : decode method_3_code 13 = .ok (.ishr, 1) := by decide +kernel
theorem d1_14 : decode method_3_code 14 = .ok (.i2b, 1) := by decide +kernel
theorem d1_15 : decode method_3_code 15 = .ok (.ireturn, 1) := by decide +kernel
theorem pn_0 : plainName "com/example/grant3/grant3/store/RecordLineEndPinLaw" = true := by first | (simp [plainName, overriddenIn]; done) | decide +kernel
theorem ef_1 (m : MethodId) (x0 : Int32) : entryFrame m #[(.int x0)] 1 = mkF m 0 #[.val (.int x0)] [] := by first | (simp [entryFrame, mkF, argsToLocals, Value.category]; done) | rfl
def Q1 (Z : State) (xx : Int32) (h0 : Heap) (n0 : Nat) (v : Option Value) (h : Heap) (L : List Loc) : Prop := v = some (.int (own_draw xx)) ∧ Fr n0 L ∧ h = h0
def P1 (Z : State) (xx : Int32) (h0 : Heap) (n0 : Nat) (s : State) (o : Outcome) (U : State) : Prop := ∃ v L, o = .returned v ∧ Q1 Z xx h0 n0 v U.heap L ∧ FrameEnd s o U L ({ frames := 0, cells := 0, slots := 0, locals := 0 } : Room).cells ({ frames := 0, cells := 0, slots := 0, locals := 0 } : Room).slots
set_option maxRecDepth 65536 in
set_option maxHeartbeats 40000000 in
theorem rm1 (l : Launch) (Z : State) (a0 : Array Value) (hw : ∀ d ∈ tables_1, d.before a0 Z = true) (ws : List Jvm.Cond) (xx : Int32) (h0 : Heap) (n0 : Nat) (Z0 : n0 ≤ h0.size)  :
    MetFree l (⟨"com/example/grant3/grant3/store/RecordLineEndPinLaw", "draw", "(I)B"⟩ : MethodName) (head1 (Jvm.Cond.code (⟨"com/example/grant3/grant3/store/RecordLineEndPinLaw", "draw", "(I)B"⟩ : MethodName) method_3_code 1 (some .byte) :: ws) ({ frames := 0, cells := 0, slots := 0, locals := 0 } : Room)) (fun a U => a = #[(.int xx)] ∧ Z.Warmed39 U.vm ∧ U.heap = h0) (fun _ _ _ _ _ => True) (fun _ U o U' => ∃ v L, o = .returned v ∧ Q1 Z xx h0 n0 v U'.heap L ∧ FrameEnd U o U' L ({ frames := 0, cells := 0, slots := 0, locals := 0 } : Room).cells ({ frames := 0, cells := 0, slots := 0, locals := 0 } : Room).slots) := by
  refine MetFree.of_bodySF (plainFor_of_name pn_0) hisR ?_
  intro p e s m args below meth c s₁ Bd hml0 hP hK
  obtain ⟨rfl, hZ, hh⟩ := hP
  have hx := Bd.exec
  have hby := Bd.bytes
  have hml : c.maxLocals = 1 := hml0
  have hown : s.vm.findClass "com/example/grant3/grant3/store/RecordLineEndPinLaw" = some m.cls := findClass_of_methodNamed Bd.named
  have hnm := (name_of_methodNamed Bd.named Bd.method).1
  have X0 : Stand p l e ({ frames := 0, cells := 0, slots := 0, locals := 0 } : Room) s m #[(.int xx)] below meth c s₁ [] 0 0 := Stand.of_body Bd
  have e0 : s₁.heap = h0 := by rw [← hh, Bd.state]; rfl
  have Nf := Fr.nil n0
  have Zs : n0 ≤ h0.size := Z0
  have Kp : Keep h0 h0 [] := Keep.refl _ _
  have szr : h0.size ≤ h0.size := Nat.le_refl _
  show own_End p e below (P1 Z xx h0 n0 s) (s₁.setTop (entryFrame m #[(.int xx)] 1))
  rw [ef_1]
  refine own_go (fun t k => XS.iloadN X0.here hx rfl (hb hby d1_0) rfl k) ?_
  show own_End p e below _ (s₁.setTop (mkF m 1 #[.val (.int xx)] [(.int xx)]))
  refine own_go (fun t k => XS.iconst X0.here hx rfl (hb hby d1_1) k) ?_
  show own_End p e below _ (s₁.setTop (mkF m 2 #[.val (.int xx)] [(.int (1 : Int32)), (.int xx)]))
  refine own_go (fun t k => XS.iand X0.here hx rfl (hb hby d1_2) rfl k) ?_
  show own_End p e below _ (s₁.setTop (mkF m 3 #[.val (.int xx)] [(.int (xx &&& (1 : Int32)))]))
  by_cases hc3 : (xx &&& (1 : Int32)) = (0 : Int32)
  ·
    refine own_go (fun t k => XS.ifYes X0.here hx rfl (pc0 := 3) (pc' := 11) rfl (hb hby d1_3) rfl ((if0 _ _).trans (teq hc3).1) (by decide) (by decide) k) ?_
    show own_End p e below _ (s₁.setTop (mkF m 11 #[.val (.int xx)] []))
    refine own_go (fun t k => XS.iloadN X0.here hx rfl (hb hby d1_11) rfl k) ?_
    show own_End p e below _ (s₁.setTop (mkF m 12 #[.val (.int xx)] [(.int xx)]))
    refine own_go (fun t k => XS.iconst X0.here hx rfl (hb hby d1_12) k) ?_
    show own_End p e below _ (s₁.setTop (mkF m 13 #[.val (.int xx)] [(.int (1 : Int32)), (.int xx)]))
    refine own_go (fun t k => XS.ishr X0.here hx rfl (hb hby d1_13) rfl k) ?_
    show own_End p e below _ (s₁.setTop (mkF m 14 #[.val (.int xx)] [(.int (xx >>> ((1 : Int32) &&& 31)))]))
    refine own_go (fun t k => XS.i2b X0.here hx rfl (hb hby d1_14) rfl k) ?_
    show own_End p e below _ (s₁.setTop (mkF m 15 #[.val (.int xx)] [(.int ((xx >>> ((1 : Int32) &&& 31)).toInt8.toInt32))]))
    obtain ⟨fs, hr, hrun, hended, hW, hsame⟩ := X0.leave (v := some (.int (nar .byte ((xx >>> ((1 : Int32) &&& 31)).toInt8.toInt32)))) (fun h => by rw [Bd.returns] at h; cases h)
    refine ⟨_, _, (retN X0 hx (t := .byte) Bd.returns (by simp) (hb hby d1_15) hr), hrun, hended, _, _, rfl, ?_, ⟨_, rfl⟩, hW, hsame.mono (by decide) (by decide)⟩
    show Q1 Z xx h0 n0 _ s₁.heap _
    rw [e0]
    exact ⟨by simp [own_draw, hc3], Nf, rfl⟩
  ·
    refine own_go (fun t k => XS.ifNo X0.here hx rfl (hb hby d1_3) rfl ((if0 _ _).trans (feq hc3).1) k) ?_
    show own_End p e below _ (s₁.setTop (mkF m 6 #[.val (.int xx)] []))
    refine own_go (fun t k => XS.bipush X0.here hx rfl (hb hby d1_6) k) ?_
    show own_End p e below _ (s₁.setTop (mkF m 8 #[.val (.int xx)] [(.int (10 : Int32))]))
    refine own_go (fun t k => XS.goto X0.here hx rfl (pc0 := 8) (pc' := 15) rfl (hb hby d1_8) (by decide) (by decide) k) ?_
    show own_End p e below _ (s₁.setTop (mkF m 15 #[.val (.int xx)] [(.int (10 : Int32))]))
    obtain ⟨fs, hr, hrun, hended, hW, hsame⟩ := X0.leave (v := some (.int (10 : Int32))) (fun h => by rw [Bd.returns] at h; cases h)
    refine ⟨_, _, (retN X0 hx (t := .byte) Bd.returns (by simp) (hb hby d1_15) hr), hrun, hended, _, _, rfl, ?_, ⟨_, rfl⟩, hW, hsame.mono (by decide) (by decide)⟩
    show Q1 Z xx h0 n0 _ s₁.heap _
    rw [e0]
    exact ⟨by simp [own_draw, hc3], Nf, rfl⟩
theorem d2_0 : decode prog_32_method_5_code 0 = .ok (.iload_n 1, 1) := by decide +kernel
theorem d2_1 : decode prog_32_method_5_code 1 = .ok (.istore_n 2, 1) := by decide +kernel
theorem d2_2 : decode prog_32_method_5_code 2 = .ok (.iload_n 2, 1) := by decide +kernel
theorem d2_3 : decode prog_32_method_5_code 3 = .ok (.aload_n 0, 1) := by decide +kernel
theorem d2_4 : decode prog_32_method_5_code 4 = .ok (.arraylength, 1) := by decide +kernel
theorem d2_5 : decode prog_32_method_5_code 5 = .ok (.if_icmp .ge 19, 3) := by decide +kernel
theorem d2_8 : decode prog_32_method_5_code 8 = .ok (.aload_n 0, 1) := by decide +kernel
theorem d2_9 : decode prog_32_method_5_code 9 = .ok (.iload_n 2, 1) := by decide +kernel
theorem d2_10 : decode prog_32_method_5_code 10 = .ok (.baload, 1) := by decide +kernel
theorem d2_11 : decode prog_32_method_5_code 11 = .ok (.bipush 10, 2) := by decide +kernel
theorem d2_13 : decode prog_32_method_5_code 13 = .ok (.if_icmp .ne 5, 3) := by decide +kernel
theorem d2_16 : decode prog_32_method_5_code 16 = .ok (.iload_n 2, 1) := by decide +kernel
theorem d2_17 : decode prog_32_method_5_code 17 = .ok (.ireturn, 1) := by decide +kernel
theorem d2_18 : decode prog_32_method_5_code 18 = .ok (.iinc 2 1, 3) := by decide +kernel
theorem d2_21 : decode prog_32_method_5_code 21 = .ok (.goto (-19), 3) := by decide +kernel
theorem d2_24 : decode prog_32_method_5_code 24 = .ok (.iconst (-1), 1) := by decide +kernel
theorem d2_25 : decode prog_32_method_5_code 25 = .ok (.ireturn, 1) := by decide +kernel
theorem pn_1 : plainName "com/example/grant3/grant3/store/RecordLine" = true := by first | (simp [plainName, overriddenIn]; done) | decide +kernel
theorem ef_2 (m : MethodId) (x0 : Addr) (x1 : Int32) : entryFrame m #[(.ref x0), (.int x1)] 3 = mkF m 0 #[.val (.ref x0), .val (.int x1), .unset] [] := by first | (simp [entryFrame, mkF, argsToLocals, Value.category]; done) | rfl
def Q2 (Z : State) (ta : Addr) (i0 : Int32) (z : Int32) (N : Nat) (fr : Nat) (b : Nat → Int32) (h0 : Heap) (n0 : Nat) (v : Option Value) (h : Heap) (L : List Loc) : Prop := v = some (.int (own_end b (N - fr) fr)) ∧ Fr n0 L ∧ h = h0
def P2 (Z : State) (ta : Addr) (i0 : Int32) (z : Int32) (N : Nat) (fr : Nat) (b : Nat → Int32) (h0 : Heap) (n0 : Nat) (s : State) (o : Outcome) (U : State) : Prop := ∃ v L, o = .returned v ∧ Q2 Z ta i0 z N fr b h0 n0 v U.heap L ∧ FrameEnd s o U L ({ frames := 0, cells := 0, slots := 0, locals := 0 } : Room).cells ({ frames := 0, cells := 0, slots := 0, locals := 0 } : Room).slots
set_option maxRecDepth 65536 in
set_option maxHeartbeats 40000000 in
theorem rm2 (l : Launch) (Z : State) (a0 : Array Value) (hw : ∀ d ∈ tables_1, d.before a0 Z = true) (ws : List Jvm.Cond) (ta : Addr) (i0 : Int32) (z : Int32) (N : Nat) (fr : Nat) (b : Nat → Int32) (h0 : Heap) (n0 : Nat) (Z0 : n0 ≤ h0.size) (V_ta : own_Ar Z h0 ta .byte z (fun j => .int (b j))) (hz : z.toInt = N) (hf : i0.toInt = fr) :
    MetFree l (⟨"com/example/grant3/grant3/store/RecordLine", "end", "([BI)I"⟩ : MethodName) (head1 (Jvm.Cond.code (⟨"com/example/grant3/grant3/store/RecordLine", "end", "([BI)I"⟩ : MethodName) prog_32_method_5_code 3 (some .int) :: ws) ({ frames := 0, cells := 0, slots := 0, locals := 0 } : Room)) (fun a U => a = #[(.ref ta), (.int i0)] ∧ Z.Warmed39 U.vm ∧ U.heap = h0) (fun _ _ _ _ _ => True) (fun _ U o U' => ∃ v L, o = .returned v ∧ Q2 Z ta i0 z N fr b h0 n0 v U'.heap L ∧ FrameEnd U o U' L ({ frames := 0, cells := 0, slots := 0, locals := 0 } : Room).cells ({ frames := 0, cells := 0, slots := 0, locals := 0 } : Room).slots) := by
  refine MetFree.of_bodySF (plainFor_of_name pn_1) hisR ?_
  intro p e s m args below meth c s₁ Bd hml0 hP hK
  obtain ⟨rfl, hZ, hh⟩ := hP
  have hx := Bd.exec
  have hby := Bd.bytes
  have hml : c.maxLocals = 3 := hml0
  have hown : s.vm.findClass "com/example/grant3/grant3/store/RecordLine" = some m.cls := findClass_of_methodNamed Bd.named
  have hnm := (name_of_methodNamed Bd.named Bd.method).1
  have X0 : Stand p l e ({ frames := 0, cells := 0, slots := 0, locals := 0 } : Room) s m #[(.ref ta), (.int i0)] below meth c s₁ [] 0 0 := Stand.of_body Bd
  have e0 : s₁.heap = h0 := by rw [← hh, Bd.state]; rfl
  have Nf := Fr.nil n0
  have Zs : n0 ≤ h0.size := Z0
  have Kp : Keep h0 h0 [] := Keep.refl _ _
  have szr : h0.size ≤ h0.size := Nat.le_refl _
  show own_End p e below (P2 Z ta i0 z N fr b h0 n0 s) (s₁.setTop (entryFrame m #[(.ref ta), (.int i0)] 3))
  rw [ef_2]
  have lp : ∀ (k : Nat) (i : Int32) (n : Nat) (T : State) (locs : List Loc) (h : Heap) (X : Stand p l e ({ frames := 0, cells := 0, slots := 0, locals := 0 } : Room) s m #[(.ref ta), (.int i0)] below meth c T locs 0 0) (eT : T.heap = h) (Nf : Fr n0 locs) (Zs : n0 ≤ h.size) (Kp : Keep h0 h []) (szr : h0.size ≤ h.size) (V_ta : own_Ar Z h ta .byte z (fun j => .int (b j))) (he : h = h0) (hi : i.toInt = n) (hk : (n + k = N) ∨ (k = 0 ∧ N ≤ n)) (hE : own_end b k n = own_end b (N - fr) fr), own_End p e below (P2 Z ta i0 z N fr b h0 n0 s) (T.setTop (mkF m 2 #[.val (.ref ta), .val (.int i0), .val (.int i)] [])) := by
    intro k
    induction k with
    | zero =>
      intro i n T locs h X eT Nf Zs Kp szr V_ta he hi hk hE
      refine own_go (fun t k => XS.iloadN X.here hx rfl (hb hby d2_2) rfl k) ?_
      show own_End p e below _ (T.setTop (mkF m 3 #[.val (.ref ta), .val (.int i0), .val (.int i)] [(.int i)]))
      refine own_go (fun t k => XS.aloadN X.here hx rfl (hb hby d2_3) rfl rfl k) ?_
      show own_End p e below _ (T.setTop (mkF m 4 #[.val (.ref ta), .val (.int i0), .val (.int i)] [(.ref ta), (.int i)]))
      obtain ⟨cl1, Ar1, S1, M1, H1⟩ := id V_ta
      refine own_go (fun t k => X.arraylength hx (by rw [eT]; exact Ar1.1) (State.isArrayOf_alike hZ.alike Ar1.2.1) (g := (mkF m 4 #[.val (.ref ta), .val (.int i0), .val (.int i)] [(.ref ta), (.int i)])) rfl rfl (hb hby d2_4) _ k) ?_
      rw [len_of S1 M1]
      show own_End p e below _ (T.setTop (mkF m 5 #[.val (.ref ta), .val (.int i0), .val (.int i)] [(.int z), (.int i)]))
      refine own_go (fun t k => XS.icmpYes X.here hx rfl (pc0 := 5) (pc' := 24) rfl (hb hby d2_5) rfl (flt (fun q => absurd ((own_lt_of hi hz).mp q) (by omega))).2.1 (by decide) (by decide) k) ?_
      show own_End p e below _ (T.setTop (mkF m 24 #[.val (.ref ta), .val (.int i0), .val (.int i)] []))
      refine own_go (fun t k => XS.iconst X.here hx rfl (hb hby d2_24) k) ?_
      show own_End p e below _ (T.setTop (mkF m 25 #[.val (.ref ta), .val (.int i0), .val (.int i)] [(.int (-1 : Int32))]))
      obtain ⟨fs, hr, hrun, hended, hW, hsame⟩ := X.leave (v := some (.int (-1 : Int32))) (fun h => by rw [Bd.returns] at h; cases h)
      refine ⟨_, _, (retI X hx Bd.returns (hb hby d2_25) hr), hrun, hended, _, _, rfl, ?_, ⟨_, rfl⟩, hW, hsame.mono (by decide) (by decide)⟩
      show Q2 Z ta i0 z N fr b h0 n0 _ T.heap _
      rw [eT]
      exact ⟨by rw [← hE]; rfl, Nf, he⟩
    | succ k ih =>
      intro i n T locs h X eT Nf Zs Kp szr V_ta he hi hk hE
      refine own_go (fun t k => XS.iloadN X.here hx rfl (hb hby d2_2) rfl k) ?_
      show own_End p e below _ (T.setTop (mkF m 3 #[.val (.ref ta), .val (.int i0), .val (.int i)] [(.int i)]))
      refine own_go (fun t k => XS.aloadN X.here hx rfl (hb hby d2_3) rfl rfl k) ?_
      show own_End p e below _ (T.setTop (mkF m 4 #[.val (.ref ta), .val (.int i0), .val (.int i)] [(.ref ta), (.int i)]))
      obtain ⟨cl2, Ar2, S2, M2, H2⟩ := id V_ta
      refine own_go (fun t k => X.arraylength hx (by rw [eT]; exact Ar2.1) (State.isArrayOf_alike hZ.alike Ar2.2.1) (g := (mkF m 4 #[.val (.ref ta), .val (.int i0), .val (.int i)] [(.ref ta), (.int i)])) rfl rfl (hb hby d2_4) _ k) ?_
      rw [len_of S2 M2]
      show own_End p e below _ (T.setTop (mkF m 5 #[.val (.ref ta), .val (.int i0), .val (.int i)] [(.int z), (.int i)]))
      refine own_go (fun t k => XS.icmpNo X.here hx rfl (hb hby d2_5) rfl (tlt ((own_lt_of hi hz).mpr (by omega))).2.1 k) ?_
      show own_End p e below _ (T.setTop (mkF m 8 #[.val (.ref ta), .val (.int i0), .val (.int i)] []))
      refine own_go (fun t k => XS.aloadN X.here hx rfl (hb hby d2_8) rfl rfl k) ?_
      show own_End p e below _ (T.setTop (mkF m 9 #[.val (.ref ta), .val (.int i0), .val (.int i)] [(.ref ta)]))
      refine own_go (fun t k => XS.iloadN X.here hx rfl (hb hby d2_9) rfl k) ?_
      show own_End p e below _ (T.setTop (mkF m 10 #[.val (.ref ta), .val (.int i0), .val (.int i)] [(.int i), (.ref ta)]))
      obtain ⟨cl3, Ar3, S3, M3, H3⟩ := id V_ta
      have hin3 := inb_of (j := i) S3 ⟨own_nn hi, (own_lt_of hi hz).mpr (by omega)⟩
      refine own_go (fun t k => X.baloadBytes hx (j := i) (v := (.int (b i.toNatClampNeg))) (by rw [eT]; exact Ar3.1) (State.isArrayOf_alike hZ.alike Ar3.2.1) Ar3.2.2 hin3 (H3 _ (own_in S3 hin3)) (g := (mkF m 10 #[.val (.ref ta), .val (.int i0), .val (.int i)] [(.int i), (.ref ta)])) rfl rfl (hb hby d2_10) _ k) ?_
      show own_End p e below _ (T.setTop (mkF m 11 #[.val (.ref ta), .val (.int i0), .val (.int i)] [(.int (b i.toNatClampNeg))]))
      rw [own_clamp hi]
      show own_End p e below _ (T.setTop (mkF m 11 #[.val (.ref ta), .val (.int i0), .val (.int i)] [(.int (b n))]))
      refine own_go (fun t k => XS.bipush X.here hx rfl (hb hby d2_11) k) ?_
      show own_End p e below _ (T.setTop (mkF m 13 #[.val (.ref ta), .val (.int i0), .val (.int i)] [(.int (10 : Int32)), (.int (b n))]))
      by_cases hc13 : (b n) = (10 : Int32)
      ·
        refine own_go (fun t k => XS.icmpNo X.here hx rfl (hb hby d2_13) rfl (teq hc13).2 k) ?_
        show own_End p e below _ (T.setTop (mkF m 16 #[.val (.ref ta), .val (.int i0), .val (.int i)] []))
        refine own_go (fun t k => XS.iloadN X.here hx rfl (hb hby d2_16) rfl k) ?_
        show own_End p e below _ (T.setTop (mkF m 17 #[.val (.ref ta), .val (.int i0), .val (.int i)] [(.int i)]))
        obtain ⟨fs, hr, hrun, hended, hW, hsame⟩ := X.leave (v := some (.int i)) (fun h => by rw [Bd.returns] at h; cases h)
        refine ⟨_, _, (retI X hx Bd.returns (hb hby d2_17) hr), hrun, hended, _, _, rfl, ?_, ⟨_, rfl⟩, hW, hsame.mono (by decide) (by decide)⟩
        show Q2 Z ta i0 z N fr b h0 n0 _ T.heap _
        rw [eT]
        exact ⟨by rw [← hE]; simp [own_end, hc13, own_num hi], Nf, he⟩
      ·
        refine own_go (fun t k => XS.icmpYes X.here hx rfl (pc0 := 13) (pc' := 18) rfl (hb hby d2_13) rfl (feq hc13).2 (by decide) (by decide) k) ?_
        show own_End p e below _ (T.setTop (mkF m 18 #[.val (.ref ta), .val (.int i0), .val (.int i)] []))
        refine own_go (fun t k => XS.iinc X.here hx rfl (hb hby d2_18) rfl (l' := #[.val (.ref ta), .val (.int i0), .val (.int (i + (1 : Int32)))]) rfl k) ?_
        show own_End p e below _ (T.setTop (mkF m 21 #[.val (.ref ta), .val (.int i0), .val (.int (i + (1 : Int32)))] []))
        refine own_go (fun t k => XS.goto X.here hx rfl (pc0 := 21) (pc' := 2) rfl (hb hby d2_21) (by decide) (by decide) k) ?_
        show own_End p e below _ (T.setTop (mkF m 2 #[.val (.ref ta), .val (.int i0), .val (.int (i + (1 : Int32)))] []))
        exact ih (i + (1 : Int32)) (n + 1) T _ h X eT Nf Zs Kp szr V_ta he (own_inc hi (by have := (rng32 z).2; omega)) (by omega) (by rw [← hE]; simp [own_end, hc13])
  refine own_go (fun t k => XS.iloadN X0.here hx rfl (hb hby d2_0) rfl k) ?_
  show own_End p e below _ (s₁.setTop (mkF m 1 #[.val (.ref ta), .val (.int i0), .unset] [(.int i0)]))
  refine own_go (fun t k => XS.istoreN X0.here hx rfl (hb hby d2_1) rfl (l' := #[.val (.ref ta), .val (.int i0), .val (.int i0)]) rfl k) ?_
  show own_End p e below _ (s₁.setTop (mkF m 2 #[.val (.ref ta), .val (.int i0), .val (.int i0)] []))
  exact lp (N - fr) i0 fr s₁ _ h0 X0 e0 Nf Zs Kp szr V_ta rfl hf (by omega) rfl
theorem pd_2 : parseMethodDescriptor "(I)B" = some ⟨[.int], some .byte⟩ := by decide +kernel
theorem pd_3 : parseMethodDescriptor "([BI)I" = some ⟨[(.array .byte), .int], some .int⟩ := by decide +kernel
theorem ef_0 (m : MethodId) (x0 : Int32) (x1 : Int32) (x2 : Int32) (x3 : Int32) (x4 : Int32) (x5 : Int32) : entryFrame m #[(.int x0), (.int x1), (.int x2), (.int x3), (.int x4), (.int x5)] maxLocals = mkF m 0 #[.val (.int x0), .val (.int x1), .val (.int x2), .val (.int x3), .val (.int x4), .val (.int x5), .unset, .unset, .unset, .unset, .unset, .unset, .unset, .unset] [] := by first | (simp [entryFrame, mkF, argsToLocals, Value.category, maxLocals]; done) | rfl
def Q0 (Z : State) (i0 : Int32) (i1 : Int32) (i2 : Int32) (i3 : Int32) (i4 : Int32) (i5 : Int32) (h0 : Heap) (n0 : Nat) (v : Option Value) (h : Heap) (L : List Loc) : Prop := v = some (.int 1) ∧ Fr n0 L
def P0 (Z : State) (i0 : Int32) (i1 : Int32) (i2 : Int32) (i3 : Int32) (i4 : Int32) (i5 : Int32) (h0 : Heap) (n0 : Nat) (s : State) (o : Outcome) (U : State) : Prop := ∃ v L, o = .returned v ∧ Q0 Z i0 i1 i2 i3 i4 i5 h0 n0 v U.heap L ∧ FrameEnd s o U L 1 4
set_option maxRecDepth 65536 in
set_option maxHeartbeats 40000000 in
theorem rm0 (l : Launch) (Z : State) (a0 : Array Value) (hw : ∀ d ∈ tables_1, d.before a0 Z = true) (ws : List Jvm.Cond) (i0 : Int32) (i1 : Int32) (i2 : Int32) (i3 : Int32) (i4 : Int32) (i5 : Int32) (h0 : Heap) (n0 : Nat) (Z0 : n0 ≤ h0.size)  :
    MetFree l x (head1 (Jvm.Cond.code x code maxLocals ret :: ws) room_1) (fun a U => a = #[(.int i0), (.int i1), (.int i2), (.int i3), (.int i4), (.int i5)] ∧ Z.Warmed39 U.vm ∧ U.heap = h0) (fun _ _ _ _ _ => True) (fun _ U o U' => ∃ v L, o = .returned v ∧ Q0 Z i0 i1 i2 i3 i4 i5 h0 n0 v U'.heap L ∧ FrameEnd U o U' L 1 4) := by
  refine MetFree.of_bodySF (plainFor_of_name pn_0) hisR ?_
  intro p e s m args below meth c s₁ Bd hml0 hP hK
  obtain ⟨rfl, hZ, hh⟩ := hP
  have hx := Bd.exec
  have hby := Bd.bytes
  have hml : c.maxLocals = 14 := hml0
  have hown : s.vm.findClass "com/example/grant3/grant3/store/RecordLineEndPinLaw" = some m.cls := findClass_of_methodNamed Bd.named
  have hnm := (name_of_methodNamed Bd.named Bd.method).1
  have X0 : Stand p l e room_1 s m #[(.int i0), (.int i1), (.int i2), (.int i3), (.int i4), (.int i5)] below meth c s₁ [] 0 0 := Stand.of_body Bd
  have e0 : s₁.heap = h0 := by rw [← hh, Bd.state]; rfl
  have Nf := Fr.nil n0
  have Zs : n0 ≤ h0.size := Z0
  have Kp : Keep h0 h0 [] := Keep.refl _ _
  have szr : h0.size ≤ h0.size := Nat.le_refl _
  show own_End p e below (P0 Z i0 i1 i2 i3 i4 i5 h0 n0 s) (s₁.setTop (entryFrame m #[(.int i0), (.int i1), (.int i2), (.int i3), (.int i4), (.int i5)] maxLocals))
  rw [ef_0]
  refine own_go (fun t k => XS.iloadN X0.here hx rfl (hb hby at_0) rfl k) ?_
  show own_End p e below _ (s₁.setTop (mkF m 1 #[.val (.int i0), .val (.int i1), .val (.int i2), .val (.int i3), .val (.int i4), .val (.int i5), .unset, .unset, .unset, .unset, .unset, .unset, .unset, .unset] [(.int i0)]))
  refine own_go (fun t k => X0.ldcInt hx hown (mvT hZ (hw _ (List.mem_of_getElem? (i := 0) rfl))) (g := (mkF m 1 #[.val (.int i0), .val (.int i1), .val (.int i2), .val (.int i3), .val (.int i4), .val (.int i5), .unset, .unset, .unset, .unset, .unset, .unset, .unset, .unset] [(.int i0)])) rfl (hb hby at_1) _ k) ?_
  show own_End p e below _ (s₁.setTop (mkF m 3 #[.val (.int i0), .val (.int i1), .val (.int i2), .val (.int i3), .val (.int i4), .val (.int i5), .unset, .unset, .unset, .unset, .unset, .unset, .unset, .unset] [(.int (2147483647 : Int32)), (.int i0)]))
  refine own_go (fun t k => XS.iand X0.here hx rfl (hb hby at_3) rfl k) ?_
  show own_End p e below _ (s₁.setTop (mkF m 4 #[.val (.int i0), .val (.int i1), .val (.int i2), .val (.int i3), .val (.int i4), .val (.int i5), .unset, .unset, .unset, .unset, .unset, .unset, .unset, .unset] [(.int (i0 &&& (2147483647 : Int32)))]))
  refine own_go (fun t k => XS.iconst X0.here hx rfl (hb hby at_4) k) ?_
  show own_End p e below _ (s₁.setTop (mkF m 5 #[.val (.int i0), .val (.int i1), .val (.int i2), .val (.int i3), .val (.int i4), .val (.int i5), .unset, .unset, .unset, .unset, .unset, .unset, .unset, .unset] [(.int (5 : Int32)), (.int (i0 &&& (2147483647 : Int32)))]))
  refine own_go (fun t k => iremM (g := (mkF m 5 #[.val (.int i0), .val (.int i1), .val (.int i2), .val (.int i3), .val (.int i4), .val (.int i5), .unset, .unset, .unset, .unset, .unset, .unset, .unset, .unset] [(.int (5 : Int32)), (.int (i0 &&& (2147483647 : Int32)))])) X0 hx rfl (hb hby at_5) rfl (by decide) k) ?_
  show own_End p e below _ (s₁.setTop (mkF m 6 #[.val (.int i0), .val (.int i1), .val (.int i2), .val (.int i3), .val (.int i4), .val (.int i5), .unset, .unset, .unset, .unset, .unset, .unset, .unset, .unset] [(.int ((i0 &&& (2147483647 : Int32)) % (5 : Int32)))]))
  refine own_go (fun t k => XS.istore X0.here hx rfl (hb hby at_6) rfl (l' := #[.val (.int i0), .val (.int i1), .val (.int i2), .val (.int i3), .val (.int i4), .val (.int i5), .val (.int ((i0 &&& (2147483647 : Int32)) % (5 : Int32))), .unset, .unset, .unset, .unset, .unset, .unset, .unset]) rfl k) ?_
  show own_End p e below _ (s₁.setTop (mkF m 8 #[.val (.int i0), .val (.int i1), .val (.int i2), .val (.int i3), .val (.int i4), .val (.int i5), .val (.int ((i0 &&& (2147483647 : Int32)) % (5 : Int32))), .unset, .unset, .unset, .unset, .unset, .unset, .unset] []))
  obtain ⟨N, hN, hz⟩ := own_five i0
  generalize ((i0 &&& (2147483647 : Int32)) % (5 : Int32)) = z at hz ⊢
  show own_End p e below _ (s₁.setTop (mkF m 8 #[.val (.int i0), .val (.int i1), .val (.int i2), .val (.int i3), .val (.int i4), .val (.int i5), .val (.int z), .unset, .unset, .unset, .unset, .unset, .unset, .unset] []))
  have J26 : ∀ (fz : Int32) (fr : Nat) (T : State) (locs : List Loc) (h : Heap) (X : Stand p l e room_1 s m #[(.int i0), (.int i1), (.int i2), (.int i3), (.int i4), (.int i5)] below meth c T locs 0 0) (eT : T.heap = h) (Nf : Fr n0 locs) (Zs : n0 ≤ h.size) (Kp : Keep h0 h []) (szr : h0.size ≤ h.size)  (hf : fz.toInt = fr), own_End p e below (P0 Z i0 i1 i2 i3 i4 i5 h0 n0 s) (T.setTop (mkF m 26 #[.val (.int i0), .val (.int i1), .val (.int i2), .val (.int i3), .val (.int i4), .val (.int i5), .val (.int z), .unset, .unset, .unset, .unset, .unset, .unset, .unset] [(.int fz)])) := by
    intro fz fr T locs h X eT Nf Zs Kp szr  hf
    refine own_go (fun t k => XS.istore X.here hx rfl (hb hby at_26) rfl (l' := #[.val (.int i0), .val (.int i1), .val (.int i2), .val (.int i3), .val (.int i4), .val (.int i5), .val (.int z), .val (.int fz), .unset, .unset, .unset, .unset, .unset, .unset]) rfl k) ?_
    show own_End p e below _ (T.setTop (mkF m 28 #[.val (.int i0), .val (.int i1), .val (.int i2), .val (.int i3), .val (.int i4), .val (.int i5), .val (.int z), .val (.int fz), .unset, .unset, .unset, .unset, .unset, .unset] []))
    refine own_go (fun t k => XS.iloadN X.here hx rfl (hb hby at_28) rfl k) ?_
    show own_End p e below _ (T.setTop (mkF m 29 #[.val (.int i0), .val (.int i1), .val (.int i2), .val (.int i3), .val (.int i4), .val (.int i5), .val (.int z), .val (.int fz), .unset, .unset, .unset, .unset, .unset, .unset] [(.int i2)]))
    obtain ⟨_, _, ⟨T1, L1, k1, n1⟩, -, X1, ⟨Lc1, hQ1, l1, y1, z1⟩, st1⟩ := Jvm.LawKit.callS X hx (y := (⟨"com/example/grant3/grant3/store/RecordLineEndPinLaw", "draw", "(I)B"⟩ : MethodName)) hown (mvT hZ (hw _ (List.mem_of_getElem? (i := 1) rfl))) (mvT hZ (hw _ (List.mem_of_getElem? (i := 2) rfl))) (mvT hZ (hw _ (List.mem_of_getElem? (i := 3) rfl))) (mvT hZ (hw _ (List.mem_of_getElem? (i := 4) rfl))) (by decide) (backOf (W := 0) (rm1 l Z a0 hw [] i2 h n0 Zs ) hZ (hw _ (List.mem_of_getElem? (i := 4) rfl)) (hw _ (List.mem_of_getElem? (i := 3) rfl)) (by decide) (by decide)) (g := (mkF m 29 #[.val (.int i0), .val (.int i1), .val (.int i2), .val (.int i3), .val (.int i4), .val (.int i5), .val (.int z), .val (.int fz), .unset, .unset, .unset, .unset, .unset, .unset] [(.int i2)])) rfl (by rw [hml]; rfl) (argsL := [(.int i2)]) (rest := []) (lenOf pd_2 rfl) rfl (by show 2 * 0 + _ ≤ _; exact Nat.le_of_eq rfl) (hb hby at_29) (fun _ _ => ⟨rfl, eT, (Nat.le_of_ble_eq_true rfl), (Nat.le_of_ble_eq_true rfl)⟩)
    dsimp only [Pt.U, Pt.locs, Pt.cells, Pt.slots] at X1 l1 y1 z1 st1 hQ1
    subst l1 y1 z1
    obtain ⟨rfl, N1q, e1⟩ := hQ1
    have Nf := Fr.app Nf N1q
    refine own_go (fun t k => st1 t k) ?_
    show own_End p e below _ (T1.setTop (mkF m 32 #[.val (.int i0), .val (.int i1), .val (.int i2), .val (.int i3), .val (.int i4), .val (.int i5), .val (.int z), .val (.int fz), .unset, .unset, .unset, .unset, .unset, .unset] [(.int (own_draw i2))]))
    refine own_go (fun t k => XS.istore X1.here hx rfl (hb hby at_32) rfl (l' := #[.val (.int i0), .val (.int i1), .val (.int i2), .val (.int i3), .val (.int i4), .val (.int i5), .val (.int z), .val (.int fz), .val (.int (own_draw i2)), .unset, .unset, .unset, .unset, .unset]) rfl k) ?_
    show own_End p e below _ (T1.setTop (mkF m 34 #[.val (.int i0), .val (.int i1), .val (.int i2), .val (.int i3), .val (.int i4), .val (.int i5), .val (.int z), .val (.int fz), .val (.int (own_draw i2)), .unset, .unset, .unset, .unset, .unset] []))
    refine own_go (fun t k => XS.iloadN X1.here hx rfl (hb hby at_34) rfl k) ?_
    show own_End p e below _ (T1.setTop (mkF m 35 #[.val (.int i0), .val (.int i1), .val (.int i2), .val (.int i3), .val (.int i4), .val (.int i5), .val (.int z), .val (.int fz), .val (.int (own_draw i2)), .unset, .unset, .unset, .unset, .unset] [(.int i3)]))
    obtain ⟨_, _, ⟨T2, L2, k2, n2⟩, -, X2, ⟨Lc2, hQ2, l2, y2, z2⟩, st2⟩ := Jvm.LawKit.callS X1 hx (y := (⟨"com/example/grant3/grant3/store/RecordLineEndPinLaw", "draw", "(I)B"⟩ : MethodName)) hown (mvT hZ (hw _ (List.mem_of_getElem? (i := 1) rfl))) (mvT hZ (hw _ (List.mem_of_getElem? (i := 2) rfl))) (mvT hZ (hw _ (List.mem_of_getElem? (i := 3) rfl))) (mvT hZ (hw _ (List.mem_of_getElem? (i := 4) rfl))) (by decide) (backOf (W := 0) (rm1 l Z a0 hw [] i3 h n0 Zs ) hZ (hw _ (List.mem_of_getElem? (i := 4) rfl)) (hw _ (List.mem_of_getElem? (i := 3) rfl)) (by decide) (by decide)) (g := (mkF m 35 #[.val (.int i0), .val (.int i1), .val (.int i2), .val (.int i3), .val (.int i4), .val (.int i5), .val (.int z), .val (.int fz), .val (.int (own_draw i2)), .unset, .unset, .unset, .unset, .unset] [(.int i3)])) rfl (by rw [hml]; rfl) (argsL := [(.int i3)]) (rest := []) (lenOf pd_2 rfl) rfl (by show 2 * 0 + _ ≤ _; exact Nat.le_of_eq rfl) (hb hby at_35) (fun _ _ => ⟨rfl, e1, (Nat.le_of_ble_eq_true rfl), (Nat.le_of_ble_eq_true rfl)⟩)
    dsimp only [Pt.U, Pt.locs, Pt.cells, Pt.slots] at X2 l2 y2 z2 st2 hQ2
    subst l2 y2 z2
    obtain ⟨rfl, N2q, e2⟩ := hQ2
    have Nf := Fr.app Nf N2q
    refine own_go (fun t k => st2 t k) ?_
    show own_End p e below _ (T2.setTop (mkF m 38 #[.val (.int i0), .val (.int i1), .val (.int i2), .val (.int i3), .val (.int i4), .val (.int i5), .val (.int z), .val (.int fz), .val (.int (own_draw i2)), .unset, .unset, .unset, .unset, .unset] [(.int (own_draw i3))]))
    refine own_go (fun t k => XS.istore X2.here hx rfl (hb hby at_38) rfl (l' := #[.val (.int i0), .val (.int i1), .val (.int i2), .val (.int i3), .val (.int i4), .val (.int i5), .val (.int z), .val (.int fz), .val (.int (own_draw i2)), .val (.int (own_draw i3)), .unset, .unset, .unset, .unset]) rfl k) ?_
    show own_End p e below _ (T2.setTop (mkF m 40 #[.val (.int i0), .val (.int i1), .val (.int i2), .val (.int i3), .val (.int i4), .val (.int i5), .val (.int z), .val (.int fz), .val (.int (own_draw i2)), .val (.int (own_draw i3)), .unset, .unset, .unset, .unset] []))
    refine own_go (fun t k => XS.iload X2.here hx rfl (hb hby at_40) rfl k) ?_
    show own_End p e below _ (T2.setTop (mkF m 42 #[.val (.int i0), .val (.int i1), .val (.int i2), .val (.int i3), .val (.int i4), .val (.int i5), .val (.int z), .val (.int fz), .val (.int (own_draw i2)), .val (.int (own_draw i3)), .unset, .unset, .unset, .unset] [(.int i4)]))
    obtain ⟨_, _, ⟨T3, L3, k3, n3⟩, -, X3, ⟨Lc3, hQ3, l3, y3, z3⟩, st3⟩ := Jvm.LawKit.callS X2 hx (y := (⟨"com/example/grant3/grant3/store/RecordLineEndPinLaw", "draw", "(I)B"⟩ : MethodName)) hown (mvT hZ (hw _ (List.mem_of_getElem? (i := 1) rfl))) (mvT hZ (hw _ (List.mem_of_getElem? (i := 2) rfl))) (mvT hZ (hw _ (List.mem_of_getElem? (i := 3) rfl))) (mvT hZ (hw _ (List.mem_of_getElem? (i := 4) rfl))) (by decide) (backOf (W := 0) (rm1 l Z a0 hw [] i4 h n0 Zs ) hZ (hw _ (List.mem_of_getElem? (i := 4) rfl)) (hw _ (List.mem_of_getElem? (i := 3) rfl)) (by decide) (by decide)) (g := (mkF m 42 #[.val (.int i0), .val (.int i1), .val (.int i2), .val (.int i3), .val (.int i4), .val (.int i5), .val (.int z), .val (.int fz), .val (.int (own_draw i2)), .val (.int (own_draw i3)), .unset, .unset, .unset, .unset] [(.int i4)])) rfl (by rw [hml]; rfl) (argsL := [(.int i4)]) (rest := []) (lenOf pd_2 rfl) rfl (by show 2 * 0 + _ ≤ _; exact Nat.le_of_eq rfl) (hb hby at_42) (fun _ _ => ⟨rfl, e2, (Nat.le_of_ble_eq_true rfl), (Nat.le_of_ble_eq_true rfl)⟩)
    dsimp only [Pt.U, Pt.locs, Pt.cells, Pt.slots] at X3 l3 y3 z3 st3 hQ3
    subst l3 y3 z3
    obtain ⟨rfl, N3q, e3⟩ := hQ3
    have Nf := Fr.app Nf N3q
    refine own_go (fun t k => st3 t k) ?_
    show own_End p e below _ (T3.setTop (mkF m 45 #[.val (.int i0), .val (.int i1), .val (.int i2), .val (.int i3), .val (.int i4), .val (.int i5), .val (.int z), .val (.int fz), .val (.int (own_draw i2)), .val (.int (own_draw i3)), .unset, .unset, .unset, .unset] [(.int (own_draw i4))]))
    refine own_go (fun t k => XS.istore X3.here hx rfl (hb hby at_45) rfl (l' := #[.val (.int i0), .val (.int i1), .val (.int i2), .val (.int i3), .val (.int i4), .val (.int i5), .val (.int z), .val (.int fz), .val (.int (own_draw i2)), .val (.int (own_draw i3)), .val (.int (own_draw i4)), .unset, .unset, .unset]) rfl k) ?_
    show own_End p e below _ (T3.setTop (mkF m 47 #[.val (.int i0), .val (.int i1), .val (.int i2), .val (.int i3), .val (.int i4), .val (.int i5), .val (.int z), .val (.int fz), .val (.int (own_draw i2)), .val (.int (own_draw i3)), .val (.int (own_draw i4)), .unset, .unset, .unset] []))
    refine own_go (fun t k => XS.iload X3.here hx rfl (hb hby at_47) rfl k) ?_
    show own_End p e below _ (T3.setTop (mkF m 49 #[.val (.int i0), .val (.int i1), .val (.int i2), .val (.int i3), .val (.int i4), .val (.int i5), .val (.int z), .val (.int fz), .val (.int (own_draw i2)), .val (.int (own_draw i3)), .val (.int (own_draw i4)), .unset, .unset, .unset] [(.int i5)]))
    obtain ⟨_, _, ⟨T4, L4, k4, n4⟩, -, X4, ⟨Lc4, hQ4, l4, y4, z4⟩, st4⟩ := Jvm.LawKit.callS X3 hx (y := (⟨"com/example/grant3/grant3/store/RecordLineEndPinLaw", "draw", "(I)B"⟩ : MethodName)) hown (mvT hZ (hw _ (List.mem_of_getElem? (i := 1) rfl))) (mvT hZ (hw _ (List.mem_of_getElem? (i := 2) rfl))) (mvT hZ (hw _ (List.mem_of_getElem? (i := 3) rfl))) (mvT hZ (hw _ (List.mem_of_getElem? (i := 4) rfl))) (by decide) (backOf (W := 0) (rm1 l Z a0 hw [] i5 h n0 Zs ) hZ (hw _ (List.mem_of_getElem? (i := 4) rfl)) (hw _ (List.mem_of_getElem? (i := 3) rfl)) (by decide) (by decide)) (g := (mkF m 49 #[.val (.int i0), .val (.int i1), .val (.int i2), .val (.int i3), .val (.int i4), .val (.int i5), .val (.int z), .val (.int fz), .val (.int (own_draw i2)), .val (.int (own_draw i3)), .val (.int (own_draw i4)), .unset, .unset, .unset] [(.int i5)])) rfl (by rw [hml]; rfl) (argsL := [(.int i5)]) (rest := []) (lenOf pd_2 rfl) rfl (by show 2 * 0 + _ ≤ _; exact Nat.le_of_eq rfl) (hb hby at_49) (fun _ _ => ⟨rfl, e3, (Nat.le_of_ble_eq_true rfl), (Nat.le_of_ble_eq_true rfl)⟩)
    dsimp only [Pt.U, Pt.locs, Pt.cells, Pt.slots] at X4 l4 y4 z4 st4 hQ4
    subst l4 y4 z4
    obtain ⟨rfl, N4q, e4⟩ := hQ4
    have Nf := Fr.app Nf N4q
    refine own_go (fun t k => st4 t k) ?_
    show own_End p e below _ (T4.setTop (mkF m 52 #[.val (.int i0), .val (.int i1), .val (.int i2), .val (.int i3), .val (.int i4), .val (.int i5), .val (.int z), .val (.int fz), .val (.int (own_draw i2)), .val (.int (own_draw i3)), .val (.int (own_draw i4)), .unset, .unset, .unset] [(.int (own_draw i5))]))
    refine own_go (fun t k => XS.istore X4.here hx rfl (hb hby at_52) rfl (l' := #[.val (.int i0), .val (.int i1), .val (.int i2), .val (.int i3), .val (.int i4), .val (.int i5), .val (.int z), .val (.int fz), .val (.int (own_draw i2)), .val (.int (own_draw i3)), .val (.int (own_draw i4)), .val (.int (own_draw i5)), .unset, .unset]) rfl k) ?_
    show own_End p e below _ (T4.setTop (mkF m 54 #[.val (.int i0), .val (.int i1), .val (.int i2), .val (.int i3), .val (.int i4), .val (.int i5), .val (.int z), .val (.int fz), .val (.int (own_draw i2)), .val (.int (own_draw i3)), .val (.int (own_draw i4)), .val (.int (own_draw i5)), .unset, .unset] []))
    obtain ⟨v0, hq0⟩ : ∃ q, q = own_draw i2 := ⟨_, rfl⟩
    have hv0 : nar .byte v0 = v0 := by rw [hq0]; exact own_nar _
    rw [← hq0]
    obtain ⟨v1, hq1⟩ : ∃ q, q = own_draw i3 := ⟨_, rfl⟩
    have hv1 : nar .byte v1 = v1 := by rw [hq1]; exact own_nar _
    rw [← hq1]
    obtain ⟨v2, hq2⟩ : ∃ q, q = own_draw i4 := ⟨_, rfl⟩
    have hv2 : nar .byte v2 = v2 := by rw [hq2]; exact own_nar _
    rw [← hq2]
    obtain ⟨v3, hq3⟩ : ∃ q, q = own_draw i5 := ⟨_, rfl⟩
    have hv3 : nar .byte v3 = v3 := by rw [hq3]; exact own_nar _
    rw [← hq3]
    show own_End p e below _ (T4.setTop (mkF m 54 #[.val (.int i0), .val (.int i1), .val (.int i2), .val (.int i3), .val (.int i4), .val (.int i5), .val (.int z), .val (.int fz), .val (.int v0), .val (.int v1), .val (.int v2), .val (.int v3), .unset, .unset] []))
    have E0 : ∀ (ta : Addr) (ex : Int32) (T : State) (locs : List Loc) (h : Heap) (X : Stand p l e room_1 s m #[(.int i0), (.int i1), (.int i2), (.int i3), (.int i4), (.int i5)] below meth c T locs 1 4) (eT : T.heap = h) (Nf : Fr n0 locs) (Zs : n0 ≤ h.size) (Kp : Keep h0 h []) (szr : h0.size ≤ h.size) (V_ta : own_Ar Z h ta .byte z (fun j => .int (own_w v0 v1 v2 v3 4 j))) (hex : ex = own_ex (own_w v0 v1 v2 v3 4) N fr 4 0), own_End p e below (P0 Z i0 i1 i2 i3 i4 i5 h0 n0 s) (T.setTop (mkF m 196 #[.val (.int i0), .val (.int i1), .val (.int i2), .val (.int i3), .val (.int i4), .val (.int i5), .val (.int z), .val (.int fz), .val (.int v0), .val (.int v1), .val (.int v2), .val (.int v3), .val (.ref ta), .val (.int ex)] [])) := by
      intro ta ex T locs h X eT Nf Zs Kp szr V_ta hex
      refine own_go (fun t k => XS.aload X.here hx rfl (hb hby at_196) rfl rfl k) ?_
      show own_End p e below _ (T.setTop (mkF m 198 #[.val (.int i0), .val (.int i1), .val (.int i2), .val (.int i3), .val (.int i4), .val (.int i5), .val (.int z), .val (.int fz), .val (.int v0), .val (.int v1), .val (.int v2), .val (.int v3), .val (.ref ta), .val (.int ex)] [(.ref ta)]))
      refine own_go (fun t k => XS.iload X.here hx rfl (hb hby at_198) rfl k) ?_
      show own_End p e below _ (T.setTop (mkF m 200 #[.val (.int i0), .val (.int i1), .val (.int i2), .val (.int i3), .val (.int i4), .val (.int i5), .val (.int z), .val (.int fz), .val (.int v0), .val (.int v1), .val (.int v2), .val (.int v3), .val (.ref ta), .val (.int ex)] [(.int fz), (.ref ta)]))
      obtain ⟨_, _, ⟨T5, L5, k5, n5⟩, -, X5, ⟨Lc5, hQ5, l5, y5, z5⟩, st5⟩ := Jvm.LawKit.callS X hx (y := (⟨"com/example/grant3/grant3/store/RecordLine", "end", "([BI)I"⟩ : MethodName)) hown (mvT hZ (hw _ (List.mem_of_getElem? (i := 6) rfl))) (mvT hZ (hw _ (List.mem_of_getElem? (i := 7) rfl))) (mvT hZ (hw _ (List.mem_of_getElem? (i := 8) rfl))) (mvT hZ (hw _ (List.mem_of_getElem? (i := 9) rfl))) (by decide) (backOf (W := 0) (rm2 l Z a0 hw [] ta fz z N fr (own_w v0 v1 v2 v3 4) h n0 Zs V_ta hz hf) hZ (hw _ (List.mem_of_getElem? (i := 9) rfl)) (hw _ (List.mem_of_getElem? (i := 8) rfl)) (by decide) (by decide)) (g := (mkF m 200 #[.val (.int i0), .val (.int i1), .val (.int i2), .val (.int i3), .val (.int i4), .val (.int i5), .val (.int z), .val (.int fz), .val (.int v0), .val (.int v1), .val (.int v2), .val (.int v3), .val (.ref ta), .val (.int ex)] [(.int fz), (.ref ta)])) rfl (by rw [hml]; rfl) (argsL := [(.ref ta), (.int fz)]) (rest := []) (lenOf pd_3 rfl) rfl (by show 2 * 0 + _ ≤ _; exact Nat.le_of_eq rfl) (hb hby at_200) (fun _ _ => ⟨rfl, eT, (Nat.le_of_ble_eq_true rfl), (Nat.le_of_ble_eq_true rfl)⟩)
      dsimp only [Pt.U, Pt.locs, Pt.cells, Pt.slots] at X5 l5 y5 z5 st5 hQ5
      subst l5 y5 z5
      obtain ⟨rfl, N5q, e5⟩ := hQ5
      have Nf := Fr.app Nf N5q
      refine own_go (fun t k => st5 t k) ?_
      show own_End p e below _ (T5.setTop (mkF m 203 #[.val (.int i0), .val (.int i1), .val (.int i2), .val (.int i3), .val (.int i4), .val (.int i5), .val (.int z), .val (.int fz), .val (.int v0), .val (.int v1), .val (.int v2), .val (.int v3), .val (.ref ta), .val (.int ex)] [(.int (own_end (own_w v0 v1 v2 v3 4) (N - fr) fr))]))
      refine own_go (fun t k => XS.iload X5.here hx rfl (hb hby at_203) rfl k) ?_
      show own_End p e below _ (T5.setTop (mkF m 205 #[.val (.int i0), .val (.int i1), .val (.int i2), .val (.int i3), .val (.int i4), .val (.int i5), .val (.int z), .val (.int fz), .val (.int v0), .val (.int v1), .val (.int v2), .val (.int v3), .val (.ref ta), .val (.int ex)] [(.int ex), (.int (own_end (own_w v0 v1 v2 v3 4) (N - fr) fr))]))
      refine own_go (fun t k => XS.icmpNo X5.here hx rfl (hb hby at_205) rfl (teq (by rw [hex]; exact (own_ex_end _ N fr 4 0 (Nat.zero_le _) (by omega)).symm)).2 k) ?_
      show own_End p e below _ (T5.setTop (mkF m 208 #[.val (.int i0), .val (.int i1), .val (.int i2), .val (.int i3), .val (.int i4), .val (.int i5), .val (.int z), .val (.int fz), .val (.int v0), .val (.int v1), .val (.int v2), .val (.int v3), .val (.ref ta), .val (.int ex)] []))
      refine own_go (fun t k => XS.iconst X5.here hx rfl (hb hby at_208) k) ?_
      show own_End p e below _ (T5.setTop (mkF m 209 #[.val (.int i0), .val (.int i1), .val (.int i2), .val (.int i3), .val (.int i4), .val (.int i5), .val (.int z), .val (.int fz), .val (.int v0), .val (.int v1), .val (.int v2), .val (.int v3), .val (.ref ta), .val (.int ex)] [(.int (1 : Int32))]))
      refine own_go (fun t k => XS.goto X5.here hx rfl (pc0 := 209) (pc' := 213) rfl (hb hby at_209) (by decide) (by decide) k) ?_
      show own_End p e below _ (T5.setTop (mkF m 213 #[.val (.int i0), .val (.int i1), .val (.int i2), .val (.int i3), .val (.int i4), .val (.int i5), .val (.int z), .val (.int fz), .val (.int v0), .val (.int v1), .val (.int v2), .val (.int v3), .val (.ref ta), .val (.int ex)] [(.int (1 : Int32))]))
      obtain ⟨fs, hr, hrun, hended, hW, hsame⟩ := X5.leave (v := some (.int (1 : Int32))) (fun h => by rw [Bd.returns] at h; cases h)
      refine ⟨_, _, (retN X5 hx (t := .boolean) Bd.returns (by simp) (hb hby at_213) hr), hrun, hended, _, _, rfl, ?_, ⟨_, rfl⟩, hW, hsame.mono (by decide) (by decide)⟩
      show Q0 Z i0 i1 i2 i3 i4 i5 h0 n0 _ T5.heap _
      rw [e5]
      exact ⟨rfl, Nf⟩
    have E1 : ∀ (ta : Addr) (ex : Int32) (T : State) (locs : List Loc) (h : Heap) (X : Stand p l e room_1 s m #[(.int i0), (.int i1), (.int i2), (.int i3), (.int i4), (.int i5)] below meth c T locs 1 4) (eT : T.heap = h) (Nf : Fr n0 locs) (Zs : n0 ≤ h.size) (Kp : Keep h0 h []) (szr : h0.size ≤ h.size) (V_ta : own_Ar Z h ta .byte z (fun j => .int (own_w v0 v1 v2 v3 4 j))) (hex : ex = own_ex (own_w v0 v1 v2 v3 4) N fr 3 1), own_End p e below (P0 Z i0 i1 i2 i3 i4 i5 h0 n0 s) (T.setTop (mkF m 176 #[.val (.int i0), .val (.int i1), .val (.int i2), .val (.int i3), .val (.int i4), .val (.int i5), .val (.int z), .val (.int fz), .val (.int v0), .val (.int v1), .val (.int v2), .val (.int v3), .val (.ref ta), .val (.int ex)] [])) := by
      intro ta ex T locs h X eT Nf Zs Kp szr V_ta hex
      refine own_go (fun t k => XS.iload X.here hx rfl (hb hby at_176) rfl k) ?_
      show own_End p e below _ (T.setTop (mkF m 178 #[.val (.int i0), .val (.int i1), .val (.int i2), .val (.int i3), .val (.int i4), .val (.int i5), .val (.int z), .val (.int fz), .val (.int v0), .val (.int v1), .val (.int v2), .val (.int v3), .val (.ref ta), .val (.int ex)] [(.int z)]))
      by_cases hc178 : (0 : Int32) < z
      ·
        refine own_go (fun t k => XS.ifNo X.here hx rfl (hb hby at_178) rfl ((if0 _ _).trans (tlt hc178).2.2.2) k) ?_
        show own_End p e below _ (T.setTop (mkF m 181 #[.val (.int i0), .val (.int i1), .val (.int i2), .val (.int i3), .val (.int i4), .val (.int i5), .val (.int z), .val (.int fz), .val (.int v0), .val (.int v1), .val (.int v2), .val (.int v3), .val (.ref ta), .val (.int ex)] []))
        refine own_go (fun t k => XS.iload X.here hx rfl (hb hby at_181) rfl k) ?_
        show own_End p e below _ (T.setTop (mkF m 183 #[.val (.int i0), .val (.int i1), .val (.int i2), .val (.int i3), .val (.int i4), .val (.int i5), .val (.int z), .val (.int fz), .val (.int v0), .val (.int v1), .val (.int v2), .val (.int v3), .val (.ref ta), .val (.int ex)] [(.int fz)]))
        by_cases hc183 : (0 : Int32) < fz
        ·
          refine own_go (fun t k => XS.ifYes X.here hx rfl (pc0 := 183) (pc' := 196) rfl (hb hby at_183) rfl ((if0 _ _).trans (tlt hc183).2.2.1) (by decide) (by decide) k) ?_
          show own_End p e below _ (T.setTop (mkF m 196 #[.val (.int i0), .val (.int i1), .val (.int i2), .val (.int i3), .val (.int i4), .val (.int i5), .val (.int z), .val (.int fz), .val (.int v0), .val (.int v1), .val (.int v2), .val (.int v3), .val (.ref ta), .val (.int ex)] []))
          exact E0 ta ex T _ h X eT Nf Zs Kp szr V_ta (own_skip (fun r => absurd ((own_gt hf (by decide : (0 : Int32).toInt = (0 : Nat))).mp hc183) (Nat.not_lt.mpr r.2.1)) hex)
        ·
          refine own_go (fun t k => XS.ifNo X.here hx rfl (hb hby at_183) rfl ((if0 _ _).trans (flt hc183).2.2.1) k) ?_
          show own_End p e below _ (T.setTop (mkF m 186 #[.val (.int i0), .val (.int i1), .val (.int i2), .val (.int i3), .val (.int i4), .val (.int i5), .val (.int z), .val (.int fz), .val (.int v0), .val (.int v1), .val (.int v2), .val (.int v3), .val (.ref ta), .val (.int ex)] []))
          refine own_go (fun t k => XS.iload X.here hx rfl (hb hby at_186) rfl k) ?_
          show own_End p e below _ (T.setTop (mkF m 188 #[.val (.int i0), .val (.int i1), .val (.int i2), .val (.int i3), .val (.int i4), .val (.int i5), .val (.int z), .val (.int fz), .val (.int v0), .val (.int v1), .val (.int v2), .val (.int v3), .val (.ref ta), .val (.int ex)] [(.int v0)]))
          refine own_go (fun t k => XS.bipush X.here hx rfl (hb hby at_188) k) ?_
          show own_End p e below _ (T.setTop (mkF m 190 #[.val (.int i0), .val (.int i1), .val (.int i2), .val (.int i3), .val (.int i4), .val (.int i5), .val (.int z), .val (.int fz), .val (.int v0), .val (.int v1), .val (.int v2), .val (.int v3), .val (.ref ta), .val (.int ex)] [(.int (10 : Int32)), (.int v0)]))
          by_cases hc190 : v0 = (10 : Int32)
          ·
            refine own_go (fun t k => XS.icmpNo X.here hx rfl (hb hby at_190) rfl (teq hc190).2 k) ?_
            show own_End p e below _ (T.setTop (mkF m 193 #[.val (.int i0), .val (.int i1), .val (.int i2), .val (.int i3), .val (.int i4), .val (.int i5), .val (.int z), .val (.int fz), .val (.int v0), .val (.int v1), .val (.int v2), .val (.int v3), .val (.ref ta), .val (.int ex)] []))
            refine own_go (fun t k => XS.iconst X.here hx rfl (hb hby at_193) k) ?_
            show own_End p e below _ (T.setTop (mkF m 194 #[.val (.int i0), .val (.int i1), .val (.int i2), .val (.int i3), .val (.int i4), .val (.int i5), .val (.int z), .val (.int fz), .val (.int v0), .val (.int v1), .val (.int v2), .val (.int v3), .val (.ref ta), .val (.int ex)] [(.int (0 : Int32))]))
            refine own_go (fun t k => XS.istore X.here hx rfl (hb hby at_194) rfl (l' := #[.val (.int i0), .val (.int i1), .val (.int i2), .val (.int i3), .val (.int i4), .val (.int i5), .val (.int z), .val (.int fz), .val (.int v0), .val (.int v1), .val (.int v2), .val (.int v3), .val (.ref ta), .val (.int (0 : Int32))]) rfl k) ?_
            show own_End p e below _ (T.setTop (mkF m 196 #[.val (.int i0), .val (.int i1), .val (.int i2), .val (.int i3), .val (.int i4), .val (.int i5), .val (.int z), .val (.int fz), .val (.int v0), .val (.int v1), .val (.int v2), .val (.int v3), .val (.ref ta), .val (.int (0 : Int32))] []))
            exact E0 ta (0 : Int32) T _ h X eT Nf Zs Kp szr V_ta (own_hit ((own_gt hz (by decide : (0 : Int32).toInt = (0 : Nat))).mp hc178) (Nat.le_of_not_lt fun q => hc183 ((own_gt hf (by decide : (0 : Int32).toInt = (0 : Nat))).mpr q)) hc190)
          ·
            refine own_go (fun t k => XS.icmpYes X.here hx rfl (pc0 := 190) (pc' := 196) rfl (hb hby at_190) rfl (feq hc190).2 (by decide) (by decide) k) ?_
            show own_End p e below _ (T.setTop (mkF m 196 #[.val (.int i0), .val (.int i1), .val (.int i2), .val (.int i3), .val (.int i4), .val (.int i5), .val (.int z), .val (.int fz), .val (.int v0), .val (.int v1), .val (.int v2), .val (.int v3), .val (.ref ta), .val (.int ex)] []))
            exact E0 ta ex T _ h X eT Nf Zs Kp szr V_ta (own_skip (fun r => hc190 r.2.2) hex)
      ·
        refine own_go (fun t k => XS.ifYes X.here hx rfl (pc0 := 178) (pc' := 196) rfl (hb hby at_178) rfl ((if0 _ _).trans (flt hc178).2.2.2) (by decide) (by decide) k) ?_
        show own_End p e below _ (T.setTop (mkF m 196 #[.val (.int i0), .val (.int i1), .val (.int i2), .val (.int i3), .val (.int i4), .val (.int i5), .val (.int z), .val (.int fz), .val (.int v0), .val (.int v1), .val (.int v2), .val (.int v3), .val (.ref ta), .val (.int ex)] []))
        exact E0 ta ex T _ h X eT Nf Zs Kp szr V_ta (own_skip (fun r => hc178 ((own_gt hz (by decide : (0 : Int32).toInt = (0 : Nat))).mpr r.1)) hex)
    have E2 : ∀ (ta : Addr) (ex : Int32) (T : State) (locs : List Loc) (h : Heap) (X : Stand p l e room_1 s m #[(.int i0), (.int i1), (.int i2), (.int i3), (.int i4), (.int i5)] below meth c T locs 1 4) (eT : T.heap = h) (Nf : Fr n0 locs) (Zs : n0 ≤ h.size) (Kp : Keep h0 h []) (szr : h0.size ≤ h.size) (V_ta : own_Ar Z h ta .byte z (fun j => .int (own_w v0 v1 v2 v3 4 j))) (hex : ex = own_ex (own_w v0 v1 v2 v3 4) N fr 2 2), own_End p e below (P0 Z i0 i1 i2 i3 i4 i5 h0 n0 s) (T.setTop (mkF m 154 #[.val (.int i0), .val (.int i1), .val (.int i2), .val (.int i3), .val (.int i4), .val (.int i5), .val (.int z), .val (.int fz), .val (.int v0), .val (.int v1), .val (.int v2), .val (.int v3), .val (.ref ta), .val (.int ex)] [])) := by
      intro ta ex T locs h X eT Nf Zs Kp szr V_ta hex
      refine own_go (fun t k => XS.iload X.here hx rfl (hb hby at_154) rfl k) ?_
      show own_End p e below _ (T.setTop (mkF m 156 #[.val (.int i0), .val (.int i1), .val (.int i2), .val (.int i3), .val (.int i4), .val (.int i5), .val (.int z), .val (.int fz), .val (.int v0), .val (.int v1), .val (.int v2), .val (.int v3), .val (.ref ta), .val (.int ex)] [(.int z)]))
      refine own_go (fun t k => XS.iconst X.here hx rfl (hb hby at_156) k) ?_
      show own_End p e below _ (T.setTop (mkF m 157 #[.val (.int i0), .val (.int i1), .val (.int i2), .val (.int i3), .val (.int i4), .val (.int i5), .val (.int z), .val (.int fz), .val (.int v0), .val (.int v1), .val (.int v2), .val (.int v3), .val (.ref ta), .val (.int ex)] [(.int (1 : Int32)), (.int z)]))
      by_cases hc157 : (1 : Int32) < z
      ·
        refine own_go (fun t k => XS.icmpNo X.here hx rfl (hb hby at_157) rfl (tlt hc157).2.2.2 k) ?_
        show own_End p e below _ (T.setTop (mkF m 160 #[.val (.int i0), .val (.int i1), .val (.int i2), .val (.int i3), .val (.int i4), .val (.int i5), .val (.int z), .val (.int fz), .val (.int v0), .val (.int v1), .val (.int v2), .val (.int v3), .val (.ref ta), .val (.int ex)] []))
        refine own_go (fun t k => XS.iload X.here hx rfl (hb hby at_160) rfl k) ?_
        show own_End p e below _ (T.setTop (mkF m 162 #[.val (.int i0), .val (.int i1), .val (.int i2), .val (.int i3), .val (.int i4), .val (.int i5), .val (.int z), .val (.int fz), .val (.int v0), .val (.int v1), .val (.int v2), .val (.int v3), .val (.ref ta), .val (.int ex)] [(.int fz)]))
        refine own_go (fun t k => XS.iconst X.here hx rfl (hb hby at_162) k) ?_
        show own_End p e below _ (T.setTop (mkF m 163 #[.val (.int i0), .val (.int i1), .val (.int i2), .val (.int i3), .val (.int i4), .val (.int i5), .val (.int z), .val (.int fz), .val (.int v0), .val (.int v1), .val (.int v2), .val (.int v3), .val (.ref ta), .val (.int ex)] [(.int (1 : Int32)), (.int fz)]))
        by_cases hc163 : (1 : Int32) < fz
        ·
          refine own_go (fun t k => XS.icmpYes X.here hx rfl (pc0 := 163) (pc' := 176) rfl (hb hby at_163) rfl (tlt hc163).2.2.1 (by decide) (by decide) k) ?_
          show own_End p e below _ (T.setTop (mkF m 176 #[.val (.int i0), .val (.int i1), .val (.int i2), .val (.int i3), .val (.int i4), .val (.int i5), .val (.int z), .val (.int fz), .val (.int v0), .val (.int v1), .val (.int v2), .val (.int v3), .val (.ref ta), .val (.int ex)] []))
          exact E1 ta ex T _ h X eT Nf Zs Kp szr V_ta (own_skip (fun r => absurd ((own_gt hf (by decide : (1 : Int32).toInt = (1 : Nat))).mp hc163) (Nat.not_lt.mpr r.2.1)) hex)
        ·
          refine own_go (fun t k => XS.icmpNo X.here hx rfl (hb hby at_163) rfl (flt hc163).2.2.1 k) ?_
          show own_End p e below _ (T.setTop (mkF m 166 #[.val (.int i0), .val (.int i1), .val (.int i2), .val (.int i3), .val (.int i4), .val (.int i5), .val (.int z), .val (.int fz), .val (.int v0), .val (.int v1), .val (.int v2), .val (.int v3), .val (.ref ta), .val (.int ex)] []))
          refine own_go (fun t k => XS.iload X.here hx rfl (hb hby at_166) rfl k) ?_
          show own_End p e below _ (T.setTop (mkF m 168 #[.val (.int i0), .val (.int i1), .val (.int i2), .val (.int i3), .val (.int i4), .val (.int i5), .val (.int z), .val (.int fz), .val (.int v0), .val (.int v1), .val (.int v2), .val (.int v3), .val (.ref ta), .val (.int ex)] [(.int v1)]))
          refine own_go (fun t k => XS.bipush X.here hx rfl (hb hby at_168) k) ?_
          show own_End p e below _ (T.setTop (mkF m 170 #[.val (.int i0), .val (.int i1), .val (.int i2), .val (.int i3), .val (.int i4), .val (.int i5), .val (.int z), .val (.int fz), .val (.int v0), .val (.int v1), .val (.int v2), .val (.int v3), .val (.ref ta), .val (.int ex)] [(.int (10 : Int32)), (.int v1)]))
          by_cases hc170 : v1 = (10 : Int32)
          ·
            refine own_go (fun t k => XS.icmpNo X.here hx rfl (hb hby at_170) rfl (teq hc170).2 k) ?_
            show own_End p e below _ (T.setTop (mkF m 173 #[.val (.int i0), .val (.int i1), .val (.int i2), .val (.int i3), .val (.int i4), .val (.int i5), .val (.int z), .val (.int fz), .val (.int v0), .val (.int v1), .val (.int v2), .val (.int v3), .val (.ref ta), .val (.int ex)] []))
            refine own_go (fun t k => XS.iconst X.here hx rfl (hb hby at_173) k) ?_
            show own_End p e below _ (T.setTop (mkF m 174 #[.val (.int i0), .val (.int i1), .val (.int i2), .val (.int i3), .val (.int i4), .val (.int i5), .val (.int z), .val (.int fz), .val (.int v0), .val (.int v1), .val (.int v2), .val (.int v3), .val (.ref ta), .val (.int ex)] [(.int (1 : Int32))]))
            refine own_go (fun t k => XS.istore X.here hx rfl (hb hby at_174) rfl (l' := #[.val (.int i0), .val (.int i1), .val (.int i2), .val (.int i3), .val (.int i4), .val (.int i5), .val (.int z), .val (.int fz), .val (.int v0), .val (.int v1), .val (.int v2), .val (.int v3), .val (.ref ta), .val (.int (1 : Int32))]) rfl k) ?_
            show own_End p e below _ (T.setTop (mkF m 176 #[.val (.int i0), .val (.int i1), .val (.int i2), .val (.int i3), .val (.int i4), .val (.int i5), .val (.int z), .val (.int fz), .val (.int v0), .val (.int v1), .val (.int v2), .val (.int v3), .val (.ref ta), .val (.int (1 : Int32))] []))
            exact E1 ta (1 : Int32) T _ h X eT Nf Zs Kp szr V_ta (own_hit ((own_gt hz (by decide : (1 : Int32).toInt = (1 : Nat))).mp hc157) (Nat.le_of_not_lt fun q => hc163 ((own_gt hf (by decide : (1 : Int32).toInt = (1 : Nat))).mpr q)) hc170)
          ·
            refine own_go (fun t k => XS.icmpYes X.here hx rfl (pc0 := 170) (pc' := 176) rfl (hb hby at_170) rfl (feq hc170).2 (by decide) (by decide) k) ?_
            show own_End p e below _ (T.setTop (mkF m 176 #[.val (.int i0), .val (.int i1), .val (.int i2), .val (.int i3), .val (.int i4), .val (.int i5), .val (.int z), .val (.int fz), .val (.int v0), .val (.int v1), .val (.int v2), .val (.int v3), .val (.ref ta), .val (.int ex)] []))
            exact E1 ta ex T _ h X eT Nf Zs Kp szr V_ta (own_skip (fun r => hc170 r.2.2) hex)
      ·
        refine own_go (fun t k => XS.icmpYes X.here hx rfl (pc0 := 157) (pc' := 176) rfl (hb hby at_157) rfl (flt hc157).2.2.2 (by decide) (by decide) k) ?_
        show own_End p e below _ (T.setTop (mkF m 176 #[.val (.int i0), .val (.int i1), .val (.int i2), .val (.int i3), .val (.int i4), .val (.int i5), .val (.int z), .val (.int fz), .val (.int v0), .val (.int v1), .val (.int v2), .val (.int v3), .val (.ref ta), .val (.int ex)] []))
        exact E1 ta ex T _ h X eT Nf Zs Kp szr V_ta (own_skip (fun r => hc157 ((own_gt hz (by decide : (1 : Int32).toInt = (1 : Nat))).mpr r.1)) hex)
    have E3 : ∀ (ta : Addr) (ex : Int32) (T : State) (locs : List Loc) (h : Heap) (X : Stand p l e room_1 s m #[(.int i0), (.int i1), (.int i2), (.int i3), (.int i4), (.int i5)] below meth c T locs 1 4) (eT : T.heap = h) (Nf : Fr n0 locs) (Zs : n0 ≤ h.size) (Kp : Keep h0 h []) (szr : h0.size ≤ h.size) (V_ta : own_Ar Z h ta .byte z (fun j => .int (own_w v0 v1 v2 v3 4 j))) (hex : ex = own_ex (own_w v0 v1 v2 v3 4) N fr 1 3), own_End p e below (P0 Z i0 i1 i2 i3 i4 i5 h0 n0 s) (T.setTop (mkF m 132 #[.val (.int i0), .val (.int i1), .val (.int i2), .val (.int i3), .val (.int i4), .val (.int i5), .val (.int z), .val (.int fz), .val (.int v0), .val (.int v1), .val (.int v2), .val (.int v3), .val (.ref ta), .val (.int ex)] [])) := by
      intro ta ex T locs h X eT Nf Zs Kp szr V_ta hex
      refine own_go (fun t k => XS.iload X.here hx rfl (hb hby at_132) rfl k) ?_
      show own_End p e below _ (T.setTop (mkF m 134 #[.val (.int i0), .val (.int i1), .val (.int i2), .val (.int i3), .val (.int i4), .val (.int i5), .val (.int z), .val (.int fz), .val (.int v0), .val (.int v1), .val (.int v2), .val (.int v3), .val (.ref ta), .val (.int ex)] [(.int z)]))
      refine own_go (fun t k => XS.iconst X.here hx rfl (hb hby at_134) k) ?_
      show own_End p e below _ (T.setTop (mkF m 135 #[.val (.int i0), .val (.int i1), .val (.int i2), .val (.int i3), .val (.int i4), .val (.int i5), .val (.int z), .val (.int fz), .val (.int v0), .val (.int v1), .val (.int v2), .val (.int v3), .val (.ref ta), .val (.int ex)] [(.int (2 : Int32)), (.int z)]))
      by_cases hc135 : (2 : Int32) < z
      ·
        refine own_go (fun t k => XS.icmpNo X.here hx rfl (hb hby at_135) rfl (tlt hc135).2.2.2 k) ?_
        show own_End p e below _ (T.setTop (mkF m 138 #[.val (.int i0), .val (.int i1), .val (.int i2), .val (.int i3), .val (.int i4), .val (.int i5), .val (.int z), .val (.int fz), .val (.int v0), .val (.int v1), .val (.int v2), .val (.int v3), .val (.ref ta), .val (.int ex)] []))
        refine own_go (fun t k => XS.iload X.here hx rfl (hb hby at_138) rfl k) ?_
        show own_End p e below _ (T.setTop (mkF m 140 #[.val (.int i0), .val (.int i1), .val (.int i2), .val (.int i3), .val (.int i4), .val (.int i5), .val (.int z), .val (.int fz), .val (.int v0), .val (.int v1), .val (.int v2), .val (.int v3), .val (.ref ta), .val (.int ex)] [(.int fz)]))
        refine own_go (fun t k => XS.iconst X.here hx rfl (hb hby at_140) k) ?_
        show own_End p e below _ (T.setTop (mkF m 141 #[.val (.int i0), .val (.int i1), .val (.int i2), .val (.int i3), .val (.int i4), .val (.int i5), .val (.int z), .val (.int fz), .val (.int v0), .val (.int v1), .val (.int v2), .val (.int v3), .val (.ref ta), .val (.int ex)] [(.int (2 : Int32)), (.int fz)]))
        by_cases hc141 : (2 : Int32) < fz
        ·
          refine own_go (fun t k => XS.icmpYes X.here hx rfl (pc0 := 141) (pc' := 154) rfl (hb hby at_141) rfl (tlt hc141).2.2.1 (by decide) (by decide) k) ?_
          show own_End p e below _ (T.setTop (mkF m 154 #[.val (.int i0), .val (.int i1), .val (.int i2), .val (.int i3), .val (.int i4), .val (.int i5), .val (.int z), .val (.int fz), .val (.int v0), .val (.int v1), .val (.int v2), .val (.int v3), .val (.ref ta), .val (.int ex)] []))
          exact E2 ta ex T _ h X eT Nf Zs Kp szr V_ta (own_skip (fun r => absurd ((own_gt hf (by decide : (2 : Int32).toInt = (2 : Nat))).mp hc141) (Nat.not_lt.mpr r.2.1)) hex)
        ·
          refine own_go (fun t k => XS.icmpNo X.here hx rfl (hb hby at_141) rfl (flt hc141).2.2.1 k) ?_
          show own_End p e below _ (T.setTop (mkF m 144 #[.val (.int i0), .val (.int i1), .val (.int i2), .val (.int i3), .val (.int i4), .val (.int i5), .val (.int z), .val (.int fz), .val (.int v0), .val (.int v1), .val (.int v2), .val (.int v3), .val (.ref ta), .val (.int ex)] []))
          refine own_go (fun t k => XS.iload X.here hx rfl (hb hby at_144) rfl k) ?_
          show own_End p e below _ (T.setTop (mkF m 146 #[.val (.int i0), .val (.int i1), .val (.int i2), .val (.int i3), .val (.int i4), .val (.int i5), .val (.int z), .val (.int fz), .val (.int v0), .val (.int v1), .val (.int v2), .val (.int v3), .val (.ref ta), .val (.int ex)] [(.int v2)]))
          refine own_go (fun t k => XS.bipush X.here hx rfl (hb hby at_146) k) ?_
          show own_End p e below _ (T.setTop (mkF m 148 #[.val (.int i0), .val (.int i1), .val (.int i2), .val (.int i3), .val (.int i4), .val (.int i5), .val (.int z), .val (.int fz), .val (.int v0), .val (.int v1), .val (.int v2), .val (.int v3), .val (.ref ta), .val (.int ex)] [(.int (10 : Int32)), (.int v2)]))
          by_cases hc148 : v2 = (10 : Int32)
          ·
            refine own_go (fun t k => XS.icmpNo X.here hx rfl (hb hby at_148) rfl (teq hc148).2 k) ?_
            show own_End p e below _ (T.setTop (mkF m 151 #[.val (.int i0), .val (.int i1), .val (.int i2), .val (.int i3), .val (.int i4), .val (.int i5), .val (.int z), .val (.int fz), .val (.int v0), .val (.int v1), .val (.int v2), .val (.int v3), .val (.ref ta), .val (.int ex)] []))
            refine own_go (fun t k => XS.iconst X.here hx rfl (hb hby at_151) k) ?_
            show own_End p e below _ (T.setTop (mkF m 152 #[.val (.int i0), .val (.int i1), .val (.int i2), .val (.int i3), .val (.int i4), .val (.int i5), .val (.int z), .val (.int fz), .val (.int v0), .val (.int v1), .val (.int v2), .val (.int v3), .val (.ref ta), .val (.int ex)] [(.int (2 : Int32))]))
            refine own_go (fun t k => XS.istore X.here hx rfl (hb hby at_152) rfl (l' := #[.val (.int i0), .val (.int i1), .val (.int i2), .val (.int i3), .val (.int i4), .val (.int i5), .val (.int z), .val (.int fz), .val (.int v0), .val (.int v1), .val (.int v2), .val (.int v3), .val (.ref ta), .val (.int (2 : Int32))]) rfl k) ?_
            show own_End p e below _ (T.setTop (mkF m 154 #[.val (.int i0), .val (.int i1), .val (.int i2), .val (.int i3), .val (.int i4), .val (.int i5), .val (.int z), .val (.int fz), .val (.int v0), .val (.int v1), .val (.int v2), .val (.int v3), .val (.ref ta), .val (.int (2 : Int32))] []))
            exact E2 ta (2 : Int32) T _ h X eT Nf Zs Kp szr V_ta (own_hit ((own_gt hz (by decide : (2 : Int32).toInt = (2 : Nat))).mp hc135) (Nat.le_of_not_lt fun q => hc141 ((own_gt hf (by decide : (2 : Int32).toInt = (2 : Nat))).mpr q)) hc148)
          ·
            refine own_go (fun t k => XS.icmpYes X.here hx rfl (pc0 := 148) (pc' := 154) rfl (hb hby at_148) rfl (feq hc148).2 (by decide) (by decide) k) ?_
            show own_End p e below _ (T.setTop (mkF m 154 #[.val (.int i0), .val (.int i1), .val (.int i2), .val (.int i3), .val (.int i4), .val (.int i5), .val (.int z), .val (.int fz), .val (.int v0), .val (.int v1), .val (.int v2), .val (.int v3), .val (.ref ta), .val (.int ex)] []))
            exact E2 ta ex T _ h X eT Nf Zs Kp szr V_ta (own_skip (fun r => hc148 r.2.2) hex)
      ·
        refine own_go (fun t k => XS.icmpYes X.here hx rfl (pc0 := 135) (pc' := 154) rfl (hb hby at_135) rfl (flt hc135).2.2.2 (by decide) (by decide) k) ?_
        show own_End p e below _ (T.setTop (mkF m 154 #[.val (.int i0), .val (.int i1), .val (.int i2), .val (.int i3), .val (.int i4), .val (.int i5), .val (.int z), .val (.int fz), .val (.int v0), .val (.int v1), .val (.int v2), .val (.int v3), .val (.ref ta), .val (.int ex)] []))
        exact E2 ta ex T _ h X eT Nf Zs Kp szr V_ta (own_skip (fun r => hc135 ((own_gt hz (by decide : (2 : Int32).toInt = (2 : Nat))).mpr r.1)) hex)
    have S4 : ∀ (ta : Addr) (g_ta : n0 ≤ ta) (sz_ta : h0.size ≤ ta) (T : State) (locs : List Loc) (h : Heap) (X : Stand p l e room_1 s m #[(.int i0), (.int i1), (.int i2), (.int i3), (.int i4), (.int i5)] below meth c T locs 1 4) (eT : T.heap = h) (Nf : Fr n0 locs) (Zs : n0 ≤ h.size) (Kp : Keep h0 h []) (szr : h0.size ≤ h.size) (V_ta : own_Ar Z h ta .byte z (fun j => .int (own_w v0 v1 v2 v3 4 j))) , own_End p e below (P0 Z i0 i1 i2 i3 i4 i5 h0 n0 s) (T.setTop (mkF m 107 #[.val (.int i0), .val (.int i1), .val (.int i2), .val (.int i3), .val (.int i4), .val (.int i5), .val (.int z), .val (.int fz), .val (.int v0), .val (.int v1), .val (.int v2), .val (.int v3), .val (.ref ta), .unset] [])) := by
      intro ta g_ta sz_ta T locs h X eT Nf Zs Kp szr V_ta 
      refine own_go (fun t k => XS.iconst X.here hx rfl (hb hby at_107) k) ?_
      show own_End p e below _ (T.setTop (mkF m 108 #[.val (.int i0), .val (.int i1), .val (.int i2), .val (.int i3), .val (.int i4), .val (.int i5), .val (.int z), .val (.int fz), .val (.int v0), .val (.int v1), .val (.int v2), .val (.int v3), .val (.ref ta), .unset] [(.int (-1 : Int32))]))
      refine own_go (fun t k => XS.istore X.here hx rfl (hb hby at_108) rfl (l' := #[.val (.int i0), .val (.int i1), .val (.int i2), .val (.int i3), .val (.int i4), .val (.int i5), .val (.int z), .val (.int fz), .val (.int v0), .val (.int v1), .val (.int v2), .val (.int v3), .val (.ref ta), .val (.int (-1 : Int32))]) rfl k) ?_
      show own_End p e below _ (T.setTop (mkF m 110 #[.val (.int i0), .val (.int i1), .val (.int i2), .val (.int i3), .val (.int i4), .val (.int i5), .val (.int z), .val (.int fz), .val (.int v0), .val (.int v1), .val (.int v2), .val (.int v3), .val (.ref ta), .val (.int (-1 : Int32))] []))
      obtain ⟨ex, hx0⟩ : ∃ q, q = (-1 : Int32) := ⟨_, rfl⟩
      rw [← hx0]
      have hex : ex = own_ex (own_w v0 v1 v2 v3 4) N fr 0 4 := hx0
      show own_End p e below _ (T.setTop (mkF m 110 #[.val (.int i0), .val (.int i1), .val (.int i2), .val (.int i3), .val (.int i4), .val (.int i5), .val (.int z), .val (.int fz), .val (.int v0), .val (.int v1), .val (.int v2), .val (.int v3), .val (.ref ta), .val (.int ex)] []))
      refine own_go (fun t k => XS.iload X.here hx rfl (hb hby at_110) rfl k) ?_
      show own_End p e below _ (T.setTop (mkF m 112 #[.val (.int i0), .val (.int i1), .val (.int i2), .val (.int i3), .val (.int i4), .val (.int i5), .val (.int z), .val (.int fz), .val (.int v0), .val (.int v1), .val (.int v2), .val (.int v3), .val (.ref ta), .val (.int ex)] [(.int z)]))
      refine own_go (fun t k => XS.iconst X.here hx rfl (hb hby at_112) k) ?_
      show own_End p e below _ (T.setTop (mkF m 113 #[.val (.int i0), .val (.int i1), .val (.int i2), .val (.int i3), .val (.int i4), .val (.int i5), .val (.int z), .val (.int fz), .val (.int v0), .val (.int v1), .val (.int v2), .val (.int v3), .val (.ref ta), .val (.int ex)] [(.int (3 : Int32)), (.int z)]))
      by_cases hc113 : (3 : Int32) < z
      ·
        refine own_go (fun t k => XS.icmpNo X.here hx rfl (hb hby at_113) rfl (tlt hc113).2.2.2 k) ?_
        show own_End p e below _ (T.setTop (mkF m 116 #[.val (.int i0), .val (.int i1), .val (.int i2), .val (.int i3), .val (.int i4), .val (.int i5), .val (.int z), .val (.int fz), .val (.int v0), .val (.int v1), .val (.int v2), .val (.int v3), .val (.ref ta), .val (.int ex)] []))
        refine own_go (fun t k => XS.iload X.here hx rfl (hb hby at_116) rfl k) ?_
        show own_End p e below _ (T.setTop (mkF m 118 #[.val (.int i0), .val (.int i1), .val (.int i2), .val (.int i3), .val (.int i4), .val (.int i5), .val (.int z), .val (.int fz), .val (.int v0), .val (.int v1), .val (.int v2), .val (.int v3), .val (.ref ta), .val (.int ex)] [(.int fz)]))
        refine own_go (fun t k => XS.iconst X.here hx rfl (hb hby at_118) k) ?_
        show own_End p e below _ (T.setTop (mkF m 119 #[.val (.int i0), .val (.int i1), .val (.int i2), .val (.int i3), .val (.int i4), .val (.int i5), .val (.int z), .val (.int fz), .val (.int v0), .val (.int v1), .val (.int v2), .val (.int v3), .val (.ref ta), .val (.int ex)] [(.int (3 : Int32)), (.int fz)]))
        by_cases hc119 : (3 : Int32) < fz
        ·
          refine own_go (fun t k => XS.icmpYes X.here hx rfl (pc0 := 119) (pc' := 132) rfl (hb hby at_119) rfl (tlt hc119).2.2.1 (by decide) (by decide) k) ?_
          show own_End p e below _ (T.setTop (mkF m 132 #[.val (.int i0), .val (.int i1), .val (.int i2), .val (.int i3), .val (.int i4), .val (.int i5), .val (.int z), .val (.int fz), .val (.int v0), .val (.int v1), .val (.int v2), .val (.int v3), .val (.ref ta), .val (.int ex)] []))
          exact E3 ta ex T _ h X eT Nf Zs Kp szr V_ta (own_skip (fun r => absurd ((own_gt hf (by decide : (3 : Int32).toInt = (3 : Nat))).mp hc119) (Nat.not_lt.mpr r.2.1)) hex)
        ·
          refine own_go (fun t k => XS.icmpNo X.here hx rfl (hb hby at_119) rfl (flt hc119).2.2.1 k) ?_
          show own_End p e below _ (T.setTop (mkF m 122 #[.val (.int i0), .val (.int i1), .val (.int i2), .val (.int i3), .val (.int i4), .val (.int i5), .val (.int z), .val (.int fz), .val (.int v0), .val (.int v1), .val (.int v2), .val (.int v3), .val (.ref ta), .val (.int ex)] []))
          refine own_go (fun t k => XS.iload X.here hx rfl (hb hby at_122) rfl k) ?_
          show own_End p e below _ (T.setTop (mkF m 124 #[.val (.int i0), .val (.int i1), .val (.int i2), .val (.int i3), .val (.int i4), .val (.int i5), .val (.int z), .val (.int fz), .val (.int v0), .val (.int v1), .val (.int v2), .val (.int v3), .val (.ref ta), .val (.int ex)] [(.int v3)]))
          refine own_go (fun t k => XS.bipush X.here hx rfl (hb hby at_124) k) ?_
          show own_End p e below _ (T.setTop (mkF m 126 #[.val (.int i0), .val (.int i1), .val (.int i2), .val (.int i3), .val (.int i4), .val (.int i5), .val (.int z), .val (.int fz), .val (.int v0), .val (.int v1), .val (.int v2), .val (.int v3), .val (.ref ta), .val (.int ex)] [(.int (10 : Int32)), (.int v3)]))
          by_cases hc126 : v3 = (10 : Int32)
          ·
            refine own_go (fun t k => XS.icmpNo X.here hx rfl (hb hby at_126) rfl (teq hc126).2 k) ?_
            show own_End p e below _ (T.setTop (mkF m 129 #[.val (.int i0), .val (.int i1), .val (.int i2), .val (.int i3), .val (.int i4), .val (.int i5), .val (.int z), .val (.int fz), .val (.int v0), .val (.int v1), .val (.int v2), .val (.int v3), .val (.ref ta), .val (.int ex)] []))
            refine own_go (fun t k => XS.iconst X.here hx rfl (hb hby at_129) k) ?_
            show own_End p e below _ (T.setTop (mkF m 130 #[.val (.int i0), .val (.int i1), .val (.int i2), .val (.int i3), .val (.int i4), .val (.int i5), .val (.int z), .val (.int fz), .val (.int v0), .val (.int v1), .val (.int v2), .val (.int v3), .val (.ref ta), .val (.int ex)] [(.int (3 : Int32))]))
            refine own_go (fun t k => XS.istore X.here hx rfl (hb hby at_130) rfl (l' := #[.val (.int i0), .val (.int i1), .val (.int i2), .val (.int i3), .val (.int i4), .val (.int i5), .val (.int z), .val (.int fz), .val (.int v0), .val (.int v1), .val (.int v2), .val (.int v3), .val (.ref ta), .val (.int (3 : Int32))]) rfl k) ?_
            show own_End p e below _ (T.setTop (mkF m 132 #[.val (.int i0), .val (.int i1), .val (.int i2), .val (.int i3), .val (.int i4), .val (.int i5), .val (.int z), .val (.int fz), .val (.int v0), .val (.int v1), .val (.int v2), .val (.int v3), .val (.ref ta), .val (.int (3 : Int32))] []))
            exact E3 ta (3 : Int32) T _ h X eT Nf Zs Kp szr V_ta (own_hit ((own_gt hz (by decide : (3 : Int32).toInt = (3 : Nat))).mp hc113) (Nat.le_of_not_lt fun q => hc119 ((own_gt hf (by decide : (3 : Int32).toInt = (3 : Nat))).mpr q)) hc126)
          ·
            refine own_go (fun t k => XS.icmpYes X.here hx rfl (pc0 := 126) (pc' := 132) rfl (hb hby at_126) rfl (feq hc126).2 (by decide) (by decide) k) ?_
            show own_End p e below _ (T.setTop (mkF m 132 #[.val (.int i0), .val (.int i1), .val (.int i2), .val (.int i3), .val (.int i4), .val (.int i5), .val (.int z), .val (.int fz), .val (.int v0), .val (.int v1), .val (.int v2), .val (.int v3), .val (.ref ta), .val (.int ex)] []))
            exact E3 ta ex T _ h X eT Nf Zs Kp szr V_ta (own_skip (fun r => hc126 r.2.2) hex)
      ·
        refine own_go (fun t k => XS.icmpYes X.here hx rfl (pc0 := 113) (pc' := 132) rfl (hb hby at_113) rfl (flt hc113).2.2.2 (by decide) (by decide) k) ?_
        show own_End p e below _ (T.setTop (mkF m 132 #[.val (.int i0), .val (.int i1), .val (.int i2), .val (.int i3), .val (.int i4), .val (.int i5), .val (.int z), .val (.int fz), .val (.int v0), .val (.int v1), .val (.int v2), .val (.int v3), .val (.ref ta), .val (.int ex)] []))
        exact E3 ta ex T _ h X eT Nf Zs Kp szr V_ta (own_skip (fun r => hc113 ((own_gt hz (by decide : (3 : Int32).toInt = (3 : Nat))).mpr r.1)) hex)
    have S3 : ∀ (ta : Addr) (g_ta : n0 ≤ ta) (sz_ta : h0.size ≤ ta) (T : State) (locs : List Loc) (h : Heap) (X : Stand p l e room_1 s m #[(.int i0), (.int i1), (.int i2), (.int i3), (.int i4), (.int i5)] below meth c T locs 1 4) (eT : T.heap = h) (Nf : Fr n0 locs) (Zs : n0 ≤ h.size) (Kp : Keep h0 h []) (szr : h0.size ≤ h.size) (V_ta : own_Ar Z h ta .byte z (fun j => .int (own_w v0 v1 v2 v3 3 j))) , own_End p e below (P0 Z i0 i1 i2 i3 i4 i5 h0 n0 s) (T.setTop (mkF m 95 #[.val (.int i0), .val (.int i1), .val (.int i2), .val (.int i3), .val (.int i4), .val (.int i5), .val (.int z), .val (.int fz), .val (.int v0), .val (.int v1), .val (.int v2), .val (.int v3), .val (.ref ta), .unset] [])) := by
      intro ta g_ta sz_ta T locs h X eT Nf Zs Kp szr V_ta 
      refine own_go (fun t k => XS.iload X.here hx rfl (hb hby at_95) rfl k) ?_
      show own_End p e below _ (T.setTop (mkF m 97 #[.val (.int i0), .val (.int i1), .val (.int i2), .val (.int i3), .val (.int i4), .val (.int i5), .val (.int z), .val (.int fz), .val (.int v0), .val (.int v1), .val (.int v2), .val (.int v3), .val (.ref ta), .unset] [(.int z)]))
      refine own_go (fun t k => XS.iconst X.here hx rfl (hb hby at_97) k) ?_
      show own_End p e below _ (T.setTop (mkF m 98 #[.val (.int i0), .val (.int i1), .val (.int i2), .val (.int i3), .val (.int i4), .val (.int i5), .val (.int z), .val (.int fz), .val (.int v0), .val (.int v1), .val (.int v2), .val (.int v3), .val (.ref ta), .unset] [(.int (3 : Int32)), (.int z)]))
      by_cases hc98 : (3 : Int32) < z
      ·
        refine own_go (fun t k => XS.icmpNo X.here hx rfl (hb hby at_98) rfl (tlt hc98).2.2.2 k) ?_
        show own_End p e below _ (T.setTop (mkF m 101 #[.val (.int i0), .val (.int i1), .val (.int i2), .val (.int i3), .val (.int i4), .val (.int i5), .val (.int z), .val (.int fz), .val (.int v0), .val (.int v1), .val (.int v2), .val (.int v3), .val (.ref ta), .unset] []))
        refine own_go (fun t k => XS.aload X.here hx rfl (hb hby at_101) rfl rfl k) ?_
        show own_End p e below _ (T.setTop (mkF m 103 #[.val (.int i0), .val (.int i1), .val (.int i2), .val (.int i3), .val (.int i4), .val (.int i5), .val (.int z), .val (.int fz), .val (.int v0), .val (.int v1), .val (.int v2), .val (.int v3), .val (.ref ta), .unset] [(.ref ta)]))
        refine own_go (fun t k => XS.iconst X.here hx rfl (hb hby at_103) k) ?_
        show own_End p e below _ (T.setTop (mkF m 104 #[.val (.int i0), .val (.int i1), .val (.int i2), .val (.int i3), .val (.int i4), .val (.int i5), .val (.int z), .val (.int fz), .val (.int v0), .val (.int v1), .val (.int v2), .val (.int v3), .val (.ref ta), .unset] [(.int (3 : Int32)), (.ref ta)]))
        refine own_go (fun t k => XS.iload X.here hx rfl (hb hby at_104) rfl k) ?_
        show own_End p e below _ (T.setTop (mkF m 106 #[.val (.int i0), .val (.int i1), .val (.int i2), .val (.int i3), .val (.int i4), .val (.int i5), .val (.int z), .val (.int fz), .val (.int v0), .val (.int v1), .val (.int v2), .val (.int v3), .val (.ref ta), .unset] [(.int v3), (.int (3 : Int32)), (.ref ta)]))
        obtain ⟨cl6, Ar6, S6, M6, H6⟩ := id V_ta
        have hin6 := inb_of (j := (3 : Int32)) S6 ⟨by decide, (own_gt hz (by decide : (3 : Int32).toInt = (3 : Nat))).mpr ((own_gt hz (by decide : (3 : Int32).toInt = (3 : Nat))).mp hc98)⟩
        obtain ⟨T7, h7, X7, e7, W7, st7⟩ := stB X hx hZ eT Ar6 (j := (3 : Int32)) hin6 (g := (mkF m 106 #[.val (.int i0), .val (.int i1), .val (.int i2), .val (.int i3), .val (.int i4), .val (.int i5), .val (.int z), .val (.int fz), .val (.int v0), .val (.int v1), .val (.int v2), .val (.int v3), .val (.ref ta), .unset] [(.int v3), (.int (3 : Int32)), (.ref ta)])) rfl rfl (hb hby at_106)
        have V_ta := own_Ar_set Ar6 S6 M6 H6 W7
        have V_ta := V_ta.turn (g := fun j => .int (own_w v0 v1 v2 v3 4 j)) (fun j hj => by rw [hv3]; exact own_put v0 v1 v2 v3 v3 3 j rfl)
        have Kp := Kp.wr W7 (Or.inr sz_ta)
        have Nf := Fr.snoc X7 Nf g_ta
        have Zs := Nat.le_trans Zs (Keep.of_wr W7).1
        have szr := Nat.le_trans szr (Keep.of_wr W7).1
        refine own_go (fun t k => st7 t k) ?_
        show own_End p e below _ (T7.setTop (mkF m 107 #[.val (.int i0), .val (.int i1), .val (.int i2), .val (.int i3), .val (.int i4), .val (.int i5), .val (.int z), .val (.int fz), .val (.int v0), .val (.int v1), .val (.int v2), .val (.int v3), .val (.ref ta), .unset] []))
        exact S4 ta g_ta sz_ta T7 _ h7 X7 e7 Nf Zs Kp szr V_ta 
      ·
        refine own_go (fun t k => XS.icmpYes X.here hx rfl (pc0 := 98) (pc' := 107) rfl (hb hby at_98) rfl (flt hc98).2.2.2 (by decide) (by decide) k) ?_
        show own_End p e below _ (T.setTop (mkF m 107 #[.val (.int i0), .val (.int i1), .val (.int i2), .val (.int i3), .val (.int i4), .val (.int i5), .val (.int z), .val (.int fz), .val (.int v0), .val (.int v1), .val (.int v2), .val (.int v3), .val (.ref ta), .unset] []))
        have V_ta := V_ta.turn (g := fun j => .int (own_w v0 v1 v2 v3 4 j)) (fun j hj => by rw [own_clamp hz] at hj; rw [own_same v0 v1 v2 v3 3 j (by have : ¬ (3 < N) := fun q => hc98 ((own_gt hz (by decide : (3 : Int32).toInt = (3 : Nat))).mpr q); omega)])
        exact S4 ta g_ta sz_ta T _ h X eT Nf Zs Kp szr V_ta 
    have S2 : ∀ (ta : Addr) (g_ta : n0 ≤ ta) (sz_ta : h0.size ≤ ta) (T : State) (locs : List Loc) (h : Heap) (X : Stand p l e room_1 s m #[(.int i0), (.int i1), (.int i2), (.int i3), (.int i4), (.int i5)] below meth c T locs 1 4) (eT : T.heap = h) (Nf : Fr n0 locs) (Zs : n0 ≤ h.size) (Kp : Keep h0 h []) (szr : h0.size ≤ h.size) (V_ta : own_Ar Z h ta .byte z (fun j => .int (own_w v0 v1 v2 v3 2 j))) , own_End p e below (P0 Z i0 i1 i2 i3 i4 i5 h0 n0 s) (T.setTop (mkF m 83 #[.val (.int i0), .val (.int i1), .val (.int i2), .val (.int i3), .val (.int i4), .val (.int i5), .val (.int z), .val (.int fz), .val (.int v0), .val (.int v1), .val (.int v2), .val (.int v3), .val (.ref ta), .unset] [])) := by
      intro ta g_ta sz_ta T locs h X eT Nf Zs Kp szr V_ta 
      refine own_go (fun t k => XS.iload X.here hx rfl (hb hby at_83) rfl k) ?_
      show own_End p e below _ (T.setTop (mkF m 85 #[.val (.int i0), .val (.int i1), .val (.int i2), .val (.int i3), .val (.int i4), .val (.int i5), .val (.int z), .val (.int fz), .val (.int v0), .val (.int v1), .val (.int v2), .val (.int v3), .val (.ref ta), .unset] [(.int z)]))
      refine own_go (fun t k => XS.iconst X.here hx rfl (hb hby at_85) k) ?_
      show own_End p e below _ (T.setTop (mkF m 86 #[.val (.int i0), .val (.int i1), .val (.int i2), .val (.int i3), .val (.int i4), .val (.int i5), .val (.int z), .val (.int fz), .val (.int v0), .val (.int v1), .val (.int v2), .val (.int v3), .val (.ref ta), .unset] [(.int (2 : Int32)), (.int z)]))
      by_cases hc86 : (2 : Int32) < z
      ·
        refine own_go (fun t k => XS.icmpNo X.here hx rfl (hb hby at_86) rfl (tlt hc86).2.2.2 k) ?_
        show own_End p e below _ (T.setTop (mkF m 89 #[.val (.int i0), .val (.int i1), .val (.int i2), .val (.int i3), .val (.int i4), .val (.int i5), .val (.int z), .val (.int fz), .val (.int v0), .val (.int v1), .val (.int v2), .val (.int v3), .val (.ref ta), .unset] []))
        refine own_go (fun t k => XS.aload X.here hx rfl (hb hby at_89) rfl rfl k) ?_
        show own_End p e below _ (T.setTop (mkF m 91 #[.val (.int i0), .val (.int i1), .val (.int i2), .val (.int i3), .val (.int i4), .val (.int i5), .val (.int z), .val (.int fz), .val (.int v0), .val (.int v1), .val (.int v2), .val (.int v3), .val (.ref ta), .unset] [(.ref ta)]))
        refine own_go (fun t k => XS.iconst X.here hx rfl (hb hby at_91) k) ?_
        show own_End p e below _ (T.setTop (mkF m 92 #[.val (.int i0), .val (.int i1), .val (.int i2), .val (.int i3), .val (.int i4), .val (.int i5), .val (.int z), .val (.int fz), .val (.int v0), .val (.int v1), .val (.int v2), .val (.int v3), .val (.ref ta), .unset] [(.int (2 : Int32)), (.ref ta)]))
        refine own_go (fun t k => XS.iload X.here hx rfl (hb hby at_92) rfl k) ?_
        show own_End p e below _ (T.setTop (mkF m 94 #[.val (.int i0), .val (.int i1), .val (.int i2), .val (.int i3), .val (.int i4), .val (.int i5), .val (.int z), .val (.int fz), .val (.int v0), .val (.int v1), .val (.int v2), .val (.int v3), .val (.ref ta), .unset] [(.int v2), (.int (2 : Int32)), (.ref ta)]))
        obtain ⟨cl8, Ar8, S8, M8, H8⟩ := id V_ta
        have hin8 := inb_of (j := (2 : Int32)) S8 ⟨by decide, (own_gt hz (by decide : (2 : Int32).toInt = (2 : Nat))).mpr ((own_gt hz (by decide : (2 : Int32).toInt = (2 : Nat))).mp hc86)⟩
        obtain ⟨T9, h9, X9, e9, W9, st9⟩ := stB X hx hZ eT Ar8 (j := (2 : Int32)) hin8 (g := (mkF m 94 #[.val (.int i0), .val (.int i1), .val (.int i2), .val (.int i3), .val (.int i4), .val (.int i5), .val (.int z), .val (.int fz), .val (.int v0), .val (.int v1), .val (.int v2), .val (.int v3), .val (.ref ta), .unset] [(.int v2), (.int (2 : Int32)), (.ref ta)])) rfl rfl (hb hby at_94)
        have V_ta := own_Ar_set Ar8 S8 M8 H8 W9
        have V_ta := V_ta.turn (g := fun j => .int (own_w v0 v1 v2 v3 3 j)) (fun j hj => by rw [hv2]; exact own_put v0 v1 v2 v3 v2 2 j rfl)
        have Kp := Kp.wr W9 (Or.inr sz_ta)
        have Nf := Fr.snoc X9 Nf g_ta
        have Zs := Nat.le_trans Zs (Keep.of_wr W9).1
        have szr := Nat.le_trans szr (Keep.of_wr W9).1
        refine own_go (fun t k => st9 t k) ?_
        show own_End p e below _ (T9.setTop (mkF m 95 #[.val (.int i0), .val (.int i1), .val (.int i2), .val (.int i3), .val (.int i4), .val (.int i5), .val (.int z), .val (.int fz), .val (.int v0), .val (.int v1), .val (.int v2), .val (.int v3), .val (.ref ta), .unset] []))
        exact S3 ta g_ta sz_ta T9 _ h9 X9 e9 Nf Zs Kp szr V_ta 
      ·
        refine own_go (fun t k => XS.icmpYes X.here hx rfl (pc0 := 86) (pc' := 95) rfl (hb hby at_86) rfl (flt hc86).2.2.2 (by decide) (by decide) k) ?_
        show own_End p e below _ (T.setTop (mkF m 95 #[.val (.int i0), .val (.int i1), .val (.int i2), .val (.int i3), .val (.int i4), .val (.int i5), .val (.int z), .val (.int fz), .val (.int v0), .val (.int v1), .val (.int v2), .val (.int v3), .val (.ref ta), .unset] []))
        have V_ta := V_ta.turn (g := fun j => .int (own_w v0 v1 v2 v3 3 j)) (fun j hj => by rw [own_clamp hz] at hj; rw [own_same v0 v1 v2 v3 2 j (by have : ¬ (2 < N) := fun q => hc86 ((own_gt hz (by decide : (2 : Int32).toInt = (2 : Nat))).mpr q); omega)])
        exact S3 ta g_ta sz_ta T _ h X eT Nf Zs Kp szr V_ta 
    have S1 : ∀ (ta : Addr) (g_ta : n0 ≤ ta) (sz_ta : h0.size ≤ ta) (T : State) (locs : List Loc) (h : Heap) (X : Stand p l e room_1 s m #[(.int i0), (.int i1), (.int i2), (.int i3), (.int i4), (.int i5)] below meth c T locs 1 4) (eT : T.heap = h) (Nf : Fr n0 locs) (Zs : n0 ≤ h.size) (Kp : Keep h0 h []) (szr : h0.size ≤ h.size) (V_ta : own_Ar Z h ta .byte z (fun j => .int (own_w v0 v1 v2 v3 1 j))) , own_End p e below (P0 Z i0 i1 i2 i3 i4 i5 h0 n0 s) (T.setTop (mkF m 71 #[.val (.int i0), .val (.int i1), .val (.int i2), .val (.int i3), .val (.int i4), .val (.int i5), .val (.int z), .val (.int fz), .val (.int v0), .val (.int v1), .val (.int v2), .val (.int v3), .val (.ref ta), .unset] [])) := by
      intro ta g_ta sz_ta T locs h X eT Nf Zs Kp szr V_ta 
      refine own_go (fun t k => XS.iload X.here hx rfl (hb hby at_71) rfl k) ?_
      show own_End p e below _ (T.setTop (mkF m 73 #[.val (.int i0), .val (.int i1), .val (.int i2), .val (.int i3), .val (.int i4), .val (.int i5), .val (.int z), .val (.int fz), .val (.int v0), .val (.int v1), .val (.int v2), .val (.int v3), .val (.ref ta), .unset] [(.int z)]))
      refine own_go (fun t k => XS.iconst X.here hx rfl (hb hby at_73) k) ?_
      show own_End p e below _ (T.setTop (mkF m 74 #[.val (.int i0), .val (.int i1), .val (.int i2), .val (.int i3), .val (.int i4), .val (.int i5), .val (.int z), .val (.int fz), .val (.int v0), .val (.int v1), .val (.int v2), .val (.int v3), .val (.ref ta), .unset] [(.int (1 : Int32)), (.int z)]))
      by_cases hc74 : (1 : Int32) < z
      ·
        refine own_go (fun t k => XS.icmpNo X.here hx rfl (hb hby at_74) rfl (tlt hc74).2.2.2 k) ?_
        show own_End p e below _ (T.setTop (mkF m 77 #[.val (.int i0), .val (.int i1), .val (.int i2), .val (.int i3), .val (.int i4), .val (.int i5), .val (.int z), .val (.int fz), .val (.int v0), .val (.int v1), .val (.int v2), .val (.int v3), .val (.ref ta), .unset] []))
        refine own_go (fun t k => XS.aload X.here hx rfl (hb hby at_77) rfl rfl k) ?_
        show own_End p e below _ (T.setTop (mkF m 79 #[.val (.int i0), .val (.int i1), .val (.int i2), .val (.int i3), .val (.int i4), .val (.int i5), .val (.int z), .val (.int fz), .val (.int v0), .val (.int v1), .val (.int v2), .val (.int v3), .val (.ref ta), .unset] [(.ref ta)]))
        refine own_go (fun t k => XS.iconst X.here hx rfl (hb hby at_79) k) ?_
        show own_End p e below _ (T.setTop (mkF m 80 #[.val (.int i0), .val (.int i1), .val (.int i2), .val (.int i3), .val (.int i4), .val (.int i5), .val (.int z), .val (.int fz), .val (.int v0), .val (.int v1), .val (.int v2), .val (.int v3), .val (.ref ta), .unset] [(.int (1 : Int32)), (.ref ta)]))
        refine own_go (fun t k => XS.iload X.here hx rfl (hb hby at_80) rfl k) ?_
        show own_End p e below _ (T.setTop (mkF m 82 #[.val (.int i0), .val (.int i1), .val (.int i2), .val (.int i3), .val (.int i4), .val (.int i5), .val (.int z), .val (.int fz), .val (.int v0), .val (.int v1), .val (.int v2), .val (.int v3), .val (.ref ta), .unset] [(.int v1), (.int (1 : Int32)), (.ref ta)]))
        obtain ⟨cl10, Ar10, S10, M10, H10⟩ := id V_ta
        have hin10 := inb_of (j := (1 : Int32)) S10 ⟨by decide, (own_gt hz (by decide : (1 : Int32).toInt = (1 : Nat))).mpr ((own_gt hz (by decide : (1 : Int32).toInt = (1 : Nat))).mp hc74)⟩
        obtain ⟨T11, h11, X11, e11, W11, st11⟩ := stB X hx hZ eT Ar10 (j := (1 : Int32)) hin10 (g := (mkF m 82 #[.val (.int i0), .val (.int i1), .val (.int i2), .val (.int i3), .val (.int i4), .val (.int i5), .val (.int z), .val (.int fz), .val (.int v0), .val (.int v1), .val (.int v2), .val (.int v3), .val (.ref ta), .unset] [(.int v1), (.int (1 : Int32)), (.ref ta)])) rfl rfl (hb hby at_82)
        have V_ta := own_Ar_set Ar10 S10 M10 H10 W11
        have V_ta := V_ta.turn (g := fun j => .int (own_w v0 v1 v2 v3 2 j)) (fun j hj => by rw [hv1]; exact own_put v0 v1 v2 v3 v1 1 j rfl)
        have Kp := Kp.wr W11 (Or.inr sz_ta)
        have Nf := Fr.snoc X11 Nf g_ta
        have Zs := Nat.le_trans Zs (Keep.of_wr W11).1
        have szr := Nat.le_trans szr (Keep.of_wr W11).1
        refine own_go (fun t k => st11 t k) ?_
        show own_End p e below _ (T11.setTop (mkF m 83 #[.val (.int i0), .val (.int i1), .val (.int i2), .val (.int i3), .val (.int i4), .val (.int i5), .val (.int z), .val (.int fz), .val (.int v0), .val (.int v1), .val (.int v2), .val (.int v3), .val (.ref ta), .unset] []))
        exact S2 ta g_ta sz_ta T11 _ h11 X11 e11 Nf Zs Kp szr V_ta 
      ·
        refine own_go (fun t k => XS.icmpYes X.here hx rfl (pc0 := 74) (pc' := 83) rfl (hb hby at_74) rfl (flt hc74).2.2.2 (by decide) (by decide) k) ?_
        show own_End p e below _ (T.setTop (mkF m 83 #[.val (.int i0), .val (.int i1), .val (.int i2), .val (.int i3), .val (.int i4), .val (.int i5), .val (.int z), .val (.int fz), .val (.int v0), .val (.int v1), .val (.int v2), .val (.int v3), .val (.ref ta), .unset] []))
        have V_ta := V_ta.turn (g := fun j => .int (own_w v0 v1 v2 v3 2 j)) (fun j hj => by rw [own_clamp hz] at hj; rw [own_same v0 v1 v2 v3 1 j (by have : ¬ (1 < N) := fun q => hc74 ((own_gt hz (by decide : (1 : Int32).toInt = (1 : Nat))).mpr q); omega)])
        exact S2 ta g_ta sz_ta T _ h X eT Nf Zs Kp szr V_ta 
    refine own_go (fun t k => XS.iload X4.here hx rfl (hb hby at_54) rfl k) ?_
    show own_End p e below _ (T4.setTop (mkF m 56 #[.val (.int i0), .val (.int i1), .val (.int i2), .val (.int i3), .val (.int i4), .val (.int i5), .val (.int z), .val (.int fz), .val (.int v0), .val (.int v1), .val (.int v2), .val (.int v3), .unset, .unset] [(.int z)]))
    obtain ⟨T12, h12, k12, X12, e12, E12, A12, st12⟩ := newP X4 hx hZ (hw _ (List.mem_of_getElem? (i := 5) rfl)) e4 (g := (mkF m 56 #[.val (.int i0), .val (.int i1), .val (.int i2), .val (.int i3), .val (.int i4), .val (.int i5), .val (.int z), .val (.int fz), .val (.int v0), .val (.int v1), .val (.int v2), .val (.int v3), .unset, .unset] [(.int z)])) rfl (hb hby at_56) rfl (own_nn hz) (cap := 4) (by rw [own_clamp hz]; exact hN) (by decide) (by decide) (by decide)
    obtain ⟨ta, g12⟩ : ∃ z, z = h.size := ⟨_, rfl⟩
    rw [← g12] at A12 st12
    have g_ta : n0 ≤ ta := Nat.le_trans Zs (Nat.le_of_eq g12.symm)
    have sz_ta : h0.size ≤ ta := Nat.le_trans szr (Nat.le_of_eq g12.symm)
    have Kp := Kp.ext E12
    have Zs := Nat.le_trans Zs E12.1
    have szr := Nat.le_trans szr E12.1
    have V_ta : own_Ar Z h12 ta .byte z (fun _ => (.int (0 : Int32))) := own_Ar.new A12 (own_nn hz)
    refine own_go (fun t k => st12 t k) ?_
    show own_End p e below _ (T12.setTop (mkF m 58 #[.val (.int i0), .val (.int i1), .val (.int i2), .val (.int i3), .val (.int i4), .val (.int i5), .val (.int z), .val (.int fz), .val (.int v0), .val (.int v1), .val (.int v2), .val (.int v3), .unset, .unset] [(.ref ta)]))
    have V_ta : own_Ar Z h12 ta .byte z (fun j => .int (own_w v0 v1 v2 v3 0 j)) := V_ta.turn (fun j hj => by simp [own_w])
    refine own_go (fun t k => XS.astore X12.here hx rfl (hb hby at_58) rfl rfl (l' := #[.val (.int i0), .val (.int i1), .val (.int i2), .val (.int i3), .val (.int i4), .val (.int i5), .val (.int z), .val (.int fz), .val (.int v0), .val (.int v1), .val (.int v2), .val (.int v3), .val (.ref ta), .unset]) rfl k) ?_
    show own_End p e below _ (T12.setTop (mkF m 60 #[.val (.int i0), .val (.int i1), .val (.int i2), .val (.int i3), .val (.int i4), .val (.int i5), .val (.int z), .val (.int fz), .val (.int v0), .val (.int v1), .val (.int v2), .val (.int v3), .val (.ref ta), .unset] []))
    refine own_go (fun t k => XS.iload X12.here hx rfl (hb hby at_60) rfl k) ?_
    show own_End p e below _ (T12.setTop (mkF m 62 #[.val (.int i0), .val (.int i1), .val (.int i2), .val (.int i3), .val (.int i4), .val (.int i5), .val (.int z), .val (.int fz), .val (.int v0), .val (.int v1), .val (.int v2), .val (.int v3), .val (.ref ta), .unset] [(.int z)]))
    by_cases hc62 : (0 : Int32) < z
    ·
      refine own_go (fun t k => XS.ifNo X12.here hx rfl (hb hby at_62) rfl ((if0 _ _).trans (tlt hc62).2.2.2) k) ?_
      show own_End p e below _ (T12.setTop (mkF m 65 #[.val (.int i0), .val (.int i1), .val (.int i2), .val (.int i3), .val (.int i4), .val (.int i5), .val (.int z), .val (.int fz), .val (.int v0), .val (.int v1), .val (.int v2), .val (.int v3), .val (.ref ta), .unset] []))
      refine own_go (fun t k => XS.aload X12.here hx rfl (hb hby at_65) rfl rfl k) ?_
      show own_End p e below _ (T12.setTop (mkF m 67 #[.val (.int i0), .val (.int i1), .val (.int i2), .val (.int i3), .val (.int i4), .val (.int i5), .val (.int z), .val (.int fz), .val (.int v0), .val (.int v1), .val (.int v2), .val (.int v3), .val (.ref ta), .unset] [(.ref ta)]))
      refine own_go (fun t k => XS.iconst X12.here hx rfl (hb hby at_67) k) ?_
      show own_End p e below _ (T12.setTop (mkF m 68 #[.val (.int i0), .val (.int i1), .val (.int i2), .val (.int i3), .val (.int i4), .val (.int i5), .val (.int z), .val (.int fz), .val (.int v0), .val (.int v1), .val (.int v2), .val (.int v3), .val (.ref ta), .unset] [(.int (0 : Int32)), (.ref ta)]))
      refine own_go (fun t k => XS.iload X12.here hx rfl (hb hby at_68) rfl k) ?_
      show own_End p e below _ (T12.setTop (mkF m 70 #[.val (.int i0), .val (.int i1), .val (.int i2), .val (.int i3), .val (.int i4), .val (.int i5), .val (.int z), .val (.int fz), .val (.int v0), .val (.int v1), .val (.int v2), .val (.int v3), .val (.ref ta), .unset] [(.int v0), (.int (0 : Int32)), (.ref ta)]))
      obtain ⟨cl13, Ar13, S13, M13, H13⟩ := id V_ta
      have hin13 := inb_of (j := (0 : Int32)) S13 ⟨by decide, (own_gt hz (by decide : (0 : Int32).toInt = (0 : Nat))).mpr ((own_gt hz (by decide : (0 : Int32).toInt = (0 : Nat))).mp hc62)⟩
      obtain ⟨T14, h14, X14, e14, W14, st14⟩ := stB X12 hx hZ e12 Ar13 (j := (0 : Int32)) hin13 (g := (mkF m 70 #[.val (.int i0), .val (.int i1), .val (.int i2), .val (.int i3), .val (.int i4), .val (.int i5), .val (.int z), .val (.int fz), .val (.int v0), .val (.int v1), .val (.int v2), .val (.int v3), .val (.ref ta), .unset] [(.int v0), (.int (0 : Int32)), (.ref ta)])) rfl rfl (hb hby at_70)
      have V_ta := own_Ar_set Ar13 S13 M13 H13 W14
      have V_ta := V_ta.turn (g := fun j => .int (own_w v0 v1 v2 v3 1 j)) (fun j hj => by rw [hv0]; exact own_put v0 v1 v2 v3 v0 0 j rfl)
      have Kp := Kp.wr W14 (Or.inr sz_ta)
      have Nf := Fr.snoc X14 Nf g_ta
      have Zs := Nat.le_trans Zs (Keep.of_wr W14).1
      have szr := Nat.le_trans szr (Keep.of_wr W14).1
      refine own_go (fun t k => st14 t k) ?_
      show own_End p e below _ (T14.setTop (mkF m 71 #[.val (.int i0), .val (.int i1), .val (.int i2), .val (.int i3), .val (.int i4), .val (.int i5), .val (.int z), .val (.int fz), .val (.int v0), .val (.int v1), .val (.int v2), .val (.int v3), .val (.ref ta), .unset] []))
      exact S1 ta g_ta sz_ta T14 _ h14 X14 e14 Nf Zs Kp szr V_ta 
    ·
      refine own_go (fun t k => XS.ifYes X12.here hx rfl (pc0 := 62) (pc' := 71) rfl (hb hby at_62) rfl ((if0 _ _).trans (flt hc62).2.2.2) (by decide) (by decide) k) ?_
      show own_End p e below _ (T12.setTop (mkF m 71 #[.val (.int i0), .val (.int i1), .val (.int i2), .val (.int i3), .val (.int i4), .val (.int i5), .val (.int z), .val (.int fz), .val (.int v0), .val (.int v1), .val (.int v2), .val (.int v3), .val (.ref ta), .unset] []))
      have V_ta := V_ta.turn (g := fun j => .int (own_w v0 v1 v2 v3 1 j)) (fun j hj => by rw [own_clamp hz] at hj; rw [own_same v0 v1 v2 v3 0 j (by have : ¬ (0 < N) := fun q => hc62 ((own_gt hz (by decide : (0 : Int32).toInt = (0 : Nat))).mpr q); omega)])
      exact S1 ta g_ta sz_ta T12 _ h12 X12 e12 Nf Zs Kp szr V_ta 
  refine own_go (fun t k => XS.iloadN X0.here hx rfl (hb hby at_8) rfl k) ?_
  show own_End p e below _ (s₁.setTop (mkF m 9 #[.val (.int i0), .val (.int i1), .val (.int i2), .val (.int i3), .val (.int i4), .val (.int i5), .val (.int z), .unset, .unset, .unset, .unset, .unset, .unset, .unset] [(.int i1)]))
  refine own_go (fun t k => XS.iconst X0.here hx rfl (hb hby at_9) k) ?_
  show own_End p e below _ (s₁.setTop (mkF m 10 #[.val (.int i0), .val (.int i1), .val (.int i2), .val (.int i3), .val (.int i4), .val (.int i5), .val (.int z), .unset, .unset, .unset, .unset, .unset, .unset, .unset] [(.int (1 : Int32)), (.int i1)]))
  refine own_go (fun t k => XS.iand X0.here hx rfl (hb hby at_10) rfl k) ?_
  show own_End p e below _ (s₁.setTop (mkF m 11 #[.val (.int i0), .val (.int i1), .val (.int i2), .val (.int i3), .val (.int i4), .val (.int i5), .val (.int z), .unset, .unset, .unset, .unset, .unset, .unset, .unset] [(.int (i1 &&& (1 : Int32)))]))
  by_cases hc11 : (i1 &&& (1 : Int32)) = (0 : Int32)
  ·
    refine own_go (fun t k => XS.ifNo X0.here hx rfl (hb hby at_11) rfl ((if0 _ _).trans (teq hc11).2) k) ?_
    show own_End p e below _ (s₁.setTop (mkF m 14 #[.val (.int i0), .val (.int i1), .val (.int i2), .val (.int i3), .val (.int i4), .val (.int i5), .val (.int z), .unset, .unset, .unset, .unset, .unset, .unset, .unset] []))
    refine own_go (fun t k => XS.iloadN X0.here hx rfl (hb hby at_14) rfl k) ?_
    show own_End p e below _ (s₁.setTop (mkF m 15 #[.val (.int i0), .val (.int i1), .val (.int i2), .val (.int i3), .val (.int i4), .val (.int i5), .val (.int z), .unset, .unset, .unset, .unset, .unset, .unset, .unset] [(.int i1)]))
    refine own_go (fun t k => XS.iconst X0.here hx rfl (hb hby at_15) k) ?_
    show own_End p e below _ (s₁.setTop (mkF m 16 #[.val (.int i0), .val (.int i1), .val (.int i2), .val (.int i3), .val (.int i4), .val (.int i5), .val (.int z), .unset, .unset, .unset, .unset, .unset, .unset, .unset] [(.int (1 : Int32)), (.int i1)]))
    refine own_go (fun t k => XS.iushr X0.here hx rfl (hb hby at_16) rfl k) ?_
    show own_End p e below _ (s₁.setTop (mkF m 17 #[.val (.int i0), .val (.int i1), .val (.int i2), .val (.int i3), .val (.int i4), .val (.int i5), .val (.int z), .unset, .unset, .unset, .unset, .unset, .unset, .unset] [(.int ((i1.toUInt32 >>> ((1 : Int32) &&& 31).toUInt32).toInt32))]))
    refine own_go (fun t k => XS.bipush X0.here hx rfl (hb hby at_17) k) ?_
    show own_End p e below _ (s₁.setTop (mkF m 19 #[.val (.int i0), .val (.int i1), .val (.int i2), .val (.int i3), .val (.int i4), .val (.int i5), .val (.int z), .unset, .unset, .unset, .unset, .unset, .unset, .unset] [(.int (7 : Int32)), (.int ((i1.toUInt32 >>> ((1 : Int32) &&& 31).toUInt32).toInt32))]))
    refine own_go (fun t k => XS.iand X0.here hx rfl (hb hby at_19) rfl k) ?_
    show own_End p e below _ (s₁.setTop (mkF m 20 #[.val (.int i0), .val (.int i1), .val (.int i2), .val (.int i3), .val (.int i4), .val (.int i5), .val (.int z), .unset, .unset, .unset, .unset, .unset, .unset, .unset] [(.int (((i1.toUInt32 >>> ((1 : Int32) &&& 31).toUInt32).toInt32) &&& (7 : Int32)))]))
    refine own_go (fun t k => XS.goto X0.here hx rfl (pc0 := 20) (pc' := 26) rfl (hb hby at_20) (by decide) (by decide) k) ?_
    show own_End p e below _ (s₁.setTop (mkF m 26 #[.val (.int i0), .val (.int i1), .val (.int i2), .val (.int i3), .val (.int i4), .val (.int i5), .val (.int z), .unset, .unset, .unset, .unset, .unset, .unset, .unset] [(.int (((i1.toUInt32 >>> ((1 : Int32) &&& 31).toUInt32).toInt32) &&& (7 : Int32)))]))
    obtain ⟨fr, hf⟩ := own_msk ((i1.toUInt32 >>> ((1 : Int32) &&& 31).toUInt32).toInt32)
    exact J26 (((i1.toUInt32 >>> ((1 : Int32) &&& 31).toUInt32).toInt32) &&& (7 : Int32)) fr s₁ _ h0 X0 e0 Nf Zs Kp szr  hf
  ·
    refine own_go (fun t k => XS.ifYes X0.here hx rfl (pc0 := 11) (pc' := 23) rfl (hb hby at_11) rfl ((if0 _ _).trans (feq hc11).2) (by decide) (by decide) k) ?_
    show own_End p e below _ (s₁.setTop (mkF m 23 #[.val (.int i0), .val (.int i1), .val (.int i2), .val (.int i3), .val (.int i4), .val (.int i5), .val (.int z), .unset, .unset, .unset, .unset, .unset, .unset, .unset] []))
    refine own_go (fun t k => XS.iloadN X0.here hx rfl (hb hby at_23) rfl k) ?_
    show own_End p e below _ (s₁.setTop (mkF m 24 #[.val (.int i0), .val (.int i1), .val (.int i2), .val (.int i3), .val (.int i4), .val (.int i5), .val (.int z), .unset, .unset, .unset, .unset, .unset, .unset, .unset] [(.int i1)]))
    refine own_go (fun t k => XS.iconst X0.here hx rfl (hb hby at_24) k) ?_
    show own_End p e below _ (s₁.setTop (mkF m 25 #[.val (.int i0), .val (.int i1), .val (.int i2), .val (.int i3), .val (.int i4), .val (.int i5), .val (.int z), .unset, .unset, .unset, .unset, .unset, .unset, .unset] [(.int (1 : Int32)), (.int i1)]))
    refine own_go (fun t k => XS.iushr X0.here hx rfl (hb hby at_25) rfl k) ?_
    show own_End p e below _ (s₁.setTop (mkF m 26 #[.val (.int i0), .val (.int i1), .val (.int i2), .val (.int i3), .val (.int i4), .val (.int i5), .val (.int z), .unset, .unset, .unset, .unset, .unset, .unset, .unset] [(.int ((i1.toUInt32 >>> ((1 : Int32) &&& 31).toUInt32).toInt32))]))
    obtain ⟨fr, hf⟩ := own_shr i1
    exact J26 ((i1.toUInt32 >>> ((1 : Int32) &&& 31).toUInt32).toInt32) fr s₁ _ h0 X0 e0 Nf Zs Kp szr  hf
set_option maxRecDepth 65536 in
set_option maxHeartbeats 40000000 in
theorem comes_1 {Post : Tables → Env → Array Value → State → Outcome → State → Prop} (hpost : ∀ tb e args s v u, (limb_1_1.after args s (.returned v) u = true ∧ limb_1_2.after args s (.returned v) u = true ∧ True) → FrameEnd s (.returned v) u (Jvm.fieldLocs frame_1_writes args s ++ Jvm.arrayLocs frame_1_arrays args s ++ Jvm.staticLocs frame_1_statics s) 16 128 → Post tb e args s (.returned v) u) :
    ArmFor flags0 classFile x code maxLocals ret World_1 tables_1 room_1 Calls_1 rest_1 Pre_1 Post := by
  intro l hfl _ _ p e ha hc hk s m args below hf hA hF happ hP
  obtain ⟨hcalls, hrest, hpre⟩ := hP
  obtain ⟨-, -, -, hnamed, -, -, -, hat⟩ := (Spec.applies_iff hf).mp happ
  obtain ⟨hg, hn⟩ := and_e (Cond.before_iff.mp (show (Jvm.Cond.and given_1 narrow_1).before args s = true from hpre))
  obtain ⟨h1, g0⟩ := and_e hg
  obtain ⟨k0, g1⟩ := and_e g0
  obtain ⟨k1, g2⟩ := and_e g1
  obtain ⟨k2, g3⟩ := and_e g2
  obtain ⟨k3, g4⟩ := and_e g3
  obtain ⟨k4, g5⟩ := and_e g4
  obtain ⟨w0, w1, w2, w3, w4, w5, rfl⟩ : ∃ w0 w1 w2 w3 w4 w5 : Value, args = #[w0, w1, w2, w3, w4, w5] := by
    have hs : args.size = 6 := by simpa [Cond.value, given_1] using h1
    obtain ⟨L⟩ := args
    match L, hs with
    | [w0, w1, w2, w3, w4, w5], _ => exact ⟨w0, w1, w2, w3, w4, w5, rfl⟩
  have hw := fun d (hd : d ∈ tables_1) => atoms_spec (ws := Jvm.Cond.code x code maxLocals ret :: tables_1) hat d (List.mem_cons_of_mem _ hd)
  have hfit : Fit s := fun {y c} hc i hi => by
    obtain ⟨ha, rfl⟩ := Array.getElem?_eq_some_iff.mp hc
    have q := List.all_eq_true.mp ((Array.all_eq_true_iff_forall_mem.mp hF) _ (Array.getElem_mem ha)) i (List.mem_range.mpr hi)
    simpa [Array.getElem?_eq_getElem hi] using q
  obtain ⟨v0, e0⟩ := is_v k0
  obtain rfl : w0 = (.int v0) := Option.some.inj e0
  obtain ⟨v1, e1⟩ := is_v k1
  obtain rfl : w1 = (.int v1) := Option.some.inj e1
  obtain ⟨v2, e2⟩ := is_v k2
  obtain rfl : w2 = (.int v2) := Option.some.inj e2
  obtain ⟨v3, e3⟩ := is_v k3
  obtain rfl : w3 = (.int v3) := Option.some.inj e3
  obtain ⟨v4, e4⟩ := is_v k4
  obtain rfl : w4 = (.int v4) := Option.some.inj e4
  obtain ⟨v5, e5⟩ := is_v g5
  obtain rfl : w5 = (.int v5) := Option.some.inj e5
  obtain ⟨n, o, h1, h2, h3, _, L, rfl, ⟨rfl, N⟩, hq⟩ := rm0 l s _ hw tables_1 v0 v1 v2 v3 v4 v5 s.heap s.heap.size (Nat.le_refl _) p e ha hc hk s m _ below hf ((Spec.applies_iff_loose hf).mp happ).1 ⟨rfl, State.Warmed39.refl s, rfl⟩ trivial
  refine ⟨n, _, h1, h2, h3, hpost _ _ _ _ _ _ ⟨Cond.after_iff.mpr rfl, Cond.after_iff.mpr (eq_i res_at (Term.int_eval (1)) rfl), trivial⟩ ⟨hq.1, hq.2.1, (hq.2.2.sift fun y hy => Or.inr (N y hy)).mono (by decide) (by decide)⟩⟩
theorem main_1_1 : Claimed_1_1 := comes_1 fun _ _ _ _ _ _ h hF => ⟨h.1, hF⟩
theorem main_1_2 : Claimed_1_2 := comes_1 fun _ _ _ _ _ _ h hF => ⟨h.2.1, hF⟩
end Jvm.Pilot.@@N@@
namespace Jvm.Pilot.@@N@@
open Jvm Jvm.ClassFile Sem Op Lib Jvm.Free Jvm.Stand Jvm.Pilot.@@N@@.Jvm.D
/-! MADE BY PROGRAM (witnessworld.py) out of the Statement's table words and the real class files: 9 classes; the members and pool entries that the words name. The judged class is class 1, her method 1. -/
namespace start1
open Jvm.ClassFile
def u (s : String) : CpInfo := .utf8 (stringToUtf16 s)
/-- a pool by its gaps: so many unusable entries, then the entry; so many at the end -/
def gap : Nat → List CpInfo → List CpInfo
  | 0, r => r
  | n + 1, r => .unusable :: gap n r
def poolList (es : List (Nat × CpInfo)) (last : Nat) : List CpInfo := es.foldr (fun e r => gap e.1 (e.2 :: r)) (gap last [])
def pool (es : List (Nat × CpInfo)) (last : Nat) : Array CpInfo := ⟨poolList es last⟩
def fileOf (pool : Array CpInfo) (this : Nat) (attrs : Array Attribute := #[]) (ms : Array MethodInfo := #[]) (fl : Nat := 33) (sup : Nat := 0) (ifs : Array Nat := #[]) (fds : Array FieldInfo := #[]) : ClassFile where
  minorVersion := 0
  majorVersion := 65
  constantPool := pool
  accessFlags := fl
  thisClass := this
  superClass := sup
  interfaces := ifs
  fields := fds
  methods := ms
  attributes := attrs
def plain (name : String) (sup : Option ClassId) : Class where
  name := name
  kind := .ordinary
  loader := none
  accessFlags := 33
  super := sup
  interfaces := #[]
  cf := none
  fields := #[]
  methods := #[]
  instanceTypes := #[]
  staticTypes := #[]
  resolved := #[]
  callSites := []
  init := .initialized
  statics := none
  mirror := none

def pool0 : Array CpInfo := pool [(5, u "<init>"), (0, u "()V"), (1, .class_ 10), (1, u "java/lang/Object")] 113

def k0m0 : Method := { name := "<init>", desc := "()V", sig := { parameters := [], returnType := none }, accessFlags := 1, code := none }
/-- java/lang/Object -/
def k0 : Class := { plain "java/lang/Object" none with
  accessFlags := 33
  interfaces := #[]
  cf := some (fileOf pool0 8 #[] #[{ accessFlags := 1, nameIndex := 5, descriptorIndex := 6, attributes := #[] }] 33 0 #[] #[])
  fields := #[]
  methods := #[k0m0]
  instanceTypes := #[]
  staticTypes := #[]
  resolved := Array.replicate 124 none
  statics := none }

def pool1 : Array CpInfo := pool [(2, .class_ 4), (1, u "java/lang/Object"), (0, u "<init>"), (0, u "()V"), (0, .integer 2147483647), (0, .methodref 9 10), (0, .class_ 11), (0, .nameAndType 12 13), (0, u "com/example/grant3/grant3/store/RecordLineEndPinLaw"), (0, u "draw"), (0, u "(I)B"), (0, .methodref 15 16), (0, .class_ 17), (0, .nameAndType 18 19), (0, u "com/example/grant3/grant3/store/RecordLine"), (0, u "end"), (0, u "([BI)I"), (2, u "law"), (0, u "(IIIIII)Z")] 5

def k1m0 : Method := { name := "<init>", desc := "()V", sig := { parameters := [], returnType := none }, accessFlags := 2, code := none }
def k1c1 : Code := { maxStack := 3, maxLocals := 14, code := code, exceptionTable := #[], attributes := #[] }
def k1m1 : Method := { name := "law", desc := "(IIIIII)Z", sig := { parameters := [.int, .int, .int, .int, .int, .int], returnType := some .boolean }, accessFlags := 9, code := some k1c1 }
def k1c2 : Code := { maxStack := 2, maxLocals := 1, code := method_3_code, exceptionTable := #[], attributes := #[] }
def k1m2 : Method := { name := "draw", desc := "(I)B", sig := { parameters := [.int], returnType := some .byte }, accessFlags := 10, code := some k1c2 }
/-- com/example/grant3/grant3/store/RecordLineEndPinLaw -/
def k1 : Class := { plain "com/example/grant3/grant3/store/RecordLineEndPinLaw" (some 0) with
  accessFlags := 49
  interfaces := #[]
  cf := some (fileOf pool1 9 #[] #[{ accessFlags := 2, nameIndex := 5, descriptorIndex := 6, attributes := #[] }, { accessFlags := 9, nameIndex := 22, descriptorIndex := 23, attributes := #[] }, { accessFlags := 10, nameIndex := 12, descriptorIndex := 13, attributes := #[] }] 49 2 #[] #[])
  fields := #[]
  methods := #[k1m0, k1m1, k1m2]
  instanceTypes := #[]
  staticTypes := #[]
  resolved := Array.replicate 29 none
  statics := none }

def pool2 : Array CpInfo := pool [(2, .class_ 4), (1, u "java/lang/Object"), (0, u "<init>"), (0, u "()V"), (38, .class_ 47), (1, u "com/example/grant3/grant3/store/RecordLine"), (10, u "end"), (0, u "([BI)I"), (9, .class_ 70), (0, u "com/example/grant3/grant3/store/RecordLine$Lines"), (62, u "CHECKSUM_DIGITS"), (0, u "I")] 31

def k2m0 : Method := { name := "<init>", desc := "()V", sig := { parameters := [], returnType := none }, accessFlags := 2, code := none }
def k2c1 : Code := { maxStack := 2, maxLocals := 3, code := prog_32_method_5_code, exceptionTable := #[], attributes := #[] }
def k2m1 : Method := { name := "end", desc := "([BI)I", sig := { parameters := [(.array .byte), .int], returnType := some .int }, accessFlags := 8, code := some k2c1 }
/-- com/example/grant3/grant3/store/RecordLine -/
def k2 : Class := { plain "com/example/grant3/grant3/store/RecordLine" (some 0) with
  accessFlags := 48
  interfaces := #[]
  cf := some (fileOf pool2 45 #[.nestMembers #[69]] #[{ accessFlags := 2, nameIndex := 5, descriptorIndex := 6, attributes := #[] }, { accessFlags := 8, nameIndex := 58, descriptorIndex := 59, attributes := #[] }] 48 2 #[] #[{ accessFlags := 26, nameIndex := 133, descriptorIndex := 134, attributes := #[] }])
  fields := #[{ name := "CHECKSUM_DIGITS", type := .int, accessFlags := 26, slot := 0, constantValue := 0 }]
  methods := #[k2m0, k2m1]
  instanceTypes := #[]
  staticTypes := #[.int]
  resolved := Array.replicate 166 none
  statics := none }

def pool3 : Array CpInfo := pool [(1, u "java/lang/Cloneable"), (0, .class_ 1), (0, u "java/lang/Object"), (0, .class_ 3)] 3

/-- java/lang/Cloneable -/
def k3 : Class := { plain "java/lang/Cloneable" (some 0) with
  accessFlags := 1537
  interfaces := #[]
  cf := some (fileOf pool3 2 #[] #[] 1537 4 #[] #[])
  fields := #[]
  methods := #[]
  instanceTypes := #[]
  staticTypes := #[]
  resolved := Array.replicate 8 none
  statics := none }

def pool4 : Array CpInfo := pool [(1, u "java/io/Serializable"), (0, .class_ 1), (0, u "java/lang/Object"), (0, .class_ 3)] 3

/-- java/io/Serializable -/
def k4 : Class := { plain "java/io/Serializable" (some 0) with
  accessFlags := 1537
  interfaces := #[]
  cf := some (fileOf pool4 2 #[] #[] 1537 4 #[] #[])
  fields := #[]
  methods := #[]
  instanceTypes := #[]
  staticTypes := #[]
  resolved := Array.replicate 8 none
  statics := none }

/-- the primitive byte -/
def k5 : Class := { plain "byte" none with kind := .primitive 'B', accessFlags := 0x411 }
/-- [B -/
def k6 : Class := { plain "[B" (some 0) with kind := .array 5 .byte, interfaces := #[3, 4], accessFlags := 1041 }

/-- the primitive int -/
def k7 : Class := { plain "int" none with kind := .primitive 'I', accessFlags := 0x411 }
/-- [I -/
def k8 : Class := { plain "[I" (some 0) with kind := .array 7 .int, interfaces := #[3, 4], accessFlags := 1041 }

def heap : Heap := #[]
def classes : Array Class := #[k0, k1, k2, k3, k4, k5, k6, k7, k8]
def interned : List (Array UInt16 × Addr) := []
def slotsUsed : Nat := 0
def theMethod : MethodId := ⟨1, 1⟩
def args0 : Array Value := #[.int 5, .int 5, .int 5, .int 5, .int 5, .int 5]
def aboutOver (below : List Frame) : State where
  vm := { classes := classes, interned := interned.toArray }
  heap := heap
  slotsUsed := slotsUsed
  threads := #[{ frames := .invoking theMethod args0 :: below }]
def below0 : List Frame := [.native { method := ⟨0, 0⟩, args := #[] }]
def about1 : State := aboutOver below0
def p0 : Program := .bare "" "" ""
def e0 : Env := launch0.env 0 0 0
theorem w_frames : about1.frames = Frame.invoking theMethod args0 :: below0 := rfl
set_option maxRecDepth 65536 in
theorem w_args : argsFit about1.vm theMethod args0 = true := by decide +kernel
set_option maxRecDepth 65536 in
theorem w_heap : heapFits about1 = true := by decide +kernel
set_option maxRecDepth 65536 in
theorem w_runnable : about1.curStatus? = some .runnable := by decide +kernel
set_option maxRecDepth 65536 in
theorem w_alone : about1.alone = true := by decide +kernel
set_option maxRecDepth 65536 in
theorem w_named : about1.methodNamed? x = some theMethod := by decide +kernel
set_option maxRecDepth 65536 in
theorem w_hears : about1.hears theMethod below0 = true := by decide +kernel
set_option maxRecDepth 65536 in
theorem w_ripe : about1.ripe theMethod args0 below0 = true := by decide +kernel
theorem w_running : about1.status = .running := rfl
set_option maxRecDepth 65536 in
theorem w_room : about1.hasRoom e0.platform room_1 = true :=
  launch0.hasRoom_least _ room_1 (by decide +kernel) (by decide +kernel) (by decide +kernel) (by decide +kernel) (by decide +kernel) (by decide +kernel)
theorem allAtoms_all (ts : List Jvm.Cond) (a : Array Jvm.Value) (st : Jvm.State) : (allAtoms ts).before a st = ts.all (fun c => c.before a st) := by
  induction ts with
  | nil => rfl
  | cons c t ih =>
    show (Jvm.Cond.and c (allAtoms t)).before a st = _
    rw [Jvm.Cond.before_and, ih, List.all_cons]
def words1 : List Jvm.Cond := Jvm.Cond.code x code maxLocals ret :: tables_1
/-- a 'code' word, met by the world's own term for the bytes: nothing is compared byte by byte -/
theorem code_word {y : MethodName} {bytes : ByteArray} {mx : Nat} {rt : Option FieldType} {a : Array Value} {s : State} {m : MethodId} {meth : Method} {c : Code} (h1 : s.methodNamed? y = some m) (h2 : s.vm.method? m = some meth) (h3 : meth.code = some c) (h4 : c.code = bytes)
    (h5 : (c.maxLocals == mx && c.exceptionTable.isEmpty && decide (c.maxStack ≤ mostOperands) && decide (meth.sig.returnType = rt) && !meth.locks && decide (parseMethodDescriptor y.desc = some meth.sig)) = true) : (Jvm.Cond.code y bytes mx rt).before a s = true := by
  simp only [Bool.and_eq_true, beq_iff_eq, Bool.not_eq_true', decide_eq_true_eq] at h5
  obtain ⟨⟨⟨⟨⟨g1, g2⟩, g3⟩, g4⟩, g5⟩, g6⟩ := h5
  simp [Cond.before, Cond.holds, Cond.value, h1, h2, h3, h4, g1, g2, g3, g4, g5, g6]
def isCode : Jvm.Cond → Bool
  | .code _ _ _ _ => true
  | _ => false
theorem all_split {L : List Jvm.Cond} {P : Jvm.Cond → Bool} (h1 : L.all (fun c => isCode c || P c) = true) (h2 : ∀ c ∈ L.filter isCode, P c = true) : L.all P = true := by
  refine List.all_eq_true.mpr fun c hc => ?_
  have h := List.all_eq_true.mp h1 c hc
  rcases Bool.eq_false_or_eq_true (isCode c) with hi | hi
  · exact h2 c (List.mem_filter.mpr ⟨hc, hi⟩)
  · simpa [hi] using h
set_option maxRecDepth 65536 in
theorem w_c0 : (Jvm.Cond.code x code maxLocals ret).before args0 about1 = true := code_word (m := ⟨1, 1⟩) (meth := k1m1) (c := k1c1) (by decide +kernel) rfl rfl rfl (by decide +kernel)
set_option maxRecDepth 65536 in
theorem w_c1 : (Jvm.Cond.code ({ cls := "com/example/grant3/grant3/store/RecordLineEndPinLaw", name := "draw", desc := "(I)B" } : Jvm.MethodName) method_3_code (1 : Nat) (Option.some Jvm.ClassFile.FieldType.byte)).before args0 about1 = true := code_word (m := ⟨1, 2⟩) (meth := k1m2) (c := k1c2) (by decide +kernel) rfl rfl rfl (by decide +kernel)
set_option maxRecDepth 65536 in
theorem w_c2 : (Jvm.Cond.code ({ cls := "com/example/grant3/grant3/store/RecordLine", name := "end", desc := "([BI)I" } : Jvm.MethodName) prog_32_method_5_code (3 : Nat) (Option.some Jvm.ClassFile.FieldType.int)).before args0 about1 = true := code_word (m := ⟨2, 1⟩) (meth := k2m1) (c := k2c1) (by decide +kernel) rfl rfl rfl (by decide +kernel)
def codes1 : List Jvm.Cond := [Jvm.Cond.code x code maxLocals ret, Jvm.Cond.code ({ cls := "com/example/grant3/grant3/store/RecordLineEndPinLaw", name := "draw", desc := "(I)B" } : Jvm.MethodName) method_3_code (1 : Nat) (Option.some Jvm.ClassFile.FieldType.byte), Jvm.Cond.code ({ cls := "com/example/grant3/grant3/store/RecordLine", name := "end", desc := "([BI)I" } : Jvm.MethodName) prog_32_method_5_code (3 : Nat) (Option.some Jvm.ClassFile.FieldType.int)]
set_option maxRecDepth 65536 in
theorem codes_eq : words1.filter isCode = codes1 := rfl
theorem w_codes : ∀ c ∈ words1.filter isCode, c.before args0 about1 = true := by
  rw [codes_eq]
  intro c hc
  simp only [codes1, List.mem_cons, List.not_mem_nil, or_false] at hc
  rcases hc with rfl | rfl | rfl
  · exact w_c0
  · exact w_c1
  · exact w_c2
set_option maxRecDepth 65536 in
theorem w_t1 : words1.all (fun c => isCode c || c.before args0 about1) = true := by decide +kernel
theorem w_tables : (allAtoms (Jvm.Cond.code x code maxLocals ret :: tables_1)).before args0 about1 = true := by
  rw [allAtoms_all]
  show words1.all (fun c => c.before args0 about1) = true
  refine all_split ?_ w_codes
  rw [w_t1]
set_option maxRecDepth 65536 in
theorem w_case : (Jvm.Cond.and given_1 narrow_1).before args0 about1 = true := by decide +kernel
theorem w_applies : (headSpec (Jvm.Cond.code x code maxLocals ret :: tables_1) room_1).applies x e0.platform about1 = true :=
  (Spec.applies_iff w_frames).mpr ⟨w_running, w_runnable, w_alone, w_named, w_hears, w_ripe, w_room, w_tables⟩
theorem atStart : AtStart classFile x code maxLocals ret World_1 tables_1 room_1 Calls_1 rest_1 Pre_1 launch0 p0 e0 about1 theMethod args0 below0 :=
  ⟨lists_1, trivial, launch0.admits_env _ _ _, launch0.least_env, fairChoices_fair.cas, fairChoices_fair.clock, w_frames, w_args, w_heap, w_applies, trivial, trivial, w_case⟩
end start1
theorem witness_1 : WitnessClaimed_1 := ⟨start1.p0, start1.e0, start1.about1, start1.theMethod, start1.args0, start1.below0, start1.atStart⟩
end Jvm.Pilot.@@N@@

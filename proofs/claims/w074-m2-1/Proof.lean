import JvmDerived
import JvmDerived.Pilot.@@N@@Statement
import JvmDerived.Pilot.@@N@@Code
set_option linter.unusedVariables false
set_option linter.unusedSimpArgs false
namespace Jvm.RoadKit
open Sem ClassFile Op Lib Jvm.Stand Jvm.Free Jvm.LawKit
section New
variable {p : Program} {l : Launch} {e : Env} {R : Room} {s : State} {m : MethodId} {args : Array Value} {below : List Frame} {meth : Method} {c : Code} {T : State} {locs : List Loc} {cells slots : Nat}
theorem retI (X : Stand p l e R s m args below meth c T locs cells slots) (hx : p.tables.exec = Jvm.exec) {pc : Nat} {Ls : Array Slot} {z : Int32} {rest : List Value} (hret : meth.sig.returnType = some .int) (hd : decode c.code pc = .ok (.ireturn, 1)) {fs : List Frame}
    (hl : ∀ (f : JFrame) (acts : List Action), f.method = m → f.locked = none → f.entered = [] → (doReturn e (T.setTop f) acts (some (.int z))).1 = T.setFrames fs) : Steps p.tables e below (T.setTop (mkF m pc Ls (.int z :: rest))) (T.setFrames fs) := by
  have hm' : T.vm.method? m = some meth := X.method'
  have hn : narrow .int (.int z) = .int z := rfl
  show Steps p.tables e below (T.setTop { method := m, pc := pc, locals := Ls, stack := _ :: rest, locked := none }) _
  jvm_step X.here [X.here.top, hx, hd, hm', hret, hn]
  first | (intro acts; rw [hl _ acts rfl rfl rfl]) | rw [hl _ _ rfl rfl rfl]
  exact Steps.refl _
end New
end Jvm.RoadKit
namespace Jvm.Pilot.@@N@@
open Jvm Jvm.ClassFile Sem Op Lib Jvm.Free Jvm.Stand Jvm.LawKit Jvm.RoadKit Bundle Jvm.Pilot.@@N@@.Jvm.D
/-- two slots that hold nothing, or one double or long -/
def own_Two (s t : Slot) : Prop := (s = .unset ∧ t = .unset) ∨ (∃ d, s = .val (.double d) ∧ t = .second) ∨ ∃ d, s = .val (.long d) ∧ t = .second
theorem own_pad {p : Program} {l : Launch} {e : Env} {R : Room} {s : State} {m : MethodId} {args : Array Value} {below : List Frame} {meth : Method} {c : Code} {T : State} {locs : List Loc} {k n k' n' : Nat} (X : Stand p l e R s m args below meth c T locs k n) (hk : k ≤ k') (hn : n ≤ n') : Stand p l e R s m args below meth c T locs k' n' := { X with same := X.same.mono hk hn }
/-- the walk from S on comes to an end of which Q is true -/
def own_End (p : Program) (e : Env) (below : List Frame) (Q : Outcome → State → Prop) (S : State) : Prop := ∃ s₂ o, Steps p.tables e below S s₂ ∧ s₂.status = .running ∧ Ended s₂ below o ∧ Q o s₂
theorem own_go {p : Program} {e : Env} {below : List Frame} {Q : Outcome → State → Prop} {S S' : State} (h : ∀ t, Steps p.tables e below S' t → Steps p.tables e below S t) (k : own_End p e below Q S') : own_End p e below Q S := by
  obtain ⟨s₂, o, h1, h2⟩ := k
  exact ⟨s₂, o, h s₂ h1, h2⟩
/-- what isPlain answers -/
def own_plain (c : Int32) : Int32 := if c = 34 then 0 else if c = 92 then 0 else if c < 32 then 0 else 1
theorem own_yes (c : Int32) (h : 32 ≤ c.toInt ∧ c.toInt ≠ 34 ∧ c.toInt ≠ 92) : own_plain c = 1 := by
  unfold own_plain
  rw [if_neg, if_neg, if_neg]
  · rw [Int32.lt_iff_toInt_lt]; have : (32 : Int32).toInt = 32 := by decide
    omega
  · rw [← Int32.toInt_inj]; have : (92 : Int32).toInt = 92 := by decide
    omega
  · rw [← Int32.toInt_inj]; have : (34 : Int32).toInt = 34 := by decide
    omega
theorem own_no (c : Int32) (h : c.toInt < 32 ∨ c.toInt = 34 ∨ c.toInt = 92) : own_plain c = 0 := by
  unfold own_plain
  have e1 : (32 : Int32).toInt = 32 := by decide
  have e2 : (34 : Int32).toInt = 34 := by decide
  have e3 : (92 : Int32).toInt = 92 := by decide
  by_cases h1 : c = 34
  · simp [h1]
  · by_cases h2 : c = 92
    · simp [h2]
    · have h3 : c < 32 := by
        rw [Int32.lt_iff_toInt_lt]; rw [← Int32.toInt_inj] at h1 h2
        omega
      simp [h1, h2, h3]
theorem own_lt {a b : Int32} {n : Int} (h : a < b) (e : b.toInt = n) : a.toInt < n := by rw [Int32.lt_iff_toInt_lt] at h; omega
theorem own_nlt {a b : Int32} {n : Int} (h : ¬ a < b) (e : b.toInt = n) : n ≤ a.toInt := by rw [Int32.lt_iff_toInt_lt] at h; omega
theorem own_gt {a b : Int32} {n : Int} (h : b < a) (e : b.toInt = n) : n < a.toInt := by rw [Int32.lt_iff_toInt_lt] at h; omega
theorem own_ngt {a b : Int32} {n : Int} (h : ¬ b < a) (e : b.toInt = n) : a.toInt ≤ n := by rw [Int32.lt_iff_toInt_lt] at h; omega
theorem d1_0 : decode prog_23_method_2_code 0 = .ok (.iload_n 0, 1) := by decide +kernel
theorem d1_1 : decode prog_23_method_2_code 1 = .ok (.bipush 34, 2) := by decide +kernel
theorem d1_3 : decode prog_23_method_2_code 3 = .ok (.if_icmp .eq 19, 3) := by decide +kernel
theorem d1_6 : decode prog_23_method_2_code 6 = .ok (.iload_n 0, 1) := by decide +kernel
theorem d1_7 : decode prog_23_method_2_code 7 = .ok (.bipush 92, 2) := by decide +kernel
theorem d1_9 : decode prog_23_method_2_code 9 = .ok (.if_icmp .eq 13, 3) := by decide +kernel
theorem d1_12 : decode prog_23_method_2_code 12 = .ok (.iload_n 0, 1) := by decide +kernel
theorem d1_13 : decode prog_23_method_2_code 13 = .ok (.bipush 32, 2) := by decide +kernel
theorem d1_15 : decode prog_23_method_2_code 15 = .ok (.if_icmp .lt 7, 3) := by decide +kernel
theorem d1_18 : decode prog_23_method_2_code 18 = .ok (.iconst 1, 1) := by decide +kernel
theorem d1_19 : decode prog_23_method_2_code 19 = .ok (.goto 4, 3) := by decide +kernel
theorem d1_22 : decode prog_23_method_2_code 22 = .ok (.iconst 0, 1) := by decide +kernel
theorem d1_23 : decode prog_23_method_2_code 23 = .ok (.ireturn, 1) := by decide +kernel
theorem pn_0 : plainName "com/example/tasks_to_slots/taskstoslots/io/JsonString" = true := by first | (simp [plainName, overriddenIn]; done) | decide +kernel
theorem ef_1 (m : MethodId) (x0 : Int32) : entryFrame m #[(.int x0)] 1 = mkF m 0 #[.val (.int x0)] [] := by first | (simp [entryFrame, mkF, argsToLocals, Value.category]; done) | rfl
def Q1 (Z : State) (ch : Int32) (h0 : Heap) (n0 : Nat) (v : Option Value) (h : Heap) (L : List Loc) : Prop := v = some (.int (own_plain ch)) ∧ Fr n0 L ∧ h = h0
def P1 (Z : State) (ch : Int32) (h0 : Heap) (n0 : Nat) (s : State) (o : Outcome) (U : State) : Prop := ∃ v L, o = .returned v ∧ Q1 Z ch h0 n0 v U.heap L ∧ FrameEnd s o U L ({ frames := 0, cells := 0, slots := 0, locals := 0 } : Room).cells ({ frames := 0, cells := 0, slots := 0, locals := 0 } : Room).slots
set_option maxRecDepth 65536 in
set_option maxHeartbeats 40000000 in
theorem rm1 (l : Launch) (Z : State) (a0 : Array Value) (hw : ∀ d ∈ tables_1, d.before a0 Z = true) (ws : List Jvm.Cond) (ch : Int32) (h0 : Heap) (n0 : Nat) (Z0 : n0 ≤ h0.size)  :
    MetFree l (⟨"com/example/tasks_to_slots/taskstoslots/io/JsonString", "isPlain", "(C)Z"⟩ : MethodName) (head1 (Jvm.Cond.code (⟨"com/example/tasks_to_slots/taskstoslots/io/JsonString", "isPlain", "(C)Z"⟩ : MethodName) prog_23_method_2_code 1 (some .boolean) :: ws) ({ frames := 0, cells := 0, slots := 0, locals := 0 } : Room)) (fun a U => a = #[(.int ch)] ∧ Z.Warmed39 U.vm ∧ U.heap = h0) (fun _ _ _ _ _ => True) (fun _ U o U' => ∃ v L, o = .returned v ∧ Q1 Z ch h0 n0 v U'.heap L ∧ FrameEnd U o U' L ({ frames := 0, cells := 0, slots := 0, locals := 0 } : Room).cells ({ frames := 0, cells := 0, slots := 0, locals := 0 } : Room).slots) := by
  refine MetFree.of_bodySF (plainFor_of_name pn_0) hisR ?_
  intro p e s m args below meth c s₁ Bd hml0 hP hK
  obtain ⟨rfl, hZ, hh⟩ := hP
  have hx := Bd.exec
  have hby := Bd.bytes
  have hml : c.maxLocals = 1 := hml0
  have hown : s.vm.findClass "com/example/tasks_to_slots/taskstoslots/io/JsonString" = some m.cls := findClass_of_methodNamed Bd.named
  have hnm := (name_of_methodNamed Bd.named Bd.method).1
  have X0 : Stand p l e ({ frames := 0, cells := 0, slots := 0, locals := 0 } : Room) s m #[(.int ch)] below meth c s₁ [] 0 0 := Stand.of_body Bd
  have e0 : s₁.heap = h0 := by rw [← hh, Bd.state]; rfl
  have Nf := Fr.nil n0
  have Zs : n0 ≤ h0.size := Z0
  have Kp : Keep h0 h0 [] := Keep.refl _ _
  have szr : h0.size ≤ h0.size := Nat.le_refl _
  show own_End p e below (P1 Z ch h0 n0 s) (s₁.setTop (entryFrame m #[(.int ch)] 1))
  rw [ef_1]
  refine own_go (fun t k => XS.iloadN X0.here hx rfl (hb hby d1_0) rfl k) ?_
  show own_End p e below _ (s₁.setTop (mkF m 1 #[.val (.int ch)] [(.int ch)]))
  refine own_go (fun t k => XS.bipush X0.here hx rfl (hb hby d1_1) k) ?_
  show own_End p e below _ (s₁.setTop (mkF m 3 #[.val (.int ch)] [(.int (34 : Int32)), (.int ch)]))
  by_cases hc3 : ch = (34 : Int32)
  ·
    refine own_go (fun t k => XS.icmpYes X0.here hx rfl (pc0 := 3) (pc' := 22) rfl (hb hby d1_3) rfl (teq hc3).1 (by decide) (by decide) k) ?_
    show own_End p e below _ (s₁.setTop (mkF m 22 #[.val (.int ch)] []))
    refine own_go (fun t k => XS.iconst X0.here hx rfl (hb hby d1_22) k) ?_
    show own_End p e below _ (s₁.setTop (mkF m 23 #[.val (.int ch)] [(.int (0 : Int32))]))
    obtain ⟨fs, hr, hrun, hended, hW, hsame⟩ := X0.leave (v := some (.int (0 : Int32))) (fun h => by rw [Bd.returns] at h; cases h)
    refine ⟨_, _, (retN X0 hx (t := .boolean) Bd.returns (by simp) (hb hby d1_23) hr), hrun, hended, _, _, rfl, ?_, ⟨_, rfl⟩, hW, hsame.mono (by decide) (by decide)⟩
    show Q1 Z ch h0 n0 _ s₁.heap _
    rw [e0]
    exact ⟨by simp [own_plain, hc3], Nf, rfl⟩
  ·
    refine own_go (fun t k => XS.icmpNo X0.here hx rfl (hb hby d1_3) rfl (feq hc3).1 k) ?_
    show own_End p e below _ (s₁.setTop (mkF m 6 #[.val (.int ch)] []))
    refine own_go (fun t k => XS.iloadN X0.here hx rfl (hb hby d1_6) rfl k) ?_
    show own_End p e below _ (s₁.setTop (mkF m 7 #[.val (.int ch)] [(.int ch)]))
    refine own_go (fun t k => XS.bipush X0.here hx rfl (hb hby d1_7) k) ?_
    show own_End p e below _ (s₁.setTop (mkF m 9 #[.val (.int ch)] [(.int (92 : Int32)), (.int ch)]))
    by_cases hc9 : ch = (92 : Int32)
    ·
      refine own_go (fun t k => XS.icmpYes X0.here hx rfl (pc0 := 9) (pc' := 22) rfl (hb hby d1_9) rfl (teq hc9).1 (by decide) (by decide) k) ?_
      show own_End p e below _ (s₁.setTop (mkF m 22 #[.val (.int ch)] []))
      refine own_go (fun t k => XS.iconst X0.here hx rfl (hb hby d1_22) k) ?_
      show own_End p e below _ (s₁.setTop (mkF m 23 #[.val (.int ch)] [(.int (0 : Int32))]))
      obtain ⟨fs, hr, hrun, hended, hW, hsame⟩ := X0.leave (v := some (.int (0 : Int32))) (fun h => by rw [Bd.returns] at h; cases h)
      refine ⟨_, _, (retN X0 hx (t := .boolean) Bd.returns (by simp) (hb hby d1_23) hr), hrun, hended, _, _, rfl, ?_, ⟨_, rfl⟩, hW, hsame.mono (by decide) (by decide)⟩
      show Q1 Z ch h0 n0 _ s₁.heap _
      rw [e0]
      exact ⟨by simp [own_plain, hc3, hc9], Nf, rfl⟩
    ·
      refine own_go (fun t k => XS.icmpNo X0.here hx rfl (hb hby d1_9) rfl (feq hc9).1 k) ?_
      show own_End p e below _ (s₁.setTop (mkF m 12 #[.val (.int ch)] []))
      refine own_go (fun t k => XS.iloadN X0.here hx rfl (hb hby d1_12) rfl k) ?_
      show own_End p e below _ (s₁.setTop (mkF m 13 #[.val (.int ch)] [(.int ch)]))
      refine own_go (fun t k => XS.bipush X0.here hx rfl (hb hby d1_13) k) ?_
      show own_End p e below _ (s₁.setTop (mkF m 15 #[.val (.int ch)] [(.int (32 : Int32)), (.int ch)]))
      by_cases hc15 : ch < (32 : Int32)
      ·
        refine own_go (fun t k => XS.icmpYes X0.here hx rfl (pc0 := 15) (pc' := 22) rfl (hb hby d1_15) rfl (tlt hc15).1 (by decide) (by decide) k) ?_
        show own_End p e below _ (s₁.setTop (mkF m 22 #[.val (.int ch)] []))
        refine own_go (fun t k => XS.iconst X0.here hx rfl (hb hby d1_22) k) ?_
        show own_End p e below _ (s₁.setTop (mkF m 23 #[.val (.int ch)] [(.int (0 : Int32))]))
        obtain ⟨fs, hr, hrun, hended, hW, hsame⟩ := X0.leave (v := some (.int (0 : Int32))) (fun h => by rw [Bd.returns] at h; cases h)
        refine ⟨_, _, (retN X0 hx (t := .boolean) Bd.returns (by simp) (hb hby d1_23) hr), hrun, hended, _, _, rfl, ?_, ⟨_, rfl⟩, hW, hsame.mono (by decide) (by decide)⟩
        show Q1 Z ch h0 n0 _ s₁.heap _
        rw [e0]
        exact ⟨by simp [own_plain, hc3, hc9, hc15], Nf, rfl⟩
      ·
        refine own_go (fun t k => XS.icmpNo X0.here hx rfl (hb hby d1_15) rfl (flt hc15).1 k) ?_
        show own_End p e below _ (s₁.setTop (mkF m 18 #[.val (.int ch)] []))
        refine own_go (fun t k => XS.iconst X0.here hx rfl (hb hby d1_18) k) ?_
        show own_End p e below _ (s₁.setTop (mkF m 19 #[.val (.int ch)] [(.int (1 : Int32))]))
        refine own_go (fun t k => XS.goto X0.here hx rfl (pc0 := 19) (pc' := 23) rfl (hb hby d1_19) (by decide) (by decide) k) ?_
        show own_End p e below _ (s₁.setTop (mkF m 23 #[.val (.int ch)] [(.int (1 : Int32))]))
        obtain ⟨fs, hr, hrun, hended, hW, hsame⟩ := X0.leave (v := some (.int (1 : Int32))) (fun h => by rw [Bd.returns] at h; cases h)
        refine ⟨_, _, (retN X0 hx (t := .boolean) Bd.returns (by simp) (hb hby d1_23) hr), hrun, hended, _, _, rfl, ?_, ⟨_, rfl⟩, hW, hsame.mono (by decide) (by decide)⟩
        show Q1 Z ch h0 n0 _ s₁.heap _
        rw [e0]
        exact ⟨by simp [own_plain, hc3, hc9, hc15], Nf, rfl⟩
theorem pd_1 : parseMethodDescriptor "(C)Z" = some ⟨[.char], some .boolean⟩ := by decide +kernel
theorem pn_2 : plainName "com/example/tasks_to_slots/taskstoslots/io/JsonStringIsPlainPinLaw" = true := by first | (simp [plainName, overriddenIn]; done) | decide +kernel
theorem ef_0 (m : MethodId) (x0 : Int32) : entryFrame m #[(.int x0)] maxLocals = mkF m 0 #[.val (.int x0), .unset, .unset, .unset] [] := by first | (simp [entryFrame, mkF, argsToLocals, Value.category, maxLocals]; done) | rfl
def Q0 (Z : State) (i0 : Int32) (h0 : Heap) (n0 : Nat) (v : Option Value) (h : Heap) (L : List Loc) : Prop := v = some (.int 1) ∧ Fr n0 L
def P0 (Z : State) (i0 : Int32) (h0 : Heap) (n0 : Nat) (s : State) (o : Outcome) (U : State) : Prop := ∃ v L, o = .returned v ∧ Q0 Z i0 h0 n0 v U.heap L ∧ FrameEnd s o U L 0 0
set_option maxRecDepth 65536 in
set_option maxHeartbeats 40000000 in
theorem rm0 (l : Launch) (Z : State) (a0 : Array Value) (hw : ∀ d ∈ tables_1, d.before a0 Z = true) (ws : List Jvm.Cond) (i0 : Int32) (h0 : Heap) (n0 : Nat) (Z0 : n0 ≤ h0.size)  :
    MetFree l x (head1 (Jvm.Cond.code x code maxLocals ret :: ws) room_1) (fun a U => a = #[(.int i0)] ∧ Z.Warmed39 U.vm ∧ U.heap = h0) (fun _ _ _ _ _ => True) (fun _ U o U' => ∃ v L, o = .returned v ∧ Q0 Z i0 h0 n0 v U'.heap L ∧ FrameEnd U o U' L 0 0) := by
  refine MetFree.of_bodySF (plainFor_of_name pn_2) hisR ?_
  intro p e s m args below meth c s₁ Bd hml0 hP hK
  obtain ⟨rfl, hZ, hh⟩ := hP
  have hx := Bd.exec
  have hby := Bd.bytes
  have hml : c.maxLocals = 4 := hml0
  have hown : s.vm.findClass "com/example/tasks_to_slots/taskstoslots/io/JsonStringIsPlainPinLaw" = some m.cls := findClass_of_methodNamed Bd.named
  have hnm := (name_of_methodNamed Bd.named Bd.method).1
  have X0 : Stand p l e room_1 s m #[(.int i0)] below meth c s₁ [] 0 0 := Stand.of_body Bd
  have e0 : s₁.heap = h0 := by rw [← hh, Bd.state]; rfl
  have Nf := Fr.nil n0
  have Zs : n0 ≤ h0.size := Z0
  have Kp : Keep h0 h0 [] := Keep.refl _ _
  have szr : h0.size ≤ h0.size := Nat.le_refl _
  show own_End p e below (P0 Z i0 h0 n0 s) (s₁.setTop (entryFrame m #[(.int i0)] maxLocals))
  rw [ef_0]
  refine own_go (fun t k => XS.iloadN X0.here hx rfl (hb hby at_0) rfl k) ?_
  show own_End p e below _ (s₁.setTop (mkF m 1 #[.val (.int i0), .unset, .unset, .unset] [(.int i0)]))
  refine own_go (fun t k => X0.ldcInt hx hown (mvT hZ (hw _ (List.mem_of_getElem? (i := 0) rfl))) (g := (mkF m 1 #[.val (.int i0), .unset, .unset, .unset] [(.int i0)])) rfl (hb hby at_1) _ k) ?_
  show own_End p e below _ (s₁.setTop (mkF m 3 #[.val (.int i0), .unset, .unset, .unset] [(.int (65535 : Int32)), (.int i0)]))
  refine own_go (fun t k => XS.iand X0.here hx rfl (hb hby at_3) rfl k) ?_
  show own_End p e below _ (s₁.setTop (mkF m 4 #[.val (.int i0), .unset, .unset, .unset] [(.int (i0 &&& (65535 : Int32)))]))
  refine own_go (fun t k => XS.i2c X0.here hx rfl (hb hby at_4) rfl k) ?_
  show own_End p e below _ (s₁.setTop (mkF m 5 #[.val (.int i0), .unset, .unset, .unset] [(.int ((i0 &&& (65535 : Int32)).toUInt32.toUInt16.toUInt32.toInt32))]))
  refine own_go (fun t k => XS.istoreN X0.here hx rfl (hb hby at_5) rfl (l' := #[.val (.int i0), .val (.int ((i0 &&& (65535 : Int32)).toUInt32.toUInt16.toUInt32.toInt32)), .unset, .unset]) rfl k) ?_
  show own_End p e below _ (s₁.setTop (mkF m 6 #[.val (.int i0), .val (.int ((i0 &&& (65535 : Int32)).toUInt32.toUInt16.toUInt32.toInt32)), .unset, .unset] []))
  refine own_go (fun t k => XS.iloadN X0.here hx rfl (hb hby at_6) rfl k) ?_
  show own_End p e below _ (s₁.setTop (mkF m 7 #[.val (.int i0), .val (.int ((i0 &&& (65535 : Int32)).toUInt32.toUInt16.toUInt32.toInt32)), .unset, .unset] [(.int ((i0 &&& (65535 : Int32)).toUInt32.toUInt16.toUInt32.toInt32))]))
  refine own_go (fun t k => XS.istoreN X0.here hx rfl (hb hby at_7) rfl (l' := #[.val (.int i0), .val (.int ((i0 &&& (65535 : Int32)).toUInt32.toUInt16.toUInt32.toInt32)), .val (.int ((i0 &&& (65535 : Int32)).toUInt32.toUInt16.toUInt32.toInt32)), .unset]) rfl k) ?_
  show own_End p e below _ (s₁.setTop (mkF m 8 #[.val (.int i0), .val (.int ((i0 &&& (65535 : Int32)).toUInt32.toUInt16.toUInt32.toInt32)), .val (.int ((i0 &&& (65535 : Int32)).toUInt32.toUInt16.toUInt32.toInt32)), .unset] []))
  generalize ((i0 &&& (65535 : Int32)).toUInt32.toUInt16.toUInt32.toInt32) = ch
  show own_End p e below _ (s₁.setTop (mkF m 8 #[.val (.int i0), .val (.int ch), .val (.int ch), .unset] []))
  refine own_go (fun t k => XS.iloadN X0.here hx rfl (hb hby at_8) rfl k) ?_
  show own_End p e below _ (s₁.setTop (mkF m 9 #[.val (.int i0), .val (.int ch), .val (.int ch), .unset] [(.int ch)]))
  refine own_go (fun t k => XS.bipush X0.here hx rfl (hb hby at_9) k) ?_
  show own_End p e below _ (s₁.setTop (mkF m 11 #[.val (.int i0), .val (.int ch), .val (.int ch), .unset] [(.int (32 : Int32)), (.int ch)]))
  by_cases hc11 : ch < (32 : Int32)
  ·
    refine own_go (fun t k => XS.icmpYes X0.here hx rfl (pc0 := 11) (pc' := 20) rfl (hb hby at_11) rfl (tlt hc11).1 (by decide) (by decide) k) ?_
    show own_End p e below _ (s₁.setTop (mkF m 20 #[.val (.int i0), .val (.int ch), .val (.int ch), .unset] []))
    refine own_go (fun t k => XS.iloadN X0.here hx rfl (hb hby at_20) rfl k) ?_
    show own_End p e below _ (s₁.setTop (mkF m 21 #[.val (.int i0), .val (.int ch), .val (.int ch), .unset] [(.int ch)]))
    refine own_go (fun t k => XS.bipush X0.here hx rfl (hb hby at_21) k) ?_
    show own_End p e below _ (s₁.setTop (mkF m 23 #[.val (.int i0), .val (.int ch), .val (.int ch), .unset] [(.int (35 : Int32)), (.int ch)]))
    by_cases hc23 : ch < (35 : Int32)
    ·
      refine own_go (fun t k => XS.icmpYes X0.here hx rfl (pc0 := 23) (pc' := 32) rfl (hb hby at_23) rfl (tlt hc23).1 (by decide) (by decide) k) ?_
      show own_End p e below _ (s₁.setTop (mkF m 32 #[.val (.int i0), .val (.int ch), .val (.int ch), .unset] []))
      refine own_go (fun t k => XS.iloadN X0.here hx rfl (hb hby at_32) rfl k) ?_
      show own_End p e below _ (s₁.setTop (mkF m 33 #[.val (.int i0), .val (.int ch), .val (.int ch), .unset] [(.int ch)]))
      refine own_go (fun t k => XS.bipush X0.here hx rfl (hb hby at_33) k) ?_
      show own_End p e below _ (s₁.setTop (mkF m 35 #[.val (.int i0), .val (.int ch), .val (.int ch), .unset] [(.int (93 : Int32)), (.int ch)]))
      by_cases hc35 : ch < (93 : Int32)
      ·
        refine own_go (fun t k => XS.icmpYes X0.here hx rfl (pc0 := 35) (pc' := 42) rfl (hb hby at_35) rfl (tlt hc35).1 (by decide) (by decide) k) ?_
        show own_End p e below _ (s₁.setTop (mkF m 42 #[.val (.int i0), .val (.int ch), .val (.int ch), .unset] []))
        refine own_go (fun t k => XS.iconst X0.here hx rfl (hb hby at_42) k) ?_
        show own_End p e below _ (s₁.setTop (mkF m 43 #[.val (.int i0), .val (.int ch), .val (.int ch), .unset] [(.int (0 : Int32))]))
        refine own_go (fun t k => XS.istoreN X0.here hx rfl (hb hby at_43) rfl (l' := #[.val (.int i0), .val (.int ch), .val (.int ch), .val (.int (0 : Int32))]) rfl k) ?_
        show own_End p e below _ (s₁.setTop (mkF m 44 #[.val (.int i0), .val (.int ch), .val (.int ch), .val (.int (0 : Int32))] []))
        refine own_go (fun t k => XS.iloadN X0.here hx rfl (hb hby at_44) rfl k) ?_
        show own_End p e below _ (s₁.setTop (mkF m 45 #[.val (.int i0), .val (.int ch), .val (.int ch), .val (.int (0 : Int32))] [(.int ch)]))
        have q11 := own_lt hc11 (by decide : (32 : Int32).toInt = 32)
        have q23 := own_lt hc23 (by decide : (35 : Int32).toInt = 35)
        have q35 := own_lt hc35 (by decide : (93 : Int32).toInt = 93)
        obtain ⟨_, _, ⟨T1, L1, k1, n1⟩, -, X1, ⟨Lc1, hQ1, l1, y1, z1⟩, st1⟩ := Jvm.LawKit.callS X0 hx (y := (⟨"com/example/tasks_to_slots/taskstoslots/io/JsonString", "isPlain", "(C)Z"⟩ : MethodName)) hown (mvT hZ (hw _ (List.mem_of_getElem? (i := 1) rfl))) (mvT hZ (hw _ (List.mem_of_getElem? (i := 2) rfl))) (mvT hZ (hw _ (List.mem_of_getElem? (i := 3) rfl))) (mvT hZ (hw _ (List.mem_of_getElem? (i := 4) rfl))) (by decide) (backOf (W := 0) (rm1 l Z a0 hw [] ch h0 n0 Zs ) hZ (hw _ (List.mem_of_getElem? (i := 4) rfl)) (hw _ (List.mem_of_getElem? (i := 3) rfl)) (by decide) (by decide)) (g := (mkF m 45 #[.val (.int i0), .val (.int ch), .val (.int ch), .val (.int (0 : Int32))] [(.int ch)])) rfl (by rw [hml]; rfl) (argsL := [(.int ch)]) (rest := []) (lenOf pd_1 rfl) rfl (by show 2 * 0 + _ ≤ _; exact Nat.le_of_eq rfl) (hb hby at_45) (fun _ _ => ⟨rfl, e0, (Nat.le_of_ble_eq_true rfl), (Nat.le_of_ble_eq_true rfl)⟩)
        dsimp only [Pt.U, Pt.locs, Pt.cells, Pt.slots] at X1 l1 y1 z1 st1 hQ1
        subst l1 y1 z1
        obtain ⟨rfl, N1q, e1⟩ := hQ1
        have Nf := Fr.app Nf N1q
        refine own_go (fun t k => st1 t k) ?_
        show own_End p e below _ (T1.setTop (mkF m 48 #[.val (.int i0), .val (.int ch), .val (.int ch), .val (.int (0 : Int32))] [(.int (own_plain ch))]))
        refine own_go (fun t k => XS.iloadN X1.here hx rfl (hb hby at_48) rfl k) ?_
        show own_End p e below _ (T1.setTop (mkF m 49 #[.val (.int i0), .val (.int ch), .val (.int ch), .val (.int (0 : Int32))] [(.int (0 : Int32)), (.int (own_plain ch))]))
        refine own_go (fun t k => XS.icmpNo X1.here hx rfl (hb hby at_49) rfl (teq (own_no ch (by omega))).2 k) ?_
        show own_End p e below _ (T1.setTop (mkF m 52 #[.val (.int i0), .val (.int ch), .val (.int ch), .val (.int (0 : Int32))] []))
        refine own_go (fun t k => XS.iconst X1.here hx rfl (hb hby at_52) k) ?_
        show own_End p e below _ (T1.setTop (mkF m 53 #[.val (.int i0), .val (.int ch), .val (.int ch), .val (.int (0 : Int32))] [(.int (1 : Int32))]))
        refine own_go (fun t k => XS.goto X1.here hx rfl (pc0 := 53) (pc' := 57) rfl (hb hby at_53) (by decide) (by decide) k) ?_
        show own_End p e below _ (T1.setTop (mkF m 57 #[.val (.int i0), .val (.int ch), .val (.int ch), .val (.int (0 : Int32))] [(.int (1 : Int32))]))
        obtain ⟨fs, hr, hrun, hended, hW, hsame⟩ := X1.leave (v := some (.int (1 : Int32))) (fun h => by rw [Bd.returns] at h; cases h)
        refine ⟨_, _, (retN X1 hx (t := .boolean) Bd.returns (by simp) (hb hby at_57) hr), hrun, hended, _, _, rfl, ?_, ⟨_, rfl⟩, hW, hsame.mono (by decide) (by decide)⟩
        show Q0 Z i0 h0 n0 _ T1.heap _
        rw [e1]
        exact ⟨rfl, Nf⟩
      ·
        refine own_go (fun t k => XS.icmpNo X0.here hx rfl (hb hby at_35) rfl (flt hc35).1 k) ?_
        show own_End p e below _ (s₁.setTop (mkF m 38 #[.val (.int i0), .val (.int ch), .val (.int ch), .unset] []))
        refine own_go (fun t k => XS.iconst X0.here hx rfl (hb hby at_38) k) ?_
        show own_End p e below _ (s₁.setTop (mkF m 39 #[.val (.int i0), .val (.int ch), .val (.int ch), .unset] [(.int (1 : Int32))]))
        refine own_go (fun t k => XS.goto X0.here hx rfl (pc0 := 39) (pc' := 43) rfl (hb hby at_39) (by decide) (by decide) k) ?_
        show own_End p e below _ (s₁.setTop (mkF m 43 #[.val (.int i0), .val (.int ch), .val (.int ch), .unset] [(.int (1 : Int32))]))
        refine own_go (fun t k => XS.istoreN X0.here hx rfl (hb hby at_43) rfl (l' := #[.val (.int i0), .val (.int ch), .val (.int ch), .val (.int (1 : Int32))]) rfl k) ?_
        show own_End p e below _ (s₁.setTop (mkF m 44 #[.val (.int i0), .val (.int ch), .val (.int ch), .val (.int (1 : Int32))] []))
        refine own_go (fun t k => XS.iloadN X0.here hx rfl (hb hby at_44) rfl k) ?_
        show own_End p e below _ (s₁.setTop (mkF m 45 #[.val (.int i0), .val (.int ch), .val (.int ch), .val (.int (1 : Int32))] [(.int ch)]))
        have q11 := own_lt hc11 (by decide : (32 : Int32).toInt = 32)
        have q23 := own_lt hc23 (by decide : (35 : Int32).toInt = 35)
        have q35 := own_nlt hc35 (by decide : (93 : Int32).toInt = 93)
        obtain ⟨_, _, ⟨T2, L2, k2, n2⟩, -, X2, ⟨Lc2, hQ2, l2, y2, z2⟩, st2⟩ := Jvm.LawKit.callS X0 hx (y := (⟨"com/example/tasks_to_slots/taskstoslots/io/JsonString", "isPlain", "(C)Z"⟩ : MethodName)) hown (mvT hZ (hw _ (List.mem_of_getElem? (i := 1) rfl))) (mvT hZ (hw _ (List.mem_of_getElem? (i := 2) rfl))) (mvT hZ (hw _ (List.mem_of_getElem? (i := 3) rfl))) (mvT hZ (hw _ (List.mem_of_getElem? (i := 4) rfl))) (by decide) (backOf (W := 0) (rm1 l Z a0 hw [] ch h0 n0 Zs ) hZ (hw _ (List.mem_of_getElem? (i := 4) rfl)) (hw _ (List.mem_of_getElem? (i := 3) rfl)) (by decide) (by decide)) (g := (mkF m 45 #[.val (.int i0), .val (.int ch), .val (.int ch), .val (.int (1 : Int32))] [(.int ch)])) rfl (by rw [hml]; rfl) (argsL := [(.int ch)]) (rest := []) (lenOf pd_1 rfl) rfl (by show 2 * 0 + _ ≤ _; exact Nat.le_of_eq rfl) (hb hby at_45) (fun _ _ => ⟨rfl, e0, (Nat.le_of_ble_eq_true rfl), (Nat.le_of_ble_eq_true rfl)⟩)
        dsimp only [Pt.U, Pt.locs, Pt.cells, Pt.slots] at X2 l2 y2 z2 st2 hQ2
        subst l2 y2 z2
        obtain ⟨rfl, N2q, e2⟩ := hQ2
        have Nf := Fr.app Nf N2q
        refine own_go (fun t k => st2 t k) ?_
        show own_End p e below _ (T2.setTop (mkF m 48 #[.val (.int i0), .val (.int ch), .val (.int ch), .val (.int (1 : Int32))] [(.int (own_plain ch))]))
        refine own_go (fun t k => XS.iloadN X2.here hx rfl (hb hby at_48) rfl k) ?_
        show own_End p e below _ (T2.setTop (mkF m 49 #[.val (.int i0), .val (.int ch), .val (.int ch), .val (.int (1 : Int32))] [(.int (1 : Int32)), (.int (own_plain ch))]))
        refine own_go (fun t k => XS.icmpNo X2.here hx rfl (hb hby at_49) rfl (teq (own_yes ch (by omega))).2 k) ?_
        show own_End p e below _ (T2.setTop (mkF m 52 #[.val (.int i0), .val (.int ch), .val (.int ch), .val (.int (1 : Int32))] []))
        refine own_go (fun t k => XS.iconst X2.here hx rfl (hb hby at_52) k) ?_
        show own_End p e below _ (T2.setTop (mkF m 53 #[.val (.int i0), .val (.int ch), .val (.int ch), .val (.int (1 : Int32))] [(.int (1 : Int32))]))
        refine own_go (fun t k => XS.goto X2.here hx rfl (pc0 := 53) (pc' := 57) rfl (hb hby at_53) (by decide) (by decide) k) ?_
        show own_End p e below _ (T2.setTop (mkF m 57 #[.val (.int i0), .val (.int ch), .val (.int ch), .val (.int (1 : Int32))] [(.int (1 : Int32))]))
        obtain ⟨fs, hr, hrun, hended, hW, hsame⟩ := X2.leave (v := some (.int (1 : Int32))) (fun h => by rw [Bd.returns] at h; cases h)
        refine ⟨_, _, (retN X2 hx (t := .boolean) Bd.returns (by simp) (hb hby at_57) hr), hrun, hended, _, _, rfl, ?_, ⟨_, rfl⟩, hW, hsame.mono (by decide) (by decide)⟩
        show Q0 Z i0 h0 n0 _ T2.heap _
        rw [e2]
        exact ⟨rfl, Nf⟩
    ·
      refine own_go (fun t k => XS.icmpNo X0.here hx rfl (hb hby at_23) rfl (flt hc23).1 k) ?_
      show own_End p e below _ (s₁.setTop (mkF m 26 #[.val (.int i0), .val (.int ch), .val (.int ch), .unset] []))
      refine own_go (fun t k => XS.iloadN X0.here hx rfl (hb hby at_26) rfl k) ?_
      show own_End p e below _ (s₁.setTop (mkF m 27 #[.val (.int i0), .val (.int ch), .val (.int ch), .unset] [(.int ch)]))
      refine own_go (fun t k => XS.bipush X0.here hx rfl (hb hby at_27) k) ?_
      show own_End p e below _ (s₁.setTop (mkF m 29 #[.val (.int i0), .val (.int ch), .val (.int ch), .unset] [(.int (91 : Int32)), (.int ch)]))
      by_cases hc29 : (91 : Int32) < ch
      ·
        refine own_go (fun t k => XS.icmpNo X0.here hx rfl (hb hby at_29) rfl (tlt hc29).2.2.2 k) ?_
        show own_End p e below _ (s₁.setTop (mkF m 32 #[.val (.int i0), .val (.int ch), .val (.int ch), .unset] []))
        refine own_go (fun t k => XS.iloadN X0.here hx rfl (hb hby at_32) rfl k) ?_
        show own_End p e below _ (s₁.setTop (mkF m 33 #[.val (.int i0), .val (.int ch), .val (.int ch), .unset] [(.int ch)]))
        refine own_go (fun t k => XS.bipush X0.here hx rfl (hb hby at_33) k) ?_
        show own_End p e below _ (s₁.setTop (mkF m 35 #[.val (.int i0), .val (.int ch), .val (.int ch), .unset] [(.int (93 : Int32)), (.int ch)]))
        by_cases hc35 : ch < (93 : Int32)
        ·
          refine own_go (fun t k => XS.icmpYes X0.here hx rfl (pc0 := 35) (pc' := 42) rfl (hb hby at_35) rfl (tlt hc35).1 (by decide) (by decide) k) ?_
          show own_End p e below _ (s₁.setTop (mkF m 42 #[.val (.int i0), .val (.int ch), .val (.int ch), .unset] []))
          refine own_go (fun t k => XS.iconst X0.here hx rfl (hb hby at_42) k) ?_
          show own_End p e below _ (s₁.setTop (mkF m 43 #[.val (.int i0), .val (.int ch), .val (.int ch), .unset] [(.int (0 : Int32))]))
          refine own_go (fun t k => XS.istoreN X0.here hx rfl (hb hby at_43) rfl (l' := #[.val (.int i0), .val (.int ch), .val (.int ch), .val (.int (0 : Int32))]) rfl k) ?_
          show own_End p e below _ (s₁.setTop (mkF m 44 #[.val (.int i0), .val (.int ch), .val (.int ch), .val (.int (0 : Int32))] []))
          refine own_go (fun t k => XS.iloadN X0.here hx rfl (hb hby at_44) rfl k) ?_
          show own_End p e below _ (s₁.setTop (mkF m 45 #[.val (.int i0), .val (.int ch), .val (.int ch), .val (.int (0 : Int32))] [(.int ch)]))
          have q11 := own_lt hc11 (by decide : (32 : Int32).toInt = 32)
          have q23 := own_nlt hc23 (by decide : (35 : Int32).toInt = 35)
          have q29 := own_gt hc29 (by decide : (91 : Int32).toInt = 91)
          have q35 := own_lt hc35 (by decide : (93 : Int32).toInt = 93)
          obtain ⟨_, _, ⟨T3, L3, k3, n3⟩, -, X3, ⟨Lc3, hQ3, l3, y3, z3⟩, st3⟩ := Jvm.LawKit.callS X0 hx (y := (⟨"com/example/tasks_to_slots/taskstoslots/io/JsonString", "isPlain", "(C)Z"⟩ : MethodName)) hown (mvT hZ (hw _ (List.mem_of_getElem? (i := 1) rfl))) (mvT hZ (hw _ (List.mem_of_getElem? (i := 2) rfl))) (mvT hZ (hw _ (List.mem_of_getElem? (i := 3) rfl))) (mvT hZ (hw _ (List.mem_of_getElem? (i := 4) rfl))) (by decide) (backOf (W := 0) (rm1 l Z a0 hw [] ch h0 n0 Zs ) hZ (hw _ (List.mem_of_getElem? (i := 4) rfl)) (hw _ (List.mem_of_getElem? (i := 3) rfl)) (by decide) (by decide)) (g := (mkF m 45 #[.val (.int i0), .val (.int ch), .val (.int ch), .val (.int (0 : Int32))] [(.int ch)])) rfl (by rw [hml]; rfl) (argsL := [(.int ch)]) (rest := []) (lenOf pd_1 rfl) rfl (by show 2 * 0 + _ ≤ _; exact Nat.le_of_eq rfl) (hb hby at_45) (fun _ _ => ⟨rfl, e0, (Nat.le_of_ble_eq_true rfl), (Nat.le_of_ble_eq_true rfl)⟩)
          dsimp only [Pt.U, Pt.locs, Pt.cells, Pt.slots] at X3 l3 y3 z3 st3 hQ3
          subst l3 y3 z3
          obtain ⟨rfl, N3q, e3⟩ := hQ3
          have Nf := Fr.app Nf N3q
          refine own_go (fun t k => st3 t k) ?_
          show own_End p e below _ (T3.setTop (mkF m 48 #[.val (.int i0), .val (.int ch), .val (.int ch), .val (.int (0 : Int32))] [(.int (own_plain ch))]))
          refine own_go (fun t k => XS.iloadN X3.here hx rfl (hb hby at_48) rfl k) ?_
          show own_End p e below _ (T3.setTop (mkF m 49 #[.val (.int i0), .val (.int ch), .val (.int ch), .val (.int (0 : Int32))] [(.int (0 : Int32)), (.int (own_plain ch))]))
          refine own_go (fun t k => XS.icmpNo X3.here hx rfl (hb hby at_49) rfl (teq (own_no ch (by omega))).2 k) ?_
          show own_End p e below _ (T3.setTop (mkF m 52 #[.val (.int i0), .val (.int ch), .val (.int ch), .val (.int (0 : Int32))] []))
          refine own_go (fun t k => XS.iconst X3.here hx rfl (hb hby at_52) k) ?_
          show own_End p e below _ (T3.setTop (mkF m 53 #[.val (.int i0), .val (.int ch), .val (.int ch), .val (.int (0 : Int32))] [(.int (1 : Int32))]))
          refine own_go (fun t k => XS.goto X3.here hx rfl (pc0 := 53) (pc' := 57) rfl (hb hby at_53) (by decide) (by decide) k) ?_
          show own_End p e below _ (T3.setTop (mkF m 57 #[.val (.int i0), .val (.int ch), .val (.int ch), .val (.int (0 : Int32))] [(.int (1 : Int32))]))
          obtain ⟨fs, hr, hrun, hended, hW, hsame⟩ := X3.leave (v := some (.int (1 : Int32))) (fun h => by rw [Bd.returns] at h; cases h)
          refine ⟨_, _, (retN X3 hx (t := .boolean) Bd.returns (by simp) (hb hby at_57) hr), hrun, hended, _, _, rfl, ?_, ⟨_, rfl⟩, hW, hsame.mono (by decide) (by decide)⟩
          show Q0 Z i0 h0 n0 _ T3.heap _
          rw [e3]
          exact ⟨rfl, Nf⟩
        ·
          refine own_go (fun t k => XS.icmpNo X0.here hx rfl (hb hby at_35) rfl (flt hc35).1 k) ?_
          show own_End p e below _ (s₁.setTop (mkF m 38 #[.val (.int i0), .val (.int ch), .val (.int ch), .unset] []))
          refine own_go (fun t k => XS.iconst X0.here hx rfl (hb hby at_38) k) ?_
          show own_End p e below _ (s₁.setTop (mkF m 39 #[.val (.int i0), .val (.int ch), .val (.int ch), .unset] [(.int (1 : Int32))]))
          refine own_go (fun t k => XS.goto X0.here hx rfl (pc0 := 39) (pc' := 43) rfl (hb hby at_39) (by decide) (by decide) k) ?_
          show own_End p e below _ (s₁.setTop (mkF m 43 #[.val (.int i0), .val (.int ch), .val (.int ch), .unset] [(.int (1 : Int32))]))
          refine own_go (fun t k => XS.istoreN X0.here hx rfl (hb hby at_43) rfl (l' := #[.val (.int i0), .val (.int ch), .val (.int ch), .val (.int (1 : Int32))]) rfl k) ?_
          show own_End p e below _ (s₁.setTop (mkF m 44 #[.val (.int i0), .val (.int ch), .val (.int ch), .val (.int (1 : Int32))] []))
          refine own_go (fun t k => XS.iloadN X0.here hx rfl (hb hby at_44) rfl k) ?_
          show own_End p e below _ (s₁.setTop (mkF m 45 #[.val (.int i0), .val (.int ch), .val (.int ch), .val (.int (1 : Int32))] [(.int ch)]))
          have q11 := own_lt hc11 (by decide : (32 : Int32).toInt = 32)
          have q23 := own_nlt hc23 (by decide : (35 : Int32).toInt = 35)
          have q29 := own_gt hc29 (by decide : (91 : Int32).toInt = 91)
          have q35 := own_nlt hc35 (by decide : (93 : Int32).toInt = 93)
          obtain ⟨_, _, ⟨T4, L4, k4, n4⟩, -, X4, ⟨Lc4, hQ4, l4, y4, z4⟩, st4⟩ := Jvm.LawKit.callS X0 hx (y := (⟨"com/example/tasks_to_slots/taskstoslots/io/JsonString", "isPlain", "(C)Z"⟩ : MethodName)) hown (mvT hZ (hw _ (List.mem_of_getElem? (i := 1) rfl))) (mvT hZ (hw _ (List.mem_of_getElem? (i := 2) rfl))) (mvT hZ (hw _ (List.mem_of_getElem? (i := 3) rfl))) (mvT hZ (hw _ (List.mem_of_getElem? (i := 4) rfl))) (by decide) (backOf (W := 0) (rm1 l Z a0 hw [] ch h0 n0 Zs ) hZ (hw _ (List.mem_of_getElem? (i := 4) rfl)) (hw _ (List.mem_of_getElem? (i := 3) rfl)) (by decide) (by decide)) (g := (mkF m 45 #[.val (.int i0), .val (.int ch), .val (.int ch), .val (.int (1 : Int32))] [(.int ch)])) rfl (by rw [hml]; rfl) (argsL := [(.int ch)]) (rest := []) (lenOf pd_1 rfl) rfl (by show 2 * 0 + _ ≤ _; exact Nat.le_of_eq rfl) (hb hby at_45) (fun _ _ => ⟨rfl, e0, (Nat.le_of_ble_eq_true rfl), (Nat.le_of_ble_eq_true rfl)⟩)
          dsimp only [Pt.U, Pt.locs, Pt.cells, Pt.slots] at X4 l4 y4 z4 st4 hQ4
          subst l4 y4 z4
          obtain ⟨rfl, N4q, e4⟩ := hQ4
          have Nf := Fr.app Nf N4q
          refine own_go (fun t k => st4 t k) ?_
          show own_End p e below _ (T4.setTop (mkF m 48 #[.val (.int i0), .val (.int ch), .val (.int ch), .val (.int (1 : Int32))] [(.int (own_plain ch))]))
          refine own_go (fun t k => XS.iloadN X4.here hx rfl (hb hby at_48) rfl k) ?_
          show own_End p e below _ (T4.setTop (mkF m 49 #[.val (.int i0), .val (.int ch), .val (.int ch), .val (.int (1 : Int32))] [(.int (1 : Int32)), (.int (own_plain ch))]))
          refine own_go (fun t k => XS.icmpNo X4.here hx rfl (hb hby at_49) rfl (teq (own_yes ch (by omega))).2 k) ?_
          show own_End p e below _ (T4.setTop (mkF m 52 #[.val (.int i0), .val (.int ch), .val (.int ch), .val (.int (1 : Int32))] []))
          refine own_go (fun t k => XS.iconst X4.here hx rfl (hb hby at_52) k) ?_
          show own_End p e below _ (T4.setTop (mkF m 53 #[.val (.int i0), .val (.int ch), .val (.int ch), .val (.int (1 : Int32))] [(.int (1 : Int32))]))
          refine own_go (fun t k => XS.goto X4.here hx rfl (pc0 := 53) (pc' := 57) rfl (hb hby at_53) (by decide) (by decide) k) ?_
          show own_End p e below _ (T4.setTop (mkF m 57 #[.val (.int i0), .val (.int ch), .val (.int ch), .val (.int (1 : Int32))] [(.int (1 : Int32))]))
          obtain ⟨fs, hr, hrun, hended, hW, hsame⟩ := X4.leave (v := some (.int (1 : Int32))) (fun h => by rw [Bd.returns] at h; cases h)
          refine ⟨_, _, (retN X4 hx (t := .boolean) Bd.returns (by simp) (hb hby at_57) hr), hrun, hended, _, _, rfl, ?_, ⟨_, rfl⟩, hW, hsame.mono (by decide) (by decide)⟩
          show Q0 Z i0 h0 n0 _ T4.heap _
          rw [e4]
          exact ⟨rfl, Nf⟩
      ·
        refine own_go (fun t k => XS.icmpYes X0.here hx rfl (pc0 := 29) (pc' := 38) rfl (hb hby at_29) rfl (flt hc29).2.2.2 (by decide) (by decide) k) ?_
        show own_End p e below _ (s₁.setTop (mkF m 38 #[.val (.int i0), .val (.int ch), .val (.int ch), .unset] []))
        refine own_go (fun t k => XS.iconst X0.here hx rfl (hb hby at_38) k) ?_
        show own_End p e below _ (s₁.setTop (mkF m 39 #[.val (.int i0), .val (.int ch), .val (.int ch), .unset] [(.int (1 : Int32))]))
        refine own_go (fun t k => XS.goto X0.here hx rfl (pc0 := 39) (pc' := 43) rfl (hb hby at_39) (by decide) (by decide) k) ?_
        show own_End p e below _ (s₁.setTop (mkF m 43 #[.val (.int i0), .val (.int ch), .val (.int ch), .unset] [(.int (1 : Int32))]))
        refine own_go (fun t k => XS.istoreN X0.here hx rfl (hb hby at_43) rfl (l' := #[.val (.int i0), .val (.int ch), .val (.int ch), .val (.int (1 : Int32))]) rfl k) ?_
        show own_End p e below _ (s₁.setTop (mkF m 44 #[.val (.int i0), .val (.int ch), .val (.int ch), .val (.int (1 : Int32))] []))
        refine own_go (fun t k => XS.iloadN X0.here hx rfl (hb hby at_44) rfl k) ?_
        show own_End p e below _ (s₁.setTop (mkF m 45 #[.val (.int i0), .val (.int ch), .val (.int ch), .val (.int (1 : Int32))] [(.int ch)]))
        have q11 := own_lt hc11 (by decide : (32 : Int32).toInt = 32)
        have q23 := own_nlt hc23 (by decide : (35 : Int32).toInt = 35)
        have q29 := own_ngt hc29 (by decide : (91 : Int32).toInt = 91)
        obtain ⟨_, _, ⟨T5, L5, k5, n5⟩, -, X5, ⟨Lc5, hQ5, l5, y5, z5⟩, st5⟩ := Jvm.LawKit.callS X0 hx (y := (⟨"com/example/tasks_to_slots/taskstoslots/io/JsonString", "isPlain", "(C)Z"⟩ : MethodName)) hown (mvT hZ (hw _ (List.mem_of_getElem? (i := 1) rfl))) (mvT hZ (hw _ (List.mem_of_getElem? (i := 2) rfl))) (mvT hZ (hw _ (List.mem_of_getElem? (i := 3) rfl))) (mvT hZ (hw _ (List.mem_of_getElem? (i := 4) rfl))) (by decide) (backOf (W := 0) (rm1 l Z a0 hw [] ch h0 n0 Zs ) hZ (hw _ (List.mem_of_getElem? (i := 4) rfl)) (hw _ (List.mem_of_getElem? (i := 3) rfl)) (by decide) (by decide)) (g := (mkF m 45 #[.val (.int i0), .val (.int ch), .val (.int ch), .val (.int (1 : Int32))] [(.int ch)])) rfl (by rw [hml]; rfl) (argsL := [(.int ch)]) (rest := []) (lenOf pd_1 rfl) rfl (by show 2 * 0 + _ ≤ _; exact Nat.le_of_eq rfl) (hb hby at_45) (fun _ _ => ⟨rfl, e0, (Nat.le_of_ble_eq_true rfl), (Nat.le_of_ble_eq_true rfl)⟩)
        dsimp only [Pt.U, Pt.locs, Pt.cells, Pt.slots] at X5 l5 y5 z5 st5 hQ5
        subst l5 y5 z5
        obtain ⟨rfl, N5q, e5⟩ := hQ5
        have Nf := Fr.app Nf N5q
        refine own_go (fun t k => st5 t k) ?_
        show own_End p e below _ (T5.setTop (mkF m 48 #[.val (.int i0), .val (.int ch), .val (.int ch), .val (.int (1 : Int32))] [(.int (own_plain ch))]))
        refine own_go (fun t k => XS.iloadN X5.here hx rfl (hb hby at_48) rfl k) ?_
        show own_End p e below _ (T5.setTop (mkF m 49 #[.val (.int i0), .val (.int ch), .val (.int ch), .val (.int (1 : Int32))] [(.int (1 : Int32)), (.int (own_plain ch))]))
        refine own_go (fun t k => XS.icmpNo X5.here hx rfl (hb hby at_49) rfl (teq (own_yes ch (by omega))).2 k) ?_
        show own_End p e below _ (T5.setTop (mkF m 52 #[.val (.int i0), .val (.int ch), .val (.int ch), .val (.int (1 : Int32))] []))
        refine own_go (fun t k => XS.iconst X5.here hx rfl (hb hby at_52) k) ?_
        show own_End p e below _ (T5.setTop (mkF m 53 #[.val (.int i0), .val (.int ch), .val (.int ch), .val (.int (1 : Int32))] [(.int (1 : Int32))]))
        refine own_go (fun t k => XS.goto X5.here hx rfl (pc0 := 53) (pc' := 57) rfl (hb hby at_53) (by decide) (by decide) k) ?_
        show own_End p e below _ (T5.setTop (mkF m 57 #[.val (.int i0), .val (.int ch), .val (.int ch), .val (.int (1 : Int32))] [(.int (1 : Int32))]))
        obtain ⟨fs, hr, hrun, hended, hW, hsame⟩ := X5.leave (v := some (.int (1 : Int32))) (fun h => by rw [Bd.returns] at h; cases h)
        refine ⟨_, _, (retN X5 hx (t := .boolean) Bd.returns (by simp) (hb hby at_57) hr), hrun, hended, _, _, rfl, ?_, ⟨_, rfl⟩, hW, hsame.mono (by decide) (by decide)⟩
        show Q0 Z i0 h0 n0 _ T5.heap _
        rw [e5]
        exact ⟨rfl, Nf⟩
  ·
    refine own_go (fun t k => XS.icmpNo X0.here hx rfl (hb hby at_11) rfl (flt hc11).1 k) ?_
    show own_End p e below _ (s₁.setTop (mkF m 14 #[.val (.int i0), .val (.int ch), .val (.int ch), .unset] []))
    refine own_go (fun t k => XS.iloadN X0.here hx rfl (hb hby at_14) rfl k) ?_
    show own_End p e below _ (s₁.setTop (mkF m 15 #[.val (.int i0), .val (.int ch), .val (.int ch), .unset] [(.int ch)]))
    refine own_go (fun t k => XS.bipush X0.here hx rfl (hb hby at_15) k) ?_
    show own_End p e below _ (s₁.setTop (mkF m 17 #[.val (.int i0), .val (.int ch), .val (.int ch), .unset] [(.int (33 : Int32)), (.int ch)]))
    by_cases hc17 : (33 : Int32) < ch
    ·
      refine own_go (fun t k => XS.icmpNo X0.here hx rfl (hb hby at_17) rfl (tlt hc17).2.2.2 k) ?_
      show own_End p e below _ (s₁.setTop (mkF m 20 #[.val (.int i0), .val (.int ch), .val (.int ch), .unset] []))
      refine own_go (fun t k => XS.iloadN X0.here hx rfl (hb hby at_20) rfl k) ?_
      show own_End p e below _ (s₁.setTop (mkF m 21 #[.val (.int i0), .val (.int ch), .val (.int ch), .unset] [(.int ch)]))
      refine own_go (fun t k => XS.bipush X0.here hx rfl (hb hby at_21) k) ?_
      show own_End p e below _ (s₁.setTop (mkF m 23 #[.val (.int i0), .val (.int ch), .val (.int ch), .unset] [(.int (35 : Int32)), (.int ch)]))
      by_cases hc23 : ch < (35 : Int32)
      ·
        refine own_go (fun t k => XS.icmpYes X0.here hx rfl (pc0 := 23) (pc' := 32) rfl (hb hby at_23) rfl (tlt hc23).1 (by decide) (by decide) k) ?_
        show own_End p e below _ (s₁.setTop (mkF m 32 #[.val (.int i0), .val (.int ch), .val (.int ch), .unset] []))
        refine own_go (fun t k => XS.iloadN X0.here hx rfl (hb hby at_32) rfl k) ?_
        show own_End p e below _ (s₁.setTop (mkF m 33 #[.val (.int i0), .val (.int ch), .val (.int ch), .unset] [(.int ch)]))
        refine own_go (fun t k => XS.bipush X0.here hx rfl (hb hby at_33) k) ?_
        show own_End p e below _ (s₁.setTop (mkF m 35 #[.val (.int i0), .val (.int ch), .val (.int ch), .unset] [(.int (93 : Int32)), (.int ch)]))
        by_cases hc35 : ch < (93 : Int32)
        ·
          refine own_go (fun t k => XS.icmpYes X0.here hx rfl (pc0 := 35) (pc' := 42) rfl (hb hby at_35) rfl (tlt hc35).1 (by decide) (by decide) k) ?_
          show own_End p e below _ (s₁.setTop (mkF m 42 #[.val (.int i0), .val (.int ch), .val (.int ch), .unset] []))
          refine own_go (fun t k => XS.iconst X0.here hx rfl (hb hby at_42) k) ?_
          show own_End p e below _ (s₁.setTop (mkF m 43 #[.val (.int i0), .val (.int ch), .val (.int ch), .unset] [(.int (0 : Int32))]))
          refine own_go (fun t k => XS.istoreN X0.here hx rfl (hb hby at_43) rfl (l' := #[.val (.int i0), .val (.int ch), .val (.int ch), .val (.int (0 : Int32))]) rfl k) ?_
          show own_End p e below _ (s₁.setTop (mkF m 44 #[.val (.int i0), .val (.int ch), .val (.int ch), .val (.int (0 : Int32))] []))
          refine own_go (fun t k => XS.iloadN X0.here hx rfl (hb hby at_44) rfl k) ?_
          show own_End p e below _ (s₁.setTop (mkF m 45 #[.val (.int i0), .val (.int ch), .val (.int ch), .val (.int (0 : Int32))] [(.int ch)]))
          have q11 := own_nlt hc11 (by decide : (32 : Int32).toInt = 32)
          have q17 := own_gt hc17 (by decide : (33 : Int32).toInt = 33)
          have q23 := own_lt hc23 (by decide : (35 : Int32).toInt = 35)
          have q35 := own_lt hc35 (by decide : (93 : Int32).toInt = 93)
          obtain ⟨_, _, ⟨T6, L6, k6, n6⟩, -, X6, ⟨Lc6, hQ6, l6, y6, z6⟩, st6⟩ := Jvm.LawKit.callS X0 hx (y := (⟨"com/example/tasks_to_slots/taskstoslots/io/JsonString", "isPlain", "(C)Z"⟩ : MethodName)) hown (mvT hZ (hw _ (List.mem_of_getElem? (i := 1) rfl))) (mvT hZ (hw _ (List.mem_of_getElem? (i := 2) rfl))) (mvT hZ (hw _ (List.mem_of_getElem? (i := 3) rfl))) (mvT hZ (hw _ (List.mem_of_getElem? (i := 4) rfl))) (by decide) (backOf (W := 0) (rm1 l Z a0 hw [] ch h0 n0 Zs ) hZ (hw _ (List.mem_of_getElem? (i := 4) rfl)) (hw _ (List.mem_of_getElem? (i := 3) rfl)) (by decide) (by decide)) (g := (mkF m 45 #[.val (.int i0), .val (.int ch), .val (.int ch), .val (.int (0 : Int32))] [(.int ch)])) rfl (by rw [hml]; rfl) (argsL := [(.int ch)]) (rest := []) (lenOf pd_1 rfl) rfl (by show 2 * 0 + _ ≤ _; exact Nat.le_of_eq rfl) (hb hby at_45) (fun _ _ => ⟨rfl, e0, (Nat.le_of_ble_eq_true rfl), (Nat.le_of_ble_eq_true rfl)⟩)
          dsimp only [Pt.U, Pt.locs, Pt.cells, Pt.slots] at X6 l6 y6 z6 st6 hQ6
          subst l6 y6 z6
          obtain ⟨rfl, N6q, e6⟩ := hQ6
          have Nf := Fr.app Nf N6q
          refine own_go (fun t k => st6 t k) ?_
          show own_End p e below _ (T6.setTop (mkF m 48 #[.val (.int i0), .val (.int ch), .val (.int ch), .val (.int (0 : Int32))] [(.int (own_plain ch))]))
          refine own_go (fun t k => XS.iloadN X6.here hx rfl (hb hby at_48) rfl k) ?_
          show own_End p e below _ (T6.setTop (mkF m 49 #[.val (.int i0), .val (.int ch), .val (.int ch), .val (.int (0 : Int32))] [(.int (0 : Int32)), (.int (own_plain ch))]))
          refine own_go (fun t k => XS.icmpNo X6.here hx rfl (hb hby at_49) rfl (teq (own_no ch (by omega))).2 k) ?_
          show own_End p e below _ (T6.setTop (mkF m 52 #[.val (.int i0), .val (.int ch), .val (.int ch), .val (.int (0 : Int32))] []))
          refine own_go (fun t k => XS.iconst X6.here hx rfl (hb hby at_52) k) ?_
          show own_End p e below _ (T6.setTop (mkF m 53 #[.val (.int i0), .val (.int ch), .val (.int ch), .val (.int (0 : Int32))] [(.int (1 : Int32))]))
          refine own_go (fun t k => XS.goto X6.here hx rfl (pc0 := 53) (pc' := 57) rfl (hb hby at_53) (by decide) (by decide) k) ?_
          show own_End p e below _ (T6.setTop (mkF m 57 #[.val (.int i0), .val (.int ch), .val (.int ch), .val (.int (0 : Int32))] [(.int (1 : Int32))]))
          obtain ⟨fs, hr, hrun, hended, hW, hsame⟩ := X6.leave (v := some (.int (1 : Int32))) (fun h => by rw [Bd.returns] at h; cases h)
          refine ⟨_, _, (retN X6 hx (t := .boolean) Bd.returns (by simp) (hb hby at_57) hr), hrun, hended, _, _, rfl, ?_, ⟨_, rfl⟩, hW, hsame.mono (by decide) (by decide)⟩
          show Q0 Z i0 h0 n0 _ T6.heap _
          rw [e6]
          exact ⟨rfl, Nf⟩
        ·
          refine own_go (fun t k => XS.icmpNo X0.here hx rfl (hb hby at_35) rfl (flt hc35).1 k) ?_
          show own_End p e below _ (s₁.setTop (mkF m 38 #[.val (.int i0), .val (.int ch), .val (.int ch), .unset] []))
          refine own_go (fun t k => XS.iconst X0.here hx rfl (hb hby at_38) k) ?_
          show own_End p e below _ (s₁.setTop (mkF m 39 #[.val (.int i0), .val (.int ch), .val (.int ch), .unset] [(.int (1 : Int32))]))
          refine own_go (fun t k => XS.goto X0.here hx rfl (pc0 := 39) (pc' := 43) rfl (hb hby at_39) (by decide) (by decide) k) ?_
          show own_End p e below _ (s₁.setTop (mkF m 43 #[.val (.int i0), .val (.int ch), .val (.int ch), .unset] [(.int (1 : Int32))]))
          refine own_go (fun t k => XS.istoreN X0.here hx rfl (hb hby at_43) rfl (l' := #[.val (.int i0), .val (.int ch), .val (.int ch), .val (.int (1 : Int32))]) rfl k) ?_
          show own_End p e below _ (s₁.setTop (mkF m 44 #[.val (.int i0), .val (.int ch), .val (.int ch), .val (.int (1 : Int32))] []))
          refine own_go (fun t k => XS.iloadN X0.here hx rfl (hb hby at_44) rfl k) ?_
          show own_End p e below _ (s₁.setTop (mkF m 45 #[.val (.int i0), .val (.int ch), .val (.int ch), .val (.int (1 : Int32))] [(.int ch)]))
          have q11 := own_nlt hc11 (by decide : (32 : Int32).toInt = 32)
          have q17 := own_gt hc17 (by decide : (33 : Int32).toInt = 33)
          have q23 := own_lt hc23 (by decide : (35 : Int32).toInt = 35)
          have q35 := own_nlt hc35 (by decide : (93 : Int32).toInt = 93)
          obtain ⟨_, _, ⟨T7, L7, k7, n7⟩, -, X7, ⟨Lc7, hQ7, l7, y7, z7⟩, st7⟩ := Jvm.LawKit.callS X0 hx (y := (⟨"com/example/tasks_to_slots/taskstoslots/io/JsonString", "isPlain", "(C)Z"⟩ : MethodName)) hown (mvT hZ (hw _ (List.mem_of_getElem? (i := 1) rfl))) (mvT hZ (hw _ (List.mem_of_getElem? (i := 2) rfl))) (mvT hZ (hw _ (List.mem_of_getElem? (i := 3) rfl))) (mvT hZ (hw _ (List.mem_of_getElem? (i := 4) rfl))) (by decide) (backOf (W := 0) (rm1 l Z a0 hw [] ch h0 n0 Zs ) hZ (hw _ (List.mem_of_getElem? (i := 4) rfl)) (hw _ (List.mem_of_getElem? (i := 3) rfl)) (by decide) (by decide)) (g := (mkF m 45 #[.val (.int i0), .val (.int ch), .val (.int ch), .val (.int (1 : Int32))] [(.int ch)])) rfl (by rw [hml]; rfl) (argsL := [(.int ch)]) (rest := []) (lenOf pd_1 rfl) rfl (by show 2 * 0 + _ ≤ _; exact Nat.le_of_eq rfl) (hb hby at_45) (fun _ _ => ⟨rfl, e0, (Nat.le_of_ble_eq_true rfl), (Nat.le_of_ble_eq_true rfl)⟩)
          dsimp only [Pt.U, Pt.locs, Pt.cells, Pt.slots] at X7 l7 y7 z7 st7 hQ7
          subst l7 y7 z7
          obtain ⟨rfl, N7q, e7⟩ := hQ7
          have Nf := Fr.app Nf N7q
          refine own_go (fun t k => st7 t k) ?_
          show own_End p e below _ (T7.setTop (mkF m 48 #[.val (.int i0), .val (.int ch), .val (.int ch), .val (.int (1 : Int32))] [(.int (own_plain ch))]))
          refine own_go (fun t k => XS.iloadN X7.here hx rfl (hb hby at_48) rfl k) ?_
          show own_End p e below _ (T7.setTop (mkF m 49 #[.val (.int i0), .val (.int ch), .val (.int ch), .val (.int (1 : Int32))] [(.int (1 : Int32)), (.int (own_plain ch))]))
          refine own_go (fun t k => XS.icmpNo X7.here hx rfl (hb hby at_49) rfl (teq (own_yes ch (by omega))).2 k) ?_
          show own_End p e below _ (T7.setTop (mkF m 52 #[.val (.int i0), .val (.int ch), .val (.int ch), .val (.int (1 : Int32))] []))
          refine own_go (fun t k => XS.iconst X7.here hx rfl (hb hby at_52) k) ?_
          show own_End p e below _ (T7.setTop (mkF m 53 #[.val (.int i0), .val (.int ch), .val (.int ch), .val (.int (1 : Int32))] [(.int (1 : Int32))]))
          refine own_go (fun t k => XS.goto X7.here hx rfl (pc0 := 53) (pc' := 57) rfl (hb hby at_53) (by decide) (by decide) k) ?_
          show own_End p e below _ (T7.setTop (mkF m 57 #[.val (.int i0), .val (.int ch), .val (.int ch), .val (.int (1 : Int32))] [(.int (1 : Int32))]))
          obtain ⟨fs, hr, hrun, hended, hW, hsame⟩ := X7.leave (v := some (.int (1 : Int32))) (fun h => by rw [Bd.returns] at h; cases h)
          refine ⟨_, _, (retN X7 hx (t := .boolean) Bd.returns (by simp) (hb hby at_57) hr), hrun, hended, _, _, rfl, ?_, ⟨_, rfl⟩, hW, hsame.mono (by decide) (by decide)⟩
          show Q0 Z i0 h0 n0 _ T7.heap _
          rw [e7]
          exact ⟨rfl, Nf⟩
      ·
        refine own_go (fun t k => XS.icmpNo X0.here hx rfl (hb hby at_23) rfl (flt hc23).1 k) ?_
        show own_End p e below _ (s₁.setTop (mkF m 26 #[.val (.int i0), .val (.int ch), .val (.int ch), .unset] []))
        refine own_go (fun t k => XS.iloadN X0.here hx rfl (hb hby at_26) rfl k) ?_
        show own_End p e below _ (s₁.setTop (mkF m 27 #[.val (.int i0), .val (.int ch), .val (.int ch), .unset] [(.int ch)]))
        refine own_go (fun t k => XS.bipush X0.here hx rfl (hb hby at_27) k) ?_
        show own_End p e below _ (s₁.setTop (mkF m 29 #[.val (.int i0), .val (.int ch), .val (.int ch), .unset] [(.int (91 : Int32)), (.int ch)]))
        by_cases hc29 : (91 : Int32) < ch
        ·
          refine own_go (fun t k => XS.icmpNo X0.here hx rfl (hb hby at_29) rfl (tlt hc29).2.2.2 k) ?_
          show own_End p e below _ (s₁.setTop (mkF m 32 #[.val (.int i0), .val (.int ch), .val (.int ch), .unset] []))
          refine own_go (fun t k => XS.iloadN X0.here hx rfl (hb hby at_32) rfl k) ?_
          show own_End p e below _ (s₁.setTop (mkF m 33 #[.val (.int i0), .val (.int ch), .val (.int ch), .unset] [(.int ch)]))
          refine own_go (fun t k => XS.bipush X0.here hx rfl (hb hby at_33) k) ?_
          show own_End p e below _ (s₁.setTop (mkF m 35 #[.val (.int i0), .val (.int ch), .val (.int ch), .unset] [(.int (93 : Int32)), (.int ch)]))
          by_cases hc35 : ch < (93 : Int32)
          ·
            refine own_go (fun t k => XS.icmpYes X0.here hx rfl (pc0 := 35) (pc' := 42) rfl (hb hby at_35) rfl (tlt hc35).1 (by decide) (by decide) k) ?_
            show own_End p e below _ (s₁.setTop (mkF m 42 #[.val (.int i0), .val (.int ch), .val (.int ch), .unset] []))
            refine own_go (fun t k => XS.iconst X0.here hx rfl (hb hby at_42) k) ?_
            show own_End p e below _ (s₁.setTop (mkF m 43 #[.val (.int i0), .val (.int ch), .val (.int ch), .unset] [(.int (0 : Int32))]))
            refine own_go (fun t k => XS.istoreN X0.here hx rfl (hb hby at_43) rfl (l' := #[.val (.int i0), .val (.int ch), .val (.int ch), .val (.int (0 : Int32))]) rfl k) ?_
            show own_End p e below _ (s₁.setTop (mkF m 44 #[.val (.int i0), .val (.int ch), .val (.int ch), .val (.int (0 : Int32))] []))
            refine own_go (fun t k => XS.iloadN X0.here hx rfl (hb hby at_44) rfl k) ?_
            show own_End p e below _ (s₁.setTop (mkF m 45 #[.val (.int i0), .val (.int ch), .val (.int ch), .val (.int (0 : Int32))] [(.int ch)]))
            have q11 := own_nlt hc11 (by decide : (32 : Int32).toInt = 32)
            have q17 := own_gt hc17 (by decide : (33 : Int32).toInt = 33)
            have q23 := own_nlt hc23 (by decide : (35 : Int32).toInt = 35)
            have q29 := own_gt hc29 (by decide : (91 : Int32).toInt = 91)
            have q35 := own_lt hc35 (by decide : (93 : Int32).toInt = 93)
            obtain ⟨_, _, ⟨T8, L8, k8, n8⟩, -, X8, ⟨Lc8, hQ8, l8, y8, z8⟩, st8⟩ := Jvm.LawKit.callS X0 hx (y := (⟨"com/example/tasks_to_slots/taskstoslots/io/JsonString", "isPlain", "(C)Z"⟩ : MethodName)) hown (mvT hZ (hw _ (List.mem_of_getElem? (i := 1) rfl))) (mvT hZ (hw _ (List.mem_of_getElem? (i := 2) rfl))) (mvT hZ (hw _ (List.mem_of_getElem? (i := 3) rfl))) (mvT hZ (hw _ (List.mem_of_getElem? (i := 4) rfl))) (by decide) (backOf (W := 0) (rm1 l Z a0 hw [] ch h0 n0 Zs ) hZ (hw _ (List.mem_of_getElem? (i := 4) rfl)) (hw _ (List.mem_of_getElem? (i := 3) rfl)) (by decide) (by decide)) (g := (mkF m 45 #[.val (.int i0), .val (.int ch), .val (.int ch), .val (.int (0 : Int32))] [(.int ch)])) rfl (by rw [hml]; rfl) (argsL := [(.int ch)]) (rest := []) (lenOf pd_1 rfl) rfl (by show 2 * 0 + _ ≤ _; exact Nat.le_of_eq rfl) (hb hby at_45) (fun _ _ => ⟨rfl, e0, (Nat.le_of_ble_eq_true rfl), (Nat.le_of_ble_eq_true rfl)⟩)
            dsimp only [Pt.U, Pt.locs, Pt.cells, Pt.slots] at X8 l8 y8 z8 st8 hQ8
            subst l8 y8 z8
            obtain ⟨rfl, N8q, e8⟩ := hQ8
            have Nf := Fr.app Nf N8q
            refine own_go (fun t k => st8 t k) ?_
            show own_End p e below _ (T8.setTop (mkF m 48 #[.val (.int i0), .val (.int ch), .val (.int ch), .val (.int (0 : Int32))] [(.int (own_plain ch))]))
            refine own_go (fun t k => XS.iloadN X8.here hx rfl (hb hby at_48) rfl k) ?_
            show own_End p e below _ (T8.setTop (mkF m 49 #[.val (.int i0), .val (.int ch), .val (.int ch), .val (.int (0 : Int32))] [(.int (0 : Int32)), (.int (own_plain ch))]))
            refine own_go (fun t k => XS.icmpNo X8.here hx rfl (hb hby at_49) rfl (teq (own_no ch (by omega))).2 k) ?_
            show own_End p e below _ (T8.setTop (mkF m 52 #[.val (.int i0), .val (.int ch), .val (.int ch), .val (.int (0 : Int32))] []))
            refine own_go (fun t k => XS.iconst X8.here hx rfl (hb hby at_52) k) ?_
            show own_End p e below _ (T8.setTop (mkF m 53 #[.val (.int i0), .val (.int ch), .val (.int ch), .val (.int (0 : Int32))] [(.int (1 : Int32))]))
            refine own_go (fun t k => XS.goto X8.here hx rfl (pc0 := 53) (pc' := 57) rfl (hb hby at_53) (by decide) (by decide) k) ?_
            show own_End p e below _ (T8.setTop (mkF m 57 #[.val (.int i0), .val (.int ch), .val (.int ch), .val (.int (0 : Int32))] [(.int (1 : Int32))]))
            obtain ⟨fs, hr, hrun, hended, hW, hsame⟩ := X8.leave (v := some (.int (1 : Int32))) (fun h => by rw [Bd.returns] at h; cases h)
            refine ⟨_, _, (retN X8 hx (t := .boolean) Bd.returns (by simp) (hb hby at_57) hr), hrun, hended, _, _, rfl, ?_, ⟨_, rfl⟩, hW, hsame.mono (by decide) (by decide)⟩
            show Q0 Z i0 h0 n0 _ T8.heap _
            rw [e8]
            exact ⟨rfl, Nf⟩
          ·
            refine own_go (fun t k => XS.icmpNo X0.here hx rfl (hb hby at_35) rfl (flt hc35).1 k) ?_
            show own_End p e below _ (s₁.setTop (mkF m 38 #[.val (.int i0), .val (.int ch), .val (.int ch), .unset] []))
            refine own_go (fun t k => XS.iconst X0.here hx rfl (hb hby at_38) k) ?_
            show own_End p e below _ (s₁.setTop (mkF m 39 #[.val (.int i0), .val (.int ch), .val (.int ch), .unset] [(.int (1 : Int32))]))
            refine own_go (fun t k => XS.goto X0.here hx rfl (pc0 := 39) (pc' := 43) rfl (hb hby at_39) (by decide) (by decide) k) ?_
            show own_End p e below _ (s₁.setTop (mkF m 43 #[.val (.int i0), .val (.int ch), .val (.int ch), .unset] [(.int (1 : Int32))]))
            refine own_go (fun t k => XS.istoreN X0.here hx rfl (hb hby at_43) rfl (l' := #[.val (.int i0), .val (.int ch), .val (.int ch), .val (.int (1 : Int32))]) rfl k) ?_
            show own_End p e below _ (s₁.setTop (mkF m 44 #[.val (.int i0), .val (.int ch), .val (.int ch), .val (.int (1 : Int32))] []))
            refine own_go (fun t k => XS.iloadN X0.here hx rfl (hb hby at_44) rfl k) ?_
            show own_End p e below _ (s₁.setTop (mkF m 45 #[.val (.int i0), .val (.int ch), .val (.int ch), .val (.int (1 : Int32))] [(.int ch)]))
            have q11 := own_nlt hc11 (by decide : (32 : Int32).toInt = 32)
            have q17 := own_gt hc17 (by decide : (33 : Int32).toInt = 33)
            have q23 := own_nlt hc23 (by decide : (35 : Int32).toInt = 35)
            have q29 := own_gt hc29 (by decide : (91 : Int32).toInt = 91)
            have q35 := own_nlt hc35 (by decide : (93 : Int32).toInt = 93)
            obtain ⟨_, _, ⟨T9, L9, k9, n9⟩, -, X9, ⟨Lc9, hQ9, l9, y9, z9⟩, st9⟩ := Jvm.LawKit.callS X0 hx (y := (⟨"com/example/tasks_to_slots/taskstoslots/io/JsonString", "isPlain", "(C)Z"⟩ : MethodName)) hown (mvT hZ (hw _ (List.mem_of_getElem? (i := 1) rfl))) (mvT hZ (hw _ (List.mem_of_getElem? (i := 2) rfl))) (mvT hZ (hw _ (List.mem_of_getElem? (i := 3) rfl))) (mvT hZ (hw _ (List.mem_of_getElem? (i := 4) rfl))) (by decide) (backOf (W := 0) (rm1 l Z a0 hw [] ch h0 n0 Zs ) hZ (hw _ (List.mem_of_getElem? (i := 4) rfl)) (hw _ (List.mem_of_getElem? (i := 3) rfl)) (by decide) (by decide)) (g := (mkF m 45 #[.val (.int i0), .val (.int ch), .val (.int ch), .val (.int (1 : Int32))] [(.int ch)])) rfl (by rw [hml]; rfl) (argsL := [(.int ch)]) (rest := []) (lenOf pd_1 rfl) rfl (by show 2 * 0 + _ ≤ _; exact Nat.le_of_eq rfl) (hb hby at_45) (fun _ _ => ⟨rfl, e0, (Nat.le_of_ble_eq_true rfl), (Nat.le_of_ble_eq_true rfl)⟩)
            dsimp only [Pt.U, Pt.locs, Pt.cells, Pt.slots] at X9 l9 y9 z9 st9 hQ9
            subst l9 y9 z9
            obtain ⟨rfl, N9q, e9⟩ := hQ9
            have Nf := Fr.app Nf N9q
            refine own_go (fun t k => st9 t k) ?_
            show own_End p e below _ (T9.setTop (mkF m 48 #[.val (.int i0), .val (.int ch), .val (.int ch), .val (.int (1 : Int32))] [(.int (own_plain ch))]))
            refine own_go (fun t k => XS.iloadN X9.here hx rfl (hb hby at_48) rfl k) ?_
            show own_End p e below _ (T9.setTop (mkF m 49 #[.val (.int i0), .val (.int ch), .val (.int ch), .val (.int (1 : Int32))] [(.int (1 : Int32)), (.int (own_plain ch))]))
            refine own_go (fun t k => XS.icmpNo X9.here hx rfl (hb hby at_49) rfl (teq (own_yes ch (by omega))).2 k) ?_
            show own_End p e below _ (T9.setTop (mkF m 52 #[.val (.int i0), .val (.int ch), .val (.int ch), .val (.int (1 : Int32))] []))
            refine own_go (fun t k => XS.iconst X9.here hx rfl (hb hby at_52) k) ?_
            show own_End p e below _ (T9.setTop (mkF m 53 #[.val (.int i0), .val (.int ch), .val (.int ch), .val (.int (1 : Int32))] [(.int (1 : Int32))]))
            refine own_go (fun t k => XS.goto X9.here hx rfl (pc0 := 53) (pc' := 57) rfl (hb hby at_53) (by decide) (by decide) k) ?_
            show own_End p e below _ (T9.setTop (mkF m 57 #[.val (.int i0), .val (.int ch), .val (.int ch), .val (.int (1 : Int32))] [(.int (1 : Int32))]))
            obtain ⟨fs, hr, hrun, hended, hW, hsame⟩ := X9.leave (v := some (.int (1 : Int32))) (fun h => by rw [Bd.returns] at h; cases h)
            refine ⟨_, _, (retN X9 hx (t := .boolean) Bd.returns (by simp) (hb hby at_57) hr), hrun, hended, _, _, rfl, ?_, ⟨_, rfl⟩, hW, hsame.mono (by decide) (by decide)⟩
            show Q0 Z i0 h0 n0 _ T9.heap _
            rw [e9]
            exact ⟨rfl, Nf⟩
        ·
          refine own_go (fun t k => XS.icmpYes X0.here hx rfl (pc0 := 29) (pc' := 38) rfl (hb hby at_29) rfl (flt hc29).2.2.2 (by decide) (by decide) k) ?_
          show own_End p e below _ (s₁.setTop (mkF m 38 #[.val (.int i0), .val (.int ch), .val (.int ch), .unset] []))
          refine own_go (fun t k => XS.iconst X0.here hx rfl (hb hby at_38) k) ?_
          show own_End p e below _ (s₁.setTop (mkF m 39 #[.val (.int i0), .val (.int ch), .val (.int ch), .unset] [(.int (1 : Int32))]))
          refine own_go (fun t k => XS.goto X0.here hx rfl (pc0 := 39) (pc' := 43) rfl (hb hby at_39) (by decide) (by decide) k) ?_
          show own_End p e below _ (s₁.setTop (mkF m 43 #[.val (.int i0), .val (.int ch), .val (.int ch), .unset] [(.int (1 : Int32))]))
          refine own_go (fun t k => XS.istoreN X0.here hx rfl (hb hby at_43) rfl (l' := #[.val (.int i0), .val (.int ch), .val (.int ch), .val (.int (1 : Int32))]) rfl k) ?_
          show own_End p e below _ (s₁.setTop (mkF m 44 #[.val (.int i0), .val (.int ch), .val (.int ch), .val (.int (1 : Int32))] []))
          refine own_go (fun t k => XS.iloadN X0.here hx rfl (hb hby at_44) rfl k) ?_
          show own_End p e below _ (s₁.setTop (mkF m 45 #[.val (.int i0), .val (.int ch), .val (.int ch), .val (.int (1 : Int32))] [(.int ch)]))
          have q11 := own_nlt hc11 (by decide : (32 : Int32).toInt = 32)
          have q17 := own_gt hc17 (by decide : (33 : Int32).toInt = 33)
          have q23 := own_nlt hc23 (by decide : (35 : Int32).toInt = 35)
          have q29 := own_ngt hc29 (by decide : (91 : Int32).toInt = 91)
          obtain ⟨_, _, ⟨T10, L10, k10, n10⟩, -, X10, ⟨Lc10, hQ10, l10, y10, z10⟩, st10⟩ := Jvm.LawKit.callS X0 hx (y := (⟨"com/example/tasks_to_slots/taskstoslots/io/JsonString", "isPlain", "(C)Z"⟩ : MethodName)) hown (mvT hZ (hw _ (List.mem_of_getElem? (i := 1) rfl))) (mvT hZ (hw _ (List.mem_of_getElem? (i := 2) rfl))) (mvT hZ (hw _ (List.mem_of_getElem? (i := 3) rfl))) (mvT hZ (hw _ (List.mem_of_getElem? (i := 4) rfl))) (by decide) (backOf (W := 0) (rm1 l Z a0 hw [] ch h0 n0 Zs ) hZ (hw _ (List.mem_of_getElem? (i := 4) rfl)) (hw _ (List.mem_of_getElem? (i := 3) rfl)) (by decide) (by decide)) (g := (mkF m 45 #[.val (.int i0), .val (.int ch), .val (.int ch), .val (.int (1 : Int32))] [(.int ch)])) rfl (by rw [hml]; rfl) (argsL := [(.int ch)]) (rest := []) (lenOf pd_1 rfl) rfl (by show 2 * 0 + _ ≤ _; exact Nat.le_of_eq rfl) (hb hby at_45) (fun _ _ => ⟨rfl, e0, (Nat.le_of_ble_eq_true rfl), (Nat.le_of_ble_eq_true rfl)⟩)
          dsimp only [Pt.U, Pt.locs, Pt.cells, Pt.slots] at X10 l10 y10 z10 st10 hQ10
          subst l10 y10 z10
          obtain ⟨rfl, N10q, e10⟩ := hQ10
          have Nf := Fr.app Nf N10q
          refine own_go (fun t k => st10 t k) ?_
          show own_End p e below _ (T10.setTop (mkF m 48 #[.val (.int i0), .val (.int ch), .val (.int ch), .val (.int (1 : Int32))] [(.int (own_plain ch))]))
          refine own_go (fun t k => XS.iloadN X10.here hx rfl (hb hby at_48) rfl k) ?_
          show own_End p e below _ (T10.setTop (mkF m 49 #[.val (.int i0), .val (.int ch), .val (.int ch), .val (.int (1 : Int32))] [(.int (1 : Int32)), (.int (own_plain ch))]))
          refine own_go (fun t k => XS.icmpNo X10.here hx rfl (hb hby at_49) rfl (teq (own_yes ch (by omega))).2 k) ?_
          show own_End p e below _ (T10.setTop (mkF m 52 #[.val (.int i0), .val (.int ch), .val (.int ch), .val (.int (1 : Int32))] []))
          refine own_go (fun t k => XS.iconst X10.here hx rfl (hb hby at_52) k) ?_
          show own_End p e below _ (T10.setTop (mkF m 53 #[.val (.int i0), .val (.int ch), .val (.int ch), .val (.int (1 : Int32))] [(.int (1 : Int32))]))
          refine own_go (fun t k => XS.goto X10.here hx rfl (pc0 := 53) (pc' := 57) rfl (hb hby at_53) (by decide) (by decide) k) ?_
          show own_End p e below _ (T10.setTop (mkF m 57 #[.val (.int i0), .val (.int ch), .val (.int ch), .val (.int (1 : Int32))] [(.int (1 : Int32))]))
          obtain ⟨fs, hr, hrun, hended, hW, hsame⟩ := X10.leave (v := some (.int (1 : Int32))) (fun h => by rw [Bd.returns] at h; cases h)
          refine ⟨_, _, (retN X10 hx (t := .boolean) Bd.returns (by simp) (hb hby at_57) hr), hrun, hended, _, _, rfl, ?_, ⟨_, rfl⟩, hW, hsame.mono (by decide) (by decide)⟩
          show Q0 Z i0 h0 n0 _ T10.heap _
          rw [e10]
          exact ⟨rfl, Nf⟩
    ·
      refine own_go (fun t k => XS.icmpYes X0.here hx rfl (pc0 := 17) (pc' := 38) rfl (hb hby at_17) rfl (flt hc17).2.2.2 (by decide) (by decide) k) ?_
      show own_End p e below _ (s₁.setTop (mkF m 38 #[.val (.int i0), .val (.int ch), .val (.int ch), .unset] []))
      refine own_go (fun t k => XS.iconst X0.here hx rfl (hb hby at_38) k) ?_
      show own_End p e below _ (s₁.setTop (mkF m 39 #[.val (.int i0), .val (.int ch), .val (.int ch), .unset] [(.int (1 : Int32))]))
      refine own_go (fun t k => XS.goto X0.here hx rfl (pc0 := 39) (pc' := 43) rfl (hb hby at_39) (by decide) (by decide) k) ?_
      show own_End p e below _ (s₁.setTop (mkF m 43 #[.val (.int i0), .val (.int ch), .val (.int ch), .unset] [(.int (1 : Int32))]))
      refine own_go (fun t k => XS.istoreN X0.here hx rfl (hb hby at_43) rfl (l' := #[.val (.int i0), .val (.int ch), .val (.int ch), .val (.int (1 : Int32))]) rfl k) ?_
      show own_End p e below _ (s₁.setTop (mkF m 44 #[.val (.int i0), .val (.int ch), .val (.int ch), .val (.int (1 : Int32))] []))
      refine own_go (fun t k => XS.iloadN X0.here hx rfl (hb hby at_44) rfl k) ?_
      show own_End p e below _ (s₁.setTop (mkF m 45 #[.val (.int i0), .val (.int ch), .val (.int ch), .val (.int (1 : Int32))] [(.int ch)]))
      have q11 := own_nlt hc11 (by decide : (32 : Int32).toInt = 32)
      have q17 := own_ngt hc17 (by decide : (33 : Int32).toInt = 33)
      obtain ⟨_, _, ⟨T11, L11, k11, n11⟩, -, X11, ⟨Lc11, hQ11, l11, y11, z11⟩, st11⟩ := Jvm.LawKit.callS X0 hx (y := (⟨"com/example/tasks_to_slots/taskstoslots/io/JsonString", "isPlain", "(C)Z"⟩ : MethodName)) hown (mvT hZ (hw _ (List.mem_of_getElem? (i := 1) rfl))) (mvT hZ (hw _ (List.mem_of_getElem? (i := 2) rfl))) (mvT hZ (hw _ (List.mem_of_getElem? (i := 3) rfl))) (mvT hZ (hw _ (List.mem_of_getElem? (i := 4) rfl))) (by decide) (backOf (W := 0) (rm1 l Z a0 hw [] ch h0 n0 Zs ) hZ (hw _ (List.mem_of_getElem? (i := 4) rfl)) (hw _ (List.mem_of_getElem? (i := 3) rfl)) (by decide) (by decide)) (g := (mkF m 45 #[.val (.int i0), .val (.int ch), .val (.int ch), .val (.int (1 : Int32))] [(.int ch)])) rfl (by rw [hml]; rfl) (argsL := [(.int ch)]) (rest := []) (lenOf pd_1 rfl) rfl (by show 2 * 0 + _ ≤ _; exact Nat.le_of_eq rfl) (hb hby at_45) (fun _ _ => ⟨rfl, e0, (Nat.le_of_ble_eq_true rfl), (Nat.le_of_ble_eq_true rfl)⟩)
      dsimp only [Pt.U, Pt.locs, Pt.cells, Pt.slots] at X11 l11 y11 z11 st11 hQ11
      subst l11 y11 z11
      obtain ⟨rfl, N11q, e11⟩ := hQ11
      have Nf := Fr.app Nf N11q
      refine own_go (fun t k => st11 t k) ?_
      show own_End p e below _ (T11.setTop (mkF m 48 #[.val (.int i0), .val (.int ch), .val (.int ch), .val (.int (1 : Int32))] [(.int (own_plain ch))]))
      refine own_go (fun t k => XS.iloadN X11.here hx rfl (hb hby at_48) rfl k) ?_
      show own_End p e below _ (T11.setTop (mkF m 49 #[.val (.int i0), .val (.int ch), .val (.int ch), .val (.int (1 : Int32))] [(.int (1 : Int32)), (.int (own_plain ch))]))
      refine own_go (fun t k => XS.icmpNo X11.here hx rfl (hb hby at_49) rfl (teq (own_yes ch (by omega))).2 k) ?_
      show own_End p e below _ (T11.setTop (mkF m 52 #[.val (.int i0), .val (.int ch), .val (.int ch), .val (.int (1 : Int32))] []))
      refine own_go (fun t k => XS.iconst X11.here hx rfl (hb hby at_52) k) ?_
      show own_End p e below _ (T11.setTop (mkF m 53 #[.val (.int i0), .val (.int ch), .val (.int ch), .val (.int (1 : Int32))] [(.int (1 : Int32))]))
      refine own_go (fun t k => XS.goto X11.here hx rfl (pc0 := 53) (pc' := 57) rfl (hb hby at_53) (by decide) (by decide) k) ?_
      show own_End p e below _ (T11.setTop (mkF m 57 #[.val (.int i0), .val (.int ch), .val (.int ch), .val (.int (1 : Int32))] [(.int (1 : Int32))]))
      obtain ⟨fs, hr, hrun, hended, hW, hsame⟩ := X11.leave (v := some (.int (1 : Int32))) (fun h => by rw [Bd.returns] at h; cases h)
      refine ⟨_, _, (retN X11 hx (t := .boolean) Bd.returns (by simp) (hb hby at_57) hr), hrun, hended, _, _, rfl, ?_, ⟨_, rfl⟩, hW, hsame.mono (by decide) (by decide)⟩
      show Q0 Z i0 h0 n0 _ T11.heap _
      rw [e11]
      exact ⟨rfl, Nf⟩
set_option maxRecDepth 65536 in
set_option maxHeartbeats 40000000 in
theorem comes_1 {Post : Tables → Env → Array Value → State → Outcome → State → Prop} (hpost : ∀ tb e args s v u, (limb_1_1.after args s (.returned v) u = true ∧ limb_1_2.after args s (.returned v) u = true ∧ True) → FrameEnd s (.returned v) u (Jvm.fieldLocs frame_1_writes args s ++ Jvm.arrayLocs frame_1_arrays args s ++ Jvm.staticLocs frame_1_statics s) 0 0 → Post tb e args s (.returned v) u) :
    ArmFor flags0 classFile x code maxLocals ret World_1 tables_1 room_1 Calls_1 rest_1 Pre_1 Post := by
  intro l hfl _ _ p e ha hc hk s m args below hf hA hF happ hP
  obtain ⟨hcalls, hrest, hpre⟩ := hP
  obtain ⟨-, -, -, hnamed, -, -, -, hat⟩ := (Spec.applies_iff hf).mp happ
  obtain ⟨hg, hn⟩ := and_e (Cond.before_iff.mp (show (Jvm.Cond.and given_1 narrow_1).before args s = true from hpre))
  obtain ⟨h1, g0⟩ := and_e hg
  obtain ⟨w0, rfl⟩ : ∃ w0 : Value, args = #[w0] := by
    have hs : args.size = 1 := by simpa [Cond.value, given_1] using h1
    obtain ⟨L⟩ := args
    match L, hs with
    | [w0], _ => exact ⟨w0, rfl⟩
  have hw := fun d (hd : d ∈ tables_1) => atoms_spec (ws := Jvm.Cond.code x code maxLocals ret :: tables_1) hat d (List.mem_cons_of_mem _ hd)
  have hfit : Fit s := fun {y c} hc i hi => by
    obtain ⟨ha, rfl⟩ := Array.getElem?_eq_some_iff.mp hc
    have q := List.all_eq_true.mp ((Array.all_eq_true_iff_forall_mem.mp hF) _ (Array.getElem_mem ha)) i (List.mem_range.mpr hi)
    simpa [Array.getElem?_eq_getElem hi] using q
  obtain ⟨v0, e0⟩ := is_v g0
  obtain rfl : w0 = (.int v0) := Option.some.inj e0
  obtain ⟨n, o, h1, h2, h3, _, L, rfl, ⟨rfl, N⟩, hq⟩ := rm0 l s _ hw tables_1 v0 s.heap s.heap.size (Nat.le_refl _) p e ha hc hk s m _ below hf ((Spec.applies_iff_loose hf).mp happ).1 ⟨rfl, State.Warmed39.refl s, rfl⟩ trivial
  refine ⟨n, _, h1, h2, h3, hpost _ _ _ _ _ _ ⟨Cond.after_iff.mpr rfl, Cond.after_iff.mpr (eq_i res_at (Term.int_eval (1)) rfl), trivial⟩ ⟨hq.1, hq.2.1, (hq.2.2.sift fun y hy => Or.inr (N y hy)).mono (by decide) (by decide)⟩⟩
theorem main_1_1 : Claimed_1_1 := comes_1 fun _ _ _ _ _ _ h hF => ⟨h.1, hF⟩
theorem main_1_2 : Claimed_1_2 := comes_1 fun _ _ _ _ _ _ h hF => ⟨h.2.1, hF⟩
end Jvm.Pilot.@@N@@
namespace Jvm.Pilot.@@N@@
open Jvm Jvm.ClassFile Sem Op Lib Jvm.Free Jvm.Stand Jvm.Pilot.@@N@@.Jvm.D
/-! MADE BY PROGRAM (witnessworld.py) out of the Statement's table words and the real class files: 9 classes; the members and pool entries that the words name. The judged class is class 1, her method 1. -/
namespace start1
open Jvm.ClassFile
def u (s : String) : CpInfo := .utf8 (stringToUtf16 s)
/-- a pool by its gaps: so many unusable entries, then the entry; so many at the end -/
def gap : Nat → List CpInfo → List CpInfo
  | 0, r => r
  | n + 1, r => .unusable :: gap n r
def poolList (es : List (Nat × CpInfo)) (last : Nat) : List CpInfo := es.foldr (fun e r => gap e.1 (e.2 :: r)) (gap last [])
def pool (es : List (Nat × CpInfo)) (last : Nat) : Array CpInfo := ⟨poolList es last⟩
def fileOf (pool : Array CpInfo) (this : Nat) (attrs : Array Attribute := #[]) (ms : Array MethodInfo := #[]) (fl : Nat := 33) (sup : Nat := 0) (ifs : Array Nat := #[]) (fds : Array FieldInfo := #[]) : ClassFile where
  minorVersion := 0
  majorVersion := 65
  constantPool := pool
  accessFlags := fl
  thisClass := this
  superClass := sup
  interfaces := ifs
  fields := fds
  methods := ms
  attributes := attrs
def plain (name : String) (sup : Option ClassId) : Class where
  name := name
  kind := .ordinary
  loader := none
  accessFlags := 33
  super := sup
  interfaces := #[]
  cf := none
  fields := #[]
  methods := #[]
  instanceTypes := #[]
  staticTypes := #[]
  resolved := #[]
  callSites := []
  init := .initialized
  statics := none
  mirror := none

def pool0 : Array CpInfo := pool [(5, u "<init>"), (0, u "()V"), (1, .class_ 10), (1, u "java/lang/Object")] 113

def k0m0 : Method := { name := "<init>", desc := "()V", sig := { parameters := [], returnType := none }, accessFlags := 1, code := none }
/-- java/lang/Object -/
def k0 : Class := { plain "java/lang/Object" none with
  accessFlags := 33
  interfaces := #[]
  cf := some (fileOf pool0 8 #[] #[{ accessFlags := 1, nameIndex := 5, descriptorIndex := 6, attributes := #[] }] 33 0 #[] #[])
  fields := #[]
  methods := #[k0m0]
  instanceTypes := #[]
  staticTypes := #[]
  resolved := Array.replicate 124 none
  statics := none }

def pool1 : Array CpInfo := pool [(2, .class_ 4), (1, u "java/lang/Object"), (0, u "<init>"), (0, u "()V"), (0, .integer 65535), (0, .methodref 9 10), (0, .class_ 11), (0, .nameAndType 12 13), (0, u "com/example/tasks_to_slots/taskstoslots/io/JsonString"), (0, u "isPlain"), (0, u "(C)Z"), (0, .class_ 15), (0, u "com/example/tasks_to_slots/taskstoslots/io/JsonStringIsPlainPinLaw"), (2, u "law"), (0, u "(I)Z")] 3

def k1m0 : Method := { name := "<init>", desc := "()V", sig := { parameters := [], returnType := none }, accessFlags := 2, code := none }
def k1c1 : Code := { maxStack := 2, maxLocals := 4, code := code, exceptionTable := #[], attributes := #[] }
def k1m1 : Method := { name := "law", desc := "(I)Z", sig := { parameters := [.int], returnType := some .boolean }, accessFlags := 9, code := some k1c1 }
/-- com/example/tasks_to_slots/taskstoslots/io/JsonStringIsPlainPinLaw -/
def k1 : Class := { plain "com/example/tasks_to_slots/taskstoslots/io/JsonStringIsPlainPinLaw" (some 0) with
  accessFlags := 49
  interfaces := #[]
  cf := some (fileOf pool1 14 #[] #[{ accessFlags := 2, nameIndex := 5, descriptorIndex := 6, attributes := #[] }, { accessFlags := 9, nameIndex := 18, descriptorIndex := 19, attributes := #[] }] 49 2 #[] #[])
  fields := #[]
  methods := #[k1m0, k1m1]
  instanceTypes := #[]
  staticTypes := #[]
  resolved := Array.replicate 23 none
  statics := none }

def pool2 : Array CpInfo := pool [(2, .class_ 4), (1, u "java/lang/Object"), (0, u "<init>"), (0, u "()V"), (32, .class_ 41), (1, u "com/example/tasks_to_slots/taskstoslots/io/JsonString"), (0, u "isPlain"), (0, u "(C)Z")] 53

def k2m0 : Method := { name := "<init>", desc := "()V", sig := { parameters := [], returnType := none }, accessFlags := 2, code := none }
def k2c1 : Code := { maxStack := 2, maxLocals := 1, code := prog_23_method_2_code, exceptionTable := #[], attributes := #[] }
def k2m1 : Method := { name := "isPlain", desc := "(C)Z", sig := { parameters := [.char], returnType := some .boolean }, accessFlags := 8, code := some k2c1 }
/-- com/example/tasks_to_slots/taskstoslots/io/JsonString -/
def k2 : Class := { plain "com/example/tasks_to_slots/taskstoslots/io/JsonString" (some 0) with
  accessFlags := 32
  interfaces := #[]
  cf := some (fileOf pool2 39 #[] #[{ accessFlags := 2, nameIndex := 5, descriptorIndex := 6, attributes := #[] }, { accessFlags := 8, nameIndex := 42, descriptorIndex := 43, attributes := #[] }] 32 2 #[] #[])
  fields := #[]
  methods := #[k2m0, k2m1]
  instanceTypes := #[]
  staticTypes := #[]
  resolved := Array.replicate 97 none
  statics := none }

def pool3 : Array CpInfo := pool [(1, u "java/lang/Cloneable"), (0, .class_ 1), (0, u "java/lang/Object"), (0, .class_ 3)] 3

/-- java/lang/Cloneable -/
def k3 : Class := { plain "java/lang/Cloneable" (some 0) with
  accessFlags := 1537
  interfaces := #[]
  cf := some (fileOf pool3 2 #[] #[] 1537 4 #[] #[])
  fields := #[]
  methods := #[]
  instanceTypes := #[]
  staticTypes := #[]
  resolved := Array.replicate 8 none
  statics := none }

def pool4 : Array CpInfo := pool [(1, u "java/io/Serializable"), (0, .class_ 1), (0, u "java/lang/Object"), (0, .class_ 3)] 3

/-- java/io/Serializable -/
def k4 : Class := { plain "java/io/Serializable" (some 0) with
  accessFlags := 1537
  interfaces := #[]
  cf := some (fileOf pool4 2 #[] #[] 1537 4 #[] #[])
  fields := #[]
  methods := #[]
  instanceTypes := #[]
  staticTypes := #[]
  resolved := Array.replicate 8 none
  statics := none }

/-- the primitive byte -/
def k5 : Class := { plain "byte" none with kind := .primitive 'B', accessFlags := 0x411 }
/-- [B -/
def k6 : Class := { plain "[B" (some 0) with kind := .array 5 .byte, interfaces := #[3, 4], accessFlags := 1041 }

/-- the primitive int -/
def k7 : Class := { plain "int" none with kind := .primitive 'I', accessFlags := 0x411 }
/-- [I -/
def k8 : Class := { plain "[I" (some 0) with kind := .array 7 .int, interfaces := #[3, 4], accessFlags := 1041 }

def heap : Heap := #[]
def classes : Array Class := #[k0, k1, k2, k3, k4, k5, k6, k7, k8]
def interned : List (Array UInt16 × Addr) := []
def slotsUsed : Nat := 0
def theMethod : MethodId := ⟨1, 1⟩
def args0 : Array Value := #[.int 5]
def aboutOver (below : List Frame) : State where
  vm := { classes := classes, interned := interned.toArray }
  heap := heap
  slotsUsed := slotsUsed
  threads := #[{ frames := .invoking theMethod args0 :: below }]
def below0 : List Frame := [.native { method := ⟨0, 0⟩, args := #[] }]
def about1 : State := aboutOver below0
def p0 : Program := .bare "" "" ""
def e0 : Env := launch0.env 0 0 0
theorem w_frames : about1.frames = Frame.invoking theMethod args0 :: below0 := rfl
set_option maxRecDepth 65536 in
theorem w_args : argsFit about1.vm theMethod args0 = true := by decide +kernel
set_option maxRecDepth 65536 in
theorem w_heap : heapFits about1 = true := by decide +kernel
set_option maxRecDepth 65536 in
theorem w_runnable : about1.curStatus? = some .runnable := by decide +kernel
set_option maxRecDepth 65536 in
theorem w_alone : about1.alone = true := by decide +kernel
set_option maxRecDepth 65536 in
theorem w_named : about1.methodNamed? x = some theMethod := by decide +kernel
set_option maxRecDepth 65536 in
theorem w_hears : about1.hears theMethod below0 = true := by decide +kernel
set_option maxRecDepth 65536 in
theorem w_ripe : about1.ripe theMethod args0 below0 = true := by decide +kernel
theorem w_running : about1.status = .running := rfl
set_option maxRecDepth 65536 in
theorem w_room : about1.hasRoom e0.platform room_1 = true :=
  launch0.hasRoom_least _ room_1 (by decide +kernel) (by decide +kernel) (by decide +kernel) (by decide +kernel) (by decide +kernel) (by decide +kernel)
theorem allAtoms_all (ts : List Jvm.Cond) (a : Array Jvm.Value) (st : Jvm.State) : (allAtoms ts).before a st = ts.all (fun c => c.before a st) := by
  induction ts with
  | nil => rfl
  | cons c t ih =>
    show (Jvm.Cond.and c (allAtoms t)).before a st = _
    rw [Jvm.Cond.before_and, ih, List.all_cons]
def words1 : List Jvm.Cond := Jvm.Cond.code x code maxLocals ret :: tables_1
/-- a 'code' word, met by the world's own term for the bytes: nothing is compared byte by byte -/
theorem code_word {y : MethodName} {bytes : ByteArray} {mx : Nat} {rt : Option FieldType} {a : Array Value} {s : State} {m : MethodId} {meth : Method} {c : Code} (h1 : s.methodNamed? y = some m) (h2 : s.vm.method? m = some meth) (h3 : meth.code = some c) (h4 : c.code = bytes)
    (h5 : (c.maxLocals == mx && c.exceptionTable.isEmpty && decide (c.maxStack ≤ mostOperands) && decide (meth.sig.returnType = rt) && !meth.locks && decide (parseMethodDescriptor y.desc = some meth.sig)) = true) : (Jvm.Cond.code y bytes mx rt).before a s = true := by
  simp only [Bool.and_eq_true, beq_iff_eq, Bool.not_eq_true', decide_eq_true_eq] at h5
  obtain ⟨⟨⟨⟨⟨g1, g2⟩, g3⟩, g4⟩, g5⟩, g6⟩ := h5
  simp [Cond.before, Cond.holds, Cond.value, h1, h2, h3, h4, g1, g2, g3, g4, g5, g6]
def isCode : Jvm.Cond → Bool
  | .code _ _ _ _ => true
  | _ => false
theorem all_split {L : List Jvm.Cond} {P : Jvm.Cond → Bool} (h1 : L.all (fun c => isCode c || P c) = true) (h2 : ∀ c ∈ L.filter isCode, P c = true) : L.all P = true := by
  refine List.all_eq_true.mpr fun c hc => ?_
  have h := List.all_eq_true.mp h1 c hc
  rcases Bool.eq_false_or_eq_true (isCode c) with hi | hi
  · exact h2 c (List.mem_filter.mpr ⟨hc, hi⟩)
  · simpa [hi] using h
set_option maxRecDepth 65536 in
theorem w_c0 : (Jvm.Cond.code x code maxLocals ret).before args0 about1 = true := code_word (m := ⟨1, 1⟩) (meth := k1m1) (c := k1c1) (by decide +kernel) rfl rfl rfl (by decide +kernel)
set_option maxRecDepth 65536 in
theorem w_c1 : (Jvm.Cond.code ({ cls := "com/example/tasks_to_slots/taskstoslots/io/JsonString", name := "isPlain", desc := "(C)Z" } : Jvm.MethodName) prog_23_method_2_code (1 : Nat) (Option.some Jvm.ClassFile.FieldType.boolean)).before args0 about1 = true := code_word (m := ⟨2, 1⟩) (meth := k2m1) (c := k2c1) (by decide +kernel) rfl rfl rfl (by decide +kernel)
def codes1 : List Jvm.Cond := [Jvm.Cond.code x code maxLocals ret, Jvm.Cond.code ({ cls := "com/example/tasks_to_slots/taskstoslots/io/JsonString", name := "isPlain", desc := "(C)Z" } : Jvm.MethodName) prog_23_method_2_code (1 : Nat) (Option.some Jvm.ClassFile.FieldType.boolean)]
set_option maxRecDepth 65536 in
theorem codes_eq : words1.filter isCode = codes1 := rfl
theorem w_codes : ∀ c ∈ words1.filter isCode, c.before args0 about1 = true := by
  rw [codes_eq]
  intro c hc
  simp only [codes1, List.mem_cons, List.not_mem_nil, or_false] at hc
  rcases hc with rfl | rfl
  · exact w_c0
  · exact w_c1
set_option maxRecDepth 65536 in
theorem w_t1 : words1.all (fun c => isCode c || c.before args0 about1) = true := by decide +kernel
theorem w_tables : (allAtoms (Jvm.Cond.code x code maxLocals ret :: tables_1)).before args0 about1 = true := by
  rw [allAtoms_all]
  show words1.all (fun c => c.before args0 about1) = true
  refine all_split ?_ w_codes
  rw [w_t1]
set_option maxRecDepth 65536 in
theorem w_case : (Jvm.Cond.and given_1 narrow_1).before args0 about1 = true := by decide +kernel
theorem w_applies : (headSpec (Jvm.Cond.code x code maxLocals ret :: tables_1) room_1).applies x e0.platform about1 = true :=
  (Spec.applies_iff w_frames).mpr ⟨w_running, w_runnable, w_alone, w_named, w_hears, w_ripe, w_room, w_tables⟩
theorem atStart : AtStart classFile x code maxLocals ret World_1 tables_1 room_1 Calls_1 rest_1 Pre_1 launch0 p0 e0 about1 theMethod args0 below0 :=
  ⟨lists_1, trivial, launch0.admits_env _ _ _, launch0.least_env, fairChoices_fair.cas, fairChoices_fair.clock, w_frames, w_args, w_heap, w_applies, trivial, trivial, w_case⟩
end start1
theorem witness_1 : WitnessClaimed_1 := ⟨start1.p0, start1.e0, start1.about1, start1.theMethod, start1.args0, start1.below0, start1.atStart⟩
end Jvm.Pilot.@@N@@

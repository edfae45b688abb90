import JvmDerived
import JvmDerived.Pilot.@@N@@Statement
import JvmDerived.Pilot.@@N@@Code
set_option linter.unusedVariables false
set_option linter.unusedSimpArgs false
@@BLOCK:NumsL.lean.txt@@
namespace Jvm.Pilot.@@N@@
open Jvm Jvm.ClassFile Sem Op Lib Jvm.Free Jvm.Stand Jvm.LawKit Jvm.RoadKit Bundle Jvm.Pilot.@@N@@.Jvm.D
def Goes (tb : Tables) (e : Env) (below : List Frame) (G : State → Outcome → Prop) (A : State) : Prop := ∃ s₂ o, Steps tb e below A s₂ ∧ s₂.status = .running ∧ Ended s₂ below o ∧ G s₂ o
theorem go {tb : Tables} {e : Env} {below : List Frame} {G : State → Outcome → Prop} {A B : State} (h : ∀ t, Steps tb e below B t → Steps tb e below A t) (k : Goes tb e below G B) : Goes tb e below G A := by
  obtain ⟨s₂, o, h1, h2⟩ := k; exact ⟨s₂, o, h _ h1, h2⟩
theorem goEnd {tb : Tables} {e : Env} {below : List Frame} {G : State → Outcome → Prop} {A B : State} (h : ∀ t, Steps tb e below B t → Steps tb e below A t) (k : Goes tb e below G B) : ∃ s₂ o, Steps tb e below A s₂ ∧ s₂.status = .running ∧ Ended s₂ below o ∧ G s₂ o := go h k
theorem own_sta_keep {Z : State} {h h' : Heap} {C n d K : String} {v : Value} {a : Addr} (S : Sta Z h C n d v) (E : Exa Z h a K) (Kp : Keep h h' [a]) : Sta Z h' C n d v := by
  obtain ⟨cf, i, k, f, st, cell, h1, h2, h3, h4, h5, h6, h7⟩ := S
  obtain ⟨c', k', e1, -, -, e4, -⟩ := E
  refine ⟨cf, i, k, f, st, cell, h1, h2, h3, h4, Kp.2.1 st cell h5 (fun q => ?_), h6, h7⟩
  have q' : st = a := by simpa using q
  subst q'
  cases h5.symm.trans e1
  rw [e4] at h6; cases h6
abbrev iv (x : Int32) : Slot := .val (.int x)
abbrev jv (x : Int64) : Slot := .val (.long x)
abbrev rv (x : Addr) : Slot := .val (.ref x)
abbrev Go (p : Program) (e : Env) (below : List Frame) (G : State → Outcome → Prop) (m : MethodId) (T : State) (pc : Nat) (L : Array Slot) (S : List Value) : Prop := Goes p.tables e below G (T.setTop (mkF m pc L S))
theorem d1_0 : decode method_2_code 0 = .ok (.iload_n 0, 1) := by decide +kernel
theorem d1_1 : decode method_2_code 1 = .ok (.iconst 3, 1) := by decide +kernel
theorem d1_2 : decode method_2_code 2 = .ok (.iand, 1) := by decide +kernel
theorem d1_3 : decode method_2_code 3 = .ok (.istore_n 1, 1) := by decide +kernel
theorem d1_4 : decode method_2_code 4 = .ok (.iload_n 1, 1) := by decide +kernel
theorem d1_5 : decode method_2_code 5 = .ok (.ifCond .ne 6, 3) := by decide +kernel
theorem d1_8 : decode method_2_code 8 = .ok (.bipush 13, 2) := by decide +kernel
theorem d1_10 : decode method_2_code 10 = .ok (.ireturn, 1) := by decide +kernel
theorem d1_11 : decode method_2_code 11 = .ok (.iload_n 1, 1) := by decide +kernel
theorem d1_12 : decode method_2_code 12 = .ok (.iconst 1, 1) := by decide +kernel
theorem d1_13 : decode method_2_code 13 = .ok (.if_icmp .ne 6, 3) := by decide +kernel
theorem d1_16 : decode method_2_code 16 = .ok (.bipush 10, 2) := by decide +kernel
theorem d1_18 : decode method_2_code 18 = .ok (.ireturn, 1) := by decide +kernel
theorem d1_19 : decode method_2_code 19 = .ok (.iload_n 0, 1) := by decide +kernel
theorem d1_20 : decode method_2_code 20 = .ok (.iconst 2, 1) := by decide +kernel
theorem d1_21 : decode method_2_code 21 = .ok (.iushr, 1) := by decide +kernel
theorem d1_22 : decode method_2_code 22 = .ok (.i2c, 1) := by decide +kernel
theorem d1_23 : decode method_2_code 23 = .ok (.ireturn, 1) := by decide +kernel
def own_draw (p0 : Int32) : Int32 := (if (p0 &&& (3 : Int32)) = (0 : Int32) then (nar .char (13 : Int32)) else (if (p0 &&& (3 : Int32)) = (1 : Int32) then (nar .char (10 : Int32)) else (nar .char (((p0.toUInt32 >>> ((2 : Int32) &&& 31).toUInt32).toInt32).toUInt32.toUInt16.toUInt32.toInt32))))
theorem pn_0 : plainName "com/example/axsis/axsis/input/TextPositionCountPinLaw" = true := by first | (simp [plainName, overriddenIn]; done) | decide +kernel
theorem ef_1 (m : MethodId) (p0 : Int32) : entryFrame m #[(.int p0)] 2 = mkF m 0 #[.val (.int p0), .unset] [] := by first | (simp [entryFrame, mkF, argsToLocals, Value.category]; done) | rfl
def Q1 (Z : State) (p0 : Int32) (h0 : Heap) (n0 : Nat) (v : Option Value) (h : Heap) (L : List Loc) : Prop := v = some (.int (own_draw p0)) ∧ Fr n0 L ∧ h = h0
set_option maxRecDepth 65536 in
set_option maxHeartbeats 40000000 in
theorem rm1 (l : Launch) (Z : State) (a0 : Array Value) (hw : ∀ d ∈ tables_1, d.before a0 Z = true) (ws : List Jvm.Cond) (p0 : Int32) (h0 : Heap) (n0 : Nat) (Z0 : n0 ≤ h0.size)  :
    MetFree l (⟨"com/example/axsis/axsis/input/TextPositionCountPinLaw", "draw", "(I)C"⟩ : MethodName) (head1 (Jvm.Cond.code (⟨"com/example/axsis/axsis/input/TextPositionCountPinLaw", "draw", "(I)C"⟩ : MethodName) method_2_code 2 (some .char) :: ws) ({ frames := 0, cells := 0, slots := 0, locals := 0 } : Room)) (fun a U => a = #[(.int p0)] ∧ Z.Warmed39 U.vm ∧ U.heap = h0) (fun _ _ _ _ _ => True) (fun _ U o U' => ∃ v L, o = .returned v ∧ Q1 Z p0 h0 n0 v U'.heap L ∧ FrameEnd U o U' L ({ frames := 0, cells := 0, slots := 0, locals := 0 } : Room).cells ({ frames := 0, cells := 0, slots := 0, locals := 0 } : Room).slots) := by
  refine MetFree.of_bodySF (plainFor_of_name pn_0) hisR ?_
  intro p e s m args below meth c s₁ Bd hml0 hP hK
  obtain ⟨rfl, hZ, hh⟩ := hP
  have hx := Bd.exec
  have hby := Bd.bytes
  have hml : c.maxLocals = 2 := hml0
  have hown : s.vm.findClass "com/example/axsis/axsis/input/TextPositionCountPinLaw" = some m.cls := findClass_of_methodNamed Bd.named
  have hnm := (name_of_methodNamed Bd.named Bd.method).1
  have X0 : Stand p l e ({ frames := 0, cells := 0, slots := 0, locals := 0 } : Room) s m #[(.int p0)] below meth c s₁ [] 0 0 := Stand.of_body Bd
  have e0 : s₁.heap = h0 := by rw [← hh, Bd.state]; rfl
  have N0 := Fr.nil n0
  have K0 := Keep.refl h0 []
  suffices hgo : Goes p.tables e below (fun s₂ o => ∃ v L, o = .returned v ∧ Q1 Z p0 h0 n0 v s₂.heap L ∧ FrameEnd s o s₂ L ({ frames := 0, cells := 0, slots := 0, locals := 0 } : Room).cells ({ frames := 0, cells := 0, slots := 0, locals := 0 } : Room).slots) (s₁.setTop (mkF m 0 #[.val (.int p0), .unset] [])) from goEnd (fun t k => castTop (ef_1 m p0) k) hgo
  refine go (fun t kt => XS.iloadN X0.here hx rfl (hb hby d1_0) rfl kt) ?_
  show Goes p.tables e below _ (s₁.setTop (mkF m 1 #[.val (.int p0), .unset] [(.int p0)]))
  refine go (fun t kt => XS.iconst X0.here hx rfl (hb hby d1_1) kt) ?_
  show Goes p.tables e below _ (s₁.setTop (mkF m 2 #[.val (.int p0), .unset] [(.int (3 : Int32)), (.int p0)]))
  refine go (fun t kt => XS.iand X0.here hx rfl (hb hby d1_2) rfl kt) ?_
  show Goes p.tables e below _ (s₁.setTop (mkF m 3 #[.val (.int p0), .unset] [(.int (p0 &&& (3 : Int32)))]))
  refine go (fun t kt => XS.istoreN X0.here hx rfl (hb hby d1_3) rfl (l' := #[.val (.int p0), .val (.int (p0 &&& (3 : Int32)))]) rfl kt) ?_
  show Goes p.tables e below _ (s₁.setTop (mkF m 4 #[.val (.int p0), .val (.int (p0 &&& (3 : Int32)))] []))
  refine go (fun t kt => XS.iloadN X0.here hx rfl (hb hby d1_4) rfl kt) ?_
  show Goes p.tables e below _ (s₁.setTop (mkF m 5 #[.val (.int p0), .val (.int (p0 &&& (3 : Int32)))] [(.int (p0 &&& (3 : Int32)))]))
  by_cases hc1 : (p0 &&& (3 : Int32)) = (0 : Int32)
  ·
    refine go (fun t kt => XS.ifNo X0.here hx rfl (hb hby d1_5) rfl ((if0 _ _).trans (teq hc1).2) kt) ?_
    show Goes p.tables e below _ (s₁.setTop (mkF m 8 #[.val (.int p0), .val (.int (p0 &&& (3 : Int32)))] []))
    refine go (fun t kt => XS.bipush X0.here hx rfl (hb hby d1_8) kt) ?_
    show Goes p.tables e below _ (s₁.setTop (mkF m 10 #[.val (.int p0), .val (.int (p0 &&& (3 : Int32)))] [(.int (13 : Int32))]))
    obtain ⟨fs, hr, hrun, hended, hW, hsame⟩ := X0.leave (v := some (.int (nar .char (13 : Int32)))) (fun h => by rw [Bd.returns] at h; cases h)
    refine ⟨_, _, retN X0 hx (t := .char) Bd.returns (by simp) (hb hby d1_10) hr, hrun, hended, _, _, rfl, ?_, ⟨_, rfl⟩, hW, hsame.mono (by decide) (by decide)⟩
    show Q1 Z p0 h0 n0 _ s₁.heap _
    rw [e0]
    exact ⟨(by unfold own_draw; rw [if_pos hc1]), N0, rfl⟩
  ·
    refine go (fun t kt => XS.ifYes X0.here hx rfl (pc0 := 5) (pc' := 11) rfl (hb hby d1_5) rfl ((if0 _ _).trans (feq hc1).2) (by decide) (by decide) kt) ?_
    show Goes p.tables e below _ (s₁.setTop (mkF m 11 #[.val (.int p0), .val (.int (p0 &&& (3 : Int32)))] []))
    refine go (fun t kt => XS.iloadN X0.here hx rfl (hb hby d1_11) rfl kt) ?_
    show Goes p.tables e below _ (s₁.setTop (mkF m 12 #[.val (.int p0), .val (.int (p0 &&& (3 : Int32)))] [(.int (p0 &&& (3 : Int32)))]))
    refine go (fun t kt => XS.iconst X0.here hx rfl (hb hby d1_12) kt) ?_
    show Goes p.tables e below _ (s₁.setTop (mkF m 13 #[.val (.int p0), .val (.int (p0 &&& (3 : Int32)))] [(.int (1 : Int32)), (.int (p0 &&& (3 : Int32)))]))
    by_cases hc3 : (p0 &&& (3 : Int32)) = (1 : Int32)
    ·
      refine go (fun t kt => XS.icmpNo X0.here hx rfl (hb hby d1_13) rfl (teq hc3).2 kt) ?_
      show Goes p.tables e below _ (s₁.setTop (mkF m 16 #[.val (.int p0), .val (.int (p0 &&& (3 : Int32)))] []))
      refine go (fun t kt => XS.bipush X0.here hx rfl (hb hby d1_16) kt) ?_
      show Goes p.tables e below _ (s₁.setTop (mkF m 18 #[.val (.int p0), .val (.int (p0 &&& (3 : Int32)))] [(.int (10 : Int32))]))
      obtain ⟨fs, hr, hrun, hended, hW, hsame⟩ := X0.leave (v := some (.int (nar .char (10 : Int32)))) (fun h => by rw [Bd.returns] at h; cases h)
      refine ⟨_, _, retN X0 hx (t := .char) Bd.returns (by simp) (hb hby d1_18) hr, hrun, hended, _, _, rfl, ?_, ⟨_, rfl⟩, hW, hsame.mono (by decide) (by decide)⟩
      show Q1 Z p0 h0 n0 _ s₁.heap _
      rw [e0]
      exact ⟨(by unfold own_draw; rw [if_neg hc1, if_pos hc3]), N0, rfl⟩
    ·
      refine go (fun t kt => XS.icmpYes X0.here hx rfl (pc0 := 13) (pc' := 19) rfl (hb hby d1_13) rfl (feq hc3).2 (by decide) (by decide) kt) ?_
      show Goes p.tables e below _ (s₁.setTop (mkF m 19 #[.val (.int p0), .val (.int (p0 &&& (3 : Int32)))] []))
      refine go (fun t kt => XS.iloadN X0.here hx rfl (hb hby d1_19) rfl kt) ?_
      show Goes p.tables e below _ (s₁.setTop (mkF m 20 #[.val (.int p0), .val (.int (p0 &&& (3 : Int32)))] [(.int p0)]))
      refine go (fun t kt => XS.iconst X0.here hx rfl (hb hby d1_20) kt) ?_
      show Goes p.tables e below _ (s₁.setTop (mkF m 21 #[.val (.int p0), .val (.int (p0 &&& (3 : Int32)))] [(.int (2 : Int32)), (.int p0)]))
      refine go (fun t kt => XS.iushr X0.here hx rfl (hb hby d1_21) rfl kt) ?_
      show Goes p.tables e below _ (s₁.setTop (mkF m 22 #[.val (.int p0), .val (.int (p0 &&& (3 : Int32)))] [(.int ((p0.toUInt32 >>> ((2 : Int32) &&& 31).toUInt32).toInt32))]))
      refine go (fun t kt => XS.i2c X0.here hx rfl (hb hby d1_22) rfl kt) ?_
      show Goes p.tables e below _ (s₁.setTop (mkF m 23 #[.val (.int p0), .val (.int (p0 &&& (3 : Int32)))] [(.int (((p0.toUInt32 >>> ((2 : Int32) &&& 31).toUInt32).toInt32).toUInt32.toUInt16.toUInt32.toInt32))]))
      obtain ⟨fs, hr, hrun, hended, hW, hsame⟩ := X0.leave (v := some (.int (nar .char (((p0.toUInt32 >>> ((2 : Int32) &&& 31).toUInt32).toInt32).toUInt32.toUInt16.toUInt32.toInt32)))) (fun h => by rw [Bd.returns] at h; cases h)
      refine ⟨_, _, retN X0 hx (t := .char) Bd.returns (by simp) (hb hby d1_23) hr, hrun, hended, _, _, rfl, ?_, ⟨_, rfl⟩, hW, hsame.mono (by decide) (by decide)⟩
      show Q1 Z p0 h0 n0 _ s₁.heap _
      rw [e0]
      exact ⟨(by unfold own_draw; rw [if_neg hc1, if_neg hc3]), N0, rfl⟩
theorem d5_0 : decode method_3_code 0 = .ok (.iload_n 0, 1) := by decide +kernel
theorem d5_1 : decode method_3_code 1 = .ok (.bipush 13, 2) := by decide +kernel
theorem d5_3 : decode method_3_code 3 = .ok (.if_icmp .eq 9, 3) := by decide +kernel
theorem d5_12 : decode method_3_code 12 = .ok (.iconst 1, 1) := by decide +kernel
theorem d5_13 : decode method_3_code 13 = .ok (.goto 4, 3) := by decide +kernel
theorem d5_17 : decode method_3_code 17 = .ok (.ireturn, 1) := by decide +kernel
theorem d5_6 : decode method_3_code 6 = .ok (.iload_n 0, 1) := by decide +kernel
theorem d5_7 : decode method_3_code 7 = .ok (.bipush 10, 2) := by decide +kernel
theorem d5_9 : decode method_3_code 9 = .ok (.if_icmp .ne 7, 3) := by decide +kernel
theorem d5_16 : decode method_3_code 16 = .ok (.iconst 0, 1) := by decide +kernel
def own_ends (p0 : Int32) : Int32 := (if p0 = (13 : Int32) then (1 : Int32) else (if p0 = (10 : Int32) then (1 : Int32) else (0 : Int32)))
theorem ef_5 (m : MethodId) (p0 : Int32) : entryFrame m #[(.int p0)] 1 = mkF m 0 #[.val (.int p0)] [] := by first | (simp [entryFrame, mkF, argsToLocals, Value.category]; done) | rfl
def Q5 (Z : State) (p0 : Int32) (h0 : Heap) (n0 : Nat) (v : Option Value) (h : Heap) (L : List Loc) : Prop := v = some (.int (own_ends p0)) ∧ Fr n0 L ∧ h = h0
set_option maxRecDepth 65536 in
set_option maxHeartbeats 40000000 in
theorem rm5 (l : Launch) (Z : State) (a0 : Array Value) (hw : ∀ d ∈ tables_1, d.before a0 Z = true) (ws : List Jvm.Cond) (p0 : Int32) (h0 : Heap) (n0 : Nat) (Z0 : n0 ≤ h0.size)  :
    MetFree l (⟨"com/example/axsis/axsis/input/TextPositionCountPinLaw", "ends", "(C)Z"⟩ : MethodName) (head1 (Jvm.Cond.code (⟨"com/example/axsis/axsis/input/TextPositionCountPinLaw", "ends", "(C)Z"⟩ : MethodName) method_3_code 1 (some .boolean) :: ws) ({ frames := 0, cells := 0, slots := 0, locals := 0 } : Room)) (fun a U => a = #[(.int p0)] ∧ Z.Warmed39 U.vm ∧ U.heap = h0) (fun _ _ _ _ _ => True) (fun _ U o U' => ∃ v L, o = .returned v ∧ Q5 Z p0 h0 n0 v U'.heap L ∧ FrameEnd U o U' L ({ frames := 0, cells := 0, slots := 0, locals := 0 } : Room).cells ({ frames := 0, cells := 0, slots := 0, locals := 0 } : Room).slots) := by
  refine MetFree.of_bodySF (plainFor_of_name pn_0) hisR ?_
  intro p e s m args below meth c s₁ Bd hml0 hP hK
  obtain ⟨rfl, hZ, hh⟩ := hP
  have hx := Bd.exec
  have hby := Bd.bytes
  have hml : c.maxLocals = 1 := hml0
  have hown : s.vm.findClass "com/example/axsis/axsis/input/TextPositionCountPinLaw" = some m.cls := findClass_of_methodNamed Bd.named
  have hnm := (name_of_methodNamed Bd.named Bd.method).1
  have X0 : Stand p l e ({ frames := 0, cells := 0, slots := 0, locals := 0 } : Room) s m #[(.int p0)] below meth c s₁ [] 0 0 := Stand.of_body Bd
  have e0 : s₁.heap = h0 := by rw [← hh, Bd.state]; rfl
  have N0 := Fr.nil n0
  have K0 := Keep.refl h0 []
  suffices hgo : Goes p.tables e below (fun s₂ o => ∃ v L, o = .returned v ∧ Q5 Z p0 h0 n0 v s₂.heap L ∧ FrameEnd s o s₂ L ({ frames := 0, cells := 0, slots := 0, locals := 0 } : Room).cells ({ frames := 0, cells := 0, slots := 0, locals := 0 } : Room).slots) (s₁.setTop (mkF m 0 #[.val (.int p0)] [])) from goEnd (fun t k => castTop (ef_5 m p0) k) hgo
  refine go (fun t kt => XS.iloadN X0.here hx rfl (hb hby d5_0) rfl kt) ?_
  show Goes p.tables e below _ (s₁.setTop (mkF m 1 #[.val (.int p0)] [(.int p0)]))
  refine go (fun t kt => XS.bipush X0.here hx rfl (hb hby d5_1) kt) ?_
  show Goes p.tables e below _ (s₁.setTop (mkF m 3 #[.val (.int p0)] [(.int (13 : Int32)), (.int p0)]))
  by_cases hc1 : p0 = (13 : Int32)
  ·
    refine go (fun t kt => XS.icmpYes X0.here hx rfl (pc0 := 3) (pc' := 12) rfl (hb hby d5_3) rfl (teq hc1).1 (by decide) (by decide) kt) ?_
    show Goes p.tables e below _ (s₁.setTop (mkF m 12 #[.val (.int p0)] []))
    refine go (fun t kt => XS.iconst X0.here hx rfl (hb hby d5_12) kt) ?_
    show Goes p.tables e below _ (s₁.setTop (mkF m 13 #[.val (.int p0)] [(.int (1 : Int32))]))
    refine go (fun t kt => XS.goto X0.here hx rfl (pc0 := 13) (pc' := 17) rfl (hb hby d5_13) (by decide) (by decide) kt) ?_
    show Goes p.tables e below _ (s₁.setTop (mkF m 17 #[.val (.int p0)] [(.int (1 : Int32))]))
    obtain ⟨fs, hr, hrun, hended, hW, hsame⟩ := X0.leave (v := some (.int (1 : Int32))) (fun h => by rw [Bd.returns] at h; cases h)
    refine ⟨_, _, retN X0 hx (t := .boolean) Bd.returns (by simp) (hb hby d5_17) hr, hrun, hended, _, _, rfl, ?_, ⟨_, rfl⟩, hW, hsame.mono (by decide) (by decide)⟩
    show Q5 Z p0 h0 n0 _ s₁.heap _
    rw [e0]
    exact ⟨(by unfold own_ends; rw [if_pos hc1]), N0, rfl⟩
  ·
    refine go (fun t kt => XS.icmpNo X0.here hx rfl (hb hby d5_3) rfl (feq hc1).1 kt) ?_
    show Goes p.tables e below _ (s₁.setTop (mkF m 6 #[.val (.int p0)] []))
    refine go (fun t kt => XS.iloadN X0.here hx rfl (hb hby d5_6) rfl kt) ?_
    show Goes p.tables e below _ (s₁.setTop (mkF m 7 #[.val (.int p0)] [(.int p0)]))
    refine go (fun t kt => XS.bipush X0.here hx rfl (hb hby d5_7) kt) ?_
    show Goes p.tables e below _ (s₁.setTop (mkF m 9 #[.val (.int p0)] [(.int (10 : Int32)), (.int p0)]))
    by_cases hc3 : p0 = (10 : Int32)
    ·
      refine go (fun t kt => XS.icmpNo X0.here hx rfl (hb hby d5_9) rfl (teq hc3).2 kt) ?_
      show Goes p.tables e below _ (s₁.setTop (mkF m 12 #[.val (.int p0)] []))
      refine go (fun t kt => XS.iconst X0.here hx rfl (hb hby d5_12) kt) ?_
      show Goes p.tables e below _ (s₁.setTop (mkF m 13 #[.val (.int p0)] [(.int (1 : Int32))]))
      refine go (fun t kt => XS.goto X0.here hx rfl (pc0 := 13) (pc' := 17) rfl (hb hby d5_13) (by decide) (by decide) kt) ?_
      show Goes p.tables e below _ (s₁.setTop (mkF m 17 #[.val (.int p0)] [(.int (1 : Int32))]))
      obtain ⟨fs, hr, hrun, hended, hW, hsame⟩ := X0.leave (v := some (.int (1 : Int32))) (fun h => by rw [Bd.returns] at h; cases h)
      refine ⟨_, _, retN X0 hx (t := .boolean) Bd.returns (by simp) (hb hby d5_17) hr, hrun, hended, _, _, rfl, ?_, ⟨_, rfl⟩, hW, hsame.mono (by decide) (by decide)⟩
      show Q5 Z p0 h0 n0 _ s₁.heap _
      rw [e0]
      exact ⟨(by unfold own_ends; rw [if_neg hc1, if_pos hc3]), N0, rfl⟩
    ·
      refine go (fun t kt => XS.icmpYes X0.here hx rfl (pc0 := 9) (pc' := 16) rfl (hb hby d5_9) rfl (feq hc3).2 (by decide) (by decide) kt) ?_
      show Goes p.tables e below _ (s₁.setTop (mkF m 16 #[.val (.int p0)] []))
      refine go (fun t kt => XS.iconst X0.here hx rfl (hb hby d5_16) kt) ?_
      show Goes p.tables e below _ (s₁.setTop (mkF m 17 #[.val (.int p0)] [(.int (0 : Int32))]))
      obtain ⟨fs, hr, hrun, hended, hW, hsame⟩ := X0.leave (v := some (.int (0 : Int32))) (fun h => by rw [Bd.returns] at h; cases h)
      refine ⟨_, _, retN X0 hx (t := .boolean) Bd.returns (by simp) (hb hby d5_17) hr, hrun, hended, _, _, rfl, ?_, ⟨_, rfl⟩, hW, hsame.mono (by decide) (by decide)⟩
      show Q5 Z p0 h0 n0 _ s₁.heap _
      rw [e0]
      exact ⟨(by unfold own_ends; rw [if_neg hc1, if_neg hc3]), N0, rfl⟩
theorem d2_0 : decode prog_37_method_1_code 0 = .ok (.aload_n 0, 1) := by decide +kernel
theorem d2_1 : decode prog_37_method_1_code 1 = .ok (.invokespecial 1, 3) := by decide +kernel
theorem d2_4 : decode prog_37_method_1_code 4 = .ok (.aload_n 0, 1) := by decide +kernel
theorem d2_5 : decode prog_37_method_1_code 5 = .ok (.iconst 1, 1) := by decide +kernel
theorem d2_6 : decode prog_37_method_1_code 6 = .ok (.putfield 7, 3) := by decide +kernel
theorem d2_9 : decode prog_37_method_1_code 9 = .ok (.aload_n 0, 1) := by decide +kernel
theorem d2_10 : decode prog_37_method_1_code 10 = .ok (.ldc2_w 13, 3) := by decide +kernel
theorem d2_13 : decode prog_37_method_1_code 13 = .ok (.putfield 15, 3) := by decide +kernel
theorem d2_16 : decode prog_37_method_1_code 16 = .ok (.return_, 1) := by decide +kernel
theorem pn_2 : plainName "com/example/axsis/axsis/input/TextPosition" = true := by first | (simp [plainName, overriddenIn]; done) | decide +kernel
theorem ef_2 (m : MethodId) (o0 : Addr) : entryFrame m #[(.ref o0)] 1 = mkF m 0 #[.val (.ref o0)] [] := by first | (simp [entryFrame, mkF, argsToLocals, Value.category]; done) | rfl
def Q2 (Z : State) (o0 : Addr) (u1 : Value) (u2 : Value) (w3 : Int64) (h0 : Heap) (n0 : Nat) (v : Option Value) (h : Heap) (L : List Loc) : Prop := v = none ∧ Fr n0 L ∧ Keep h0 h [o0] ∧ Exa Z h o0 "com/example/axsis/axsis/input/TextPosition" ∧ Fld Z h o0 "com/example/axsis/axsis/input/TextPosition" "line" "I" (.int (1 : Int32)) ∧ Fld Z h o0 "com/example/axsis/axsis/input/TextPosition" "carriageReturn" "J" (.long (-2 : Int64)) ∧ Fld Z h o0 "com/example/axsis/axsis/input/TextPosition" "lineStart" "J" (.long w3)
set_option maxRecDepth 65536 in
set_option maxHeartbeats 40000000 in
theorem rm2 (l : Launch) (Z : State) (a0 : Array Value) (hw : ∀ d ∈ tables_1, d.before a0 Z = true) (ws : List Jvm.Cond) (o0 : Addr) (u1 : Value) (u2 : Value) (w3 : Int64) (h0 : Heap) (n0 : Nat) (Z0 : n0 ≤ h0.size) (E_o0 : Exa Z h0 o0 "com/example/axsis/axsis/input/TextPosition") (F_line_o0 : Fld Z h0 o0 "com/example/axsis/axsis/input/TextPosition" "line" "I" u1) (F_carriageReturn_o0 : Fld Z h0 o0 "com/example/axsis/axsis/input/TextPosition" "carriageReturn" "J" u2) (F_lineStart_o0 : Fld Z h0 o0 "com/example/axsis/axsis/input/TextPosition" "lineStart" "J" (.long w3)) (g_o0 : n0 ≤ o0) :
    MetFree l (⟨"com/example/axsis/axsis/input/TextPosition", "<init>", "()V"⟩ : MethodName) (head1 (Jvm.Cond.code (⟨"com/example/axsis/axsis/input/TextPosition", "<init>", "()V"⟩ : MethodName) prog_37_method_1_code 1 none :: ws) ({ frames := 1, cells := 0, slots := 0, locals := 12 } : Room)) (fun a U => a = #[(.ref o0)] ∧ Z.Warmed39 U.vm ∧ U.heap = h0) (fun _ _ _ _ _ => True) (fun _ U o U' => ∃ v L, o = .returned v ∧ Q2 Z o0 u1 u2 w3 h0 n0 v U'.heap L ∧ FrameEnd U o U' L ({ frames := 1, cells := 0, slots := 0, locals := 12 } : Room).cells ({ frames := 1, cells := 0, slots := 0, locals := 12 } : Room).slots) := by
  refine MetFree.of_bodySF (plainFor_of_name pn_2) hisR ?_
  intro p e s m args below meth c s₁ Bd hml0 hP hK
  obtain ⟨rfl, hZ, hh⟩ := hP
  have hx := Bd.exec
  have hby := Bd.bytes
  have hml : c.maxLocals = 1 := hml0
  have hown : s.vm.findClass "com/example/axsis/axsis/input/TextPosition" = some m.cls := findClass_of_methodNamed Bd.named
  have hnm := (name_of_methodNamed Bd.named Bd.method).1
  have X0 : Stand p l e ({ frames := 1, cells := 0, slots := 0, locals := 12 } : Room) s m #[(.ref o0)] below meth c s₁ [] 0 0 := Stand.of_body Bd
  have e0 : s₁.heap = h0 := by rw [← hh, Bd.state]; rfl
  have N0 := Fr.nil n0
  have K0 := Keep.refl h0 [o0]
  suffices hgo : Goes p.tables e below (fun s₂ o => ∃ v L, o = .returned v ∧ Q2 Z o0 u1 u2 w3 h0 n0 v s₂.heap L ∧ FrameEnd s o s₂ L ({ frames := 1, cells := 0, slots := 0, locals := 12 } : Room).cells ({ frames := 1, cells := 0, slots := 0, locals := 12 } : Room).slots) (s₁.setTop (mkF m 0 #[.val (.ref o0)] [])) from goEnd (fun t k => castTop (ef_2 m o0) k) hgo
  refine go (fun t kt => XS.aloadN X0.here hx rfl (hb hby d2_0) rfl rfl kt) ?_
  show Goes p.tables e below _ (s₁.setTop (mkF m 1 #[.val (.ref o0)] [(.ref o0)]))
  obtain ⟨T1, X1, e1, st1⟩ := initO X0 hx hZ hown (hw _ (List.mem_of_getElem? (i := 11) rfl)) (hw _ (List.mem_of_getElem? (i := 12) rfl)) (hw _ (List.mem_of_getElem? (i := 13) rfl)) e0 (g := (mkF m 1 #[.val (.ref o0)] [(.ref o0)])) rfl (by rw [hml]; rfl) rfl (hb hby d2_1) (by decide) (W := 0) (by show 2 * 0 + _ ≤ _; exact Nat.le_of_eq rfl) (by decide)
  refine go st1 ?_
  show Goes p.tables e below _ (T1.setTop (mkF m 4 #[.val (.ref o0)] []))
  refine go (fun t kt => XS.aloadN X1.here hx rfl (hb hby d2_4) rfl rfl kt) ?_
  show Goes p.tables e below _ (T1.setTop (mkF m 5 #[.val (.ref o0)] [(.ref o0)]))
  refine go (fun t kt => XS.iconst X1.here hx rfl (hb hby d2_5) kt) ?_
  show Goes p.tables e below _ (T1.setTop (mkF m 6 #[.val (.ref o0)] [(.int (1 : Int32)), (.ref o0)]))
  obtain ⟨T2, h2, X2, e2, W2, st2⟩ := putF X1 hx hZ hown (host := "") (Or.inl (hw _ (List.mem_of_getElem? (i := 14) rfl))) Via.refl e1 F_line_o0 E_o0 (Or.inl (hw _ (List.mem_of_getElem? (i := 15) rfl))) (hw _ (List.mem_of_getElem? (i := 6) rfl)) (ty := .int) (by decide) rfl rfl (g := (mkF m 6 #[.val (.ref o0)] [(.int (1 : Int32)), (.ref o0)])) rfl rfl (hb hby d2_6)
  replace F_line_o0 := F_line_o0.same W2
  replace E_o0 := E_o0.wr W2
  replace F_carriageReturn_o0 := F_carriageReturn_o0.other W2 (Or.inr (slot_ne (Or.inl (hw _ (List.mem_of_getElem? (i := 18) rfl))) (Or.inl (hw _ (List.mem_of_getElem? (i := 15) rfl))) (by decide) (t := .long) (t' := .int) (by decide) (by decide)))
  replace F_lineStart_o0 := F_lineStart_o0.other W2 (Or.inr (slot_ne (Or.inl (hw _ (List.mem_of_getElem? (i := 25) rfl))) (Or.inl (hw _ (List.mem_of_getElem? (i := 15) rfl))) (by decide) (t := .long) (t' := .int) (by decide) (by decide)))
  have Zz2 := Nat.le_trans Z0 (Keep.of_wr W2).1
  have Kk2 := K0.wr W2 (Or.inl (List.mem_of_getElem? (i := 0) rfl))
  have N2 := Fr.snoc X2 N0 g_o0
  refine go st2 ?_
  show Goes p.tables e below _ (T2.setTop (mkF m 9 #[.val (.ref o0)] []))
  refine go (fun t kt => XS.aloadN X2.here hx rfl (hb hby d2_9) rfl rfl kt) ?_
  show Goes p.tables e below _ (T2.setTop (mkF m 10 #[.val (.ref o0)] [(.ref o0)]))
  refine go (X2.ldc2Long hx hown (mvT hZ (hw _ (List.mem_of_getElem? (i := 16) rfl))) (g := (mkF m 10 #[.val (.ref o0)] [(.ref o0)])) rfl (hb hby d2_10)) ?_
  show Goes p.tables e below _ (T2.setTop (mkF m 13 #[.val (.ref o0)] [(.long (-2 : Int64)), (.ref o0)]))
  obtain ⟨T3, h3, X3, e3, W3, st3⟩ := putF X2 hx hZ hown (host := "") (Or.inl (hw _ (List.mem_of_getElem? (i := 17) rfl))) Via.refl e2 F_carriageReturn_o0 E_o0 (Or.inl (hw _ (List.mem_of_getElem? (i := 18) rfl))) (hw _ (List.mem_of_getElem? (i := 6) rfl)) (ty := .long) (by decide) rfl rfl (g := (mkF m 13 #[.val (.ref o0)] [(.long (-2 : Int64)), (.ref o0)])) rfl rfl (hb hby d2_13)
  replace F_carriageReturn_o0 := F_carriageReturn_o0.same W3
  replace E_o0 := E_o0.wr W3
  replace F_line_o0 := F_line_o0.other W3 (Or.inr (slot_ne (Or.inl (hw _ (List.mem_of_getElem? (i := 15) rfl))) (Or.inl (hw _ (List.mem_of_getElem? (i := 18) rfl))) (by decide) (t := .int) (t' := .long) (by decide) (by decide)))
  replace F_lineStart_o0 := F_lineStart_o0.other W3 (Or.inr (slot_ne (Or.inl (hw _ (List.mem_of_getElem? (i := 25) rfl))) (Or.inl (hw _ (List.mem_of_getElem? (i := 18) rfl))) (by decide) (t := .long) (t' := .long) (by decide) (by decide)))
  have Zz3 := Nat.le_trans Zz2 (Keep.of_wr W3).1
  have Kk3 := Kk2.wr W3 (Or.inl (List.mem_of_getElem? (i := 0) rfl))
  have N3 := Fr.snoc X3 N2 g_o0
  refine go st3 ?_
  show Goes p.tables e below _ (T3.setTop (mkF m 16 #[.val (.ref o0)] []))
  obtain ⟨fs, hr, hrun, hended, hW, hsame⟩ := X3.leave (v := none) (fun _ => rfl)
  refine ⟨_, _, X3.returnOut hx Bd.returns (hb hby d2_16) hr, hrun, hended, _, _, rfl, ?_, ⟨_, rfl⟩, hW, hsame.mono (by decide) (by decide)⟩
  show Q2 Z o0 u1 u2 w3 h0 n0 _ T3.heap _
  rw [e3]
  exact ⟨rfl, N3, Kk3, E_o0, F_line_o0, F_carriageReturn_o0, F_lineStart_o0⟩
theorem d4_0 : decode prog_37_method_3_code 0 = .ok (.iload_n 1, 1) := by decide +kernel
theorem d4_1 : decode prog_37_method_3_code 1 = .ok (.bipush 13, 2) := by decide +kernel
theorem d4_3 : decode prog_37_method_3_code 3 = .ok (.if_icmp .ne 28, 3) := by decide +kernel
theorem d4_6 : decode prog_37_method_3_code 6 = .ok (.aload_n 0, 1) := by decide +kernel
theorem d4_7 : decode prog_37_method_3_code 7 = .ok (.dup, 1) := by decide +kernel
theorem d4_8 : decode prog_37_method_3_code 8 = .ok (.getfield 7, 3) := by decide +kernel
theorem d4_11 : decode prog_37_method_3_code 11 = .ok (.iconst 1, 1) := by decide +kernel
theorem d4_12 : decode prog_37_method_3_code 12 = .ok (.iadd, 1) := by decide +kernel
theorem d4_13 : decode prog_37_method_3_code 13 = .ok (.putfield 7, 3) := by decide +kernel
theorem d4_16 : decode prog_37_method_3_code 16 = .ok (.aload_n 0, 1) := by decide +kernel
theorem d4_17 : decode prog_37_method_3_code 17 = .ok (.lload_n 2, 1) := by decide +kernel
theorem d4_18 : decode prog_37_method_3_code 18 = .ok (.putfield 15, 3) := by decide +kernel
theorem d4_21 : decode prog_37_method_3_code 21 = .ok (.aload_n 0, 1) := by decide +kernel
theorem d4_22 : decode prog_37_method_3_code 22 = .ok (.lload_n 2, 1) := by decide +kernel
theorem d4_23 : decode prog_37_method_3_code 23 = .ok (.lconst 1, 1) := by decide +kernel
theorem d4_24 : decode prog_37_method_3_code 24 = .ok (.ladd, 1) := by decide +kernel
theorem d4_25 : decode prog_37_method_3_code 25 = .ok (.putfield 20, 3) := by decide +kernel
theorem d4_28 : decode prog_37_method_3_code 28 = .ok (.goto 37, 3) := by decide +kernel
theorem d4_65 : decode prog_37_method_3_code 65 = .ok (.return_, 1) := by decide +kernel
theorem d4_31 : decode prog_37_method_3_code 31 = .ok (.iload_n 1, 1) := by decide +kernel
theorem d4_32 : decode prog_37_method_3_code 32 = .ok (.bipush 10, 2) := by decide +kernel
theorem d4_34 : decode prog_37_method_3_code 34 = .ok (.if_icmp .ne 31, 3) := by decide +kernel
theorem d4_37 : decode prog_37_method_3_code 37 = .ok (.aload_n 0, 1) := by decide +kernel
theorem d4_38 : decode prog_37_method_3_code 38 = .ok (.getfield 15, 3) := by decide +kernel
theorem d4_41 : decode prog_37_method_3_code 41 = .ok (.lload_n 2, 1) := by decide +kernel
theorem d4_42 : decode prog_37_method_3_code 42 = .ok (.lconst 1, 1) := by decide +kernel
theorem d4_43 : decode prog_37_method_3_code 43 = .ok (.lsub, 1) := by decide +kernel
theorem d4_44 : decode prog_37_method_3_code 44 = .ok (.lcmp, 1) := by decide +kernel
theorem d4_45 : decode prog_37_method_3_code 45 = .ok (.ifCond .eq 13, 3) := by decide +kernel
theorem d4_58 : decode prog_37_method_3_code 58 = .ok (.aload_n 0, 1) := by decide +kernel
theorem d4_59 : decode prog_37_method_3_code 59 = .ok (.lload_n 2, 1) := by decide +kernel
theorem d4_60 : decode prog_37_method_3_code 60 = .ok (.lconst 1, 1) := by decide +kernel
theorem d4_61 : decode prog_37_method_3_code 61 = .ok (.ladd, 1) := by decide +kernel
theorem d4_62 : decode prog_37_method_3_code 62 = .ok (.putfield 20, 3) := by decide +kernel
theorem d4_48 : decode prog_37_method_3_code 48 = .ok (.aload_n 0, 1) := by decide +kernel
theorem d4_49 : decode prog_37_method_3_code 49 = .ok (.dup, 1) := by decide +kernel
theorem d4_50 : decode prog_37_method_3_code 50 = .ok (.getfield 7, 3) := by decide +kernel
theorem d4_53 : decode prog_37_method_3_code 53 = .ok (.iconst 1, 1) := by decide +kernel
theorem d4_54 : decode prog_37_method_3_code 54 = .ok (.iadd, 1) := by decide +kernel
theorem d4_55 : decode prog_37_method_3_code 55 = .ok (.putfield 7, 3) := by decide +kernel
def own_cl (p1 : Int32) (q2 : Int64) (w1 : Int32) (w2 : Int64) : Int32 := (if p1 = (13 : Int32) then (w1 + (1 : Int32)) else (if p1 = (10 : Int32) then (if w2 = (q2 - (1 : Int64)) then w1 else (w1 + (1 : Int32))) else w1))
def own_cc (p1 : Int32) (q2 : Int64) (w2 : Int64) : Int64 := (if p1 = (13 : Int32) then q2 else w2)
def own_cs (p1 : Int32) (q2 : Int64) (w3 : Int64) : Int64 := (if p1 = (13 : Int32) then (q2 + (1 : Int64)) else (if p1 = (10 : Int32) then (q2 + (1 : Int64)) else w3))
theorem ef_4 (m : MethodId) (o0 : Addr) (p1 : Int32) (q2 : Int64) : entryFrame m #[(.ref o0), (.int p1), (.long q2)] 4 = mkF m 0 #[.val (.ref o0), .val (.int p1), .val (.long q2), .second] [] := by first | (simp [entryFrame, mkF, argsToLocals, Value.category]; done) | rfl
def Q4 (Z : State) (o0 : Addr) (p1 : Int32) (q2 : Int64) (w1 : Int32) (w2 : Int64) (w3 : Int64) (h0 : Heap) (n0 : Nat) (v : Option Value) (h : Heap) (L : List Loc) : Prop := v = none ∧ Fr n0 L ∧ Keep h0 h [o0] ∧ Exa Z h o0 "com/example/axsis/axsis/input/TextPosition" ∧ Fld Z h o0 "com/example/axsis/axsis/input/TextPosition" "line" "I" (.int (own_cl p1 q2 w1 w2)) ∧ Fld Z h o0 "com/example/axsis/axsis/input/TextPosition" "carriageReturn" "J" (.long (own_cc p1 q2 w2)) ∧ Fld Z h o0 "com/example/axsis/axsis/input/TextPosition" "lineStart" "J" (.long (own_cs p1 q2 w3))
set_option maxRecDepth 65536 in
set_option maxHeartbeats 40000000 in
theorem rm4 (l : Launch) (Z : State) (a0 : Array Value) (hw : ∀ d ∈ tables_1, d.before a0 Z = true) (ws : List Jvm.Cond) (o0 : Addr) (p1 : Int32) (q2 : Int64) (w1 : Int32) (w2 : Int64) (w3 : Int64) (h0 : Heap) (n0 : Nat) (Z0 : n0 ≤ h0.size) (E_o0 : Exa Z h0 o0 "com/example/axsis/axsis/input/TextPosition") (F_line_o0 : Fld Z h0 o0 "com/example/axsis/axsis/input/TextPosition" "line" "I" (.int w1)) (F_carriageReturn_o0 : Fld Z h0 o0 "com/example/axsis/axsis/input/TextPosition" "carriageReturn" "J" (.long w2)) (F_lineStart_o0 : Fld Z h0 o0 "com/example/axsis/axsis/input/TextPosition" "lineStart" "J" (.long w3)) (g_o0 : n0 ≤ o0) :
    MetFree l (⟨"com/example/axsis/axsis/input/TextPosition", "count", "(CJ)V"⟩ : MethodName) (head1 (Jvm.Cond.code (⟨"com/example/axsis/axsis/input/TextPosition", "count", "(CJ)V"⟩ : MethodName) prog_37_method_3_code 4 none :: ws) ({ frames := 0, cells := 0, slots := 0, locals := 0 } : Room)) (fun a U => a = #[(.ref o0), (.int p1), (.long q2)] ∧ Z.Warmed39 U.vm ∧ U.heap = h0) (fun _ _ _ _ _ => True) (fun _ U o U' => ∃ v L, o = .returned v ∧ Q4 Z o0 p1 q2 w1 w2 w3 h0 n0 v U'.heap L ∧ FrameEnd U o U' L ({ frames := 0, cells := 0, slots := 0, locals := 0 } : Room).cells ({ frames := 0, cells := 0, slots := 0, locals := 0 } : Room).slots) := by
  refine MetFree.of_bodySF (plainFor_of_name pn_2) hisR ?_
  intro p e s m args below meth c s₁ Bd hml0 hP hK
  obtain ⟨rfl, hZ, hh⟩ := hP
  have hx := Bd.exec
  have hby := Bd.bytes
  have hml : c.maxLocals = 4 := hml0
  have hown : s.vm.findClass "com/example/axsis/axsis/input/TextPosition" = some m.cls := findClass_of_methodNamed Bd.named
  have hnm := (name_of_methodNamed Bd.named Bd.method).1
  have X0 : Stand p l e ({ frames := 0, cells := 0, slots := 0, locals := 0 } : Room) s m #[(.ref o0), (.int p1), (.long q2)] below meth c s₁ [] 0 0 := Stand.of_body Bd
  have e0 : s₁.heap = h0 := by rw [← hh, Bd.state]; rfl
  have N0 := Fr.nil n0
  have K0 := Keep.refl h0 [o0]
  suffices hgo : Goes p.tables e below (fun s₂ o => ∃ v L, o = .returned v ∧ Q4 Z o0 p1 q2 w1 w2 w3 h0 n0 v s₂.heap L ∧ FrameEnd s o s₂ L ({ frames := 0, cells := 0, slots := 0, locals := 0 } : Room).cells ({ frames := 0, cells := 0, slots := 0, locals := 0 } : Room).slots) (s₁.setTop (mkF m 0 #[.val (.ref o0), .val (.int p1), .val (.long q2), .second] [])) from goEnd (fun t k => castTop (ef_4 m o0 p1 q2) k) hgo
  refine go (fun t kt => XS.iloadN X0.here hx rfl (hb hby d4_0) rfl kt) ?_
  show Goes p.tables e below _ (s₁.setTop (mkF m 1 #[.val (.ref o0), .val (.int p1), .val (.long q2), .second] [(.int p1)]))
  refine go (fun t kt => XS.bipush X0.here hx rfl (hb hby d4_1) kt) ?_
  show Goes p.tables e below _ (s₁.setTop (mkF m 3 #[.val (.ref o0), .val (.int p1), .val (.long q2), .second] [(.int (13 : Int32)), (.int p1)]))
  by_cases hc1 : p1 = (13 : Int32)
  ·
    refine go (fun t kt => XS.icmpNo X0.here hx rfl (hb hby d4_3) rfl (teq hc1).2 kt) ?_
    show Goes p.tables e below _ (s₁.setTop (mkF m 6 #[.val (.ref o0), .val (.int p1), .val (.long q2), .second] []))
    refine go (fun t kt => XS.aloadN X0.here hx rfl (hb hby d4_6) rfl rfl kt) ?_
    show Goes p.tables e below _ (s₁.setTop (mkF m 7 #[.val (.ref o0), .val (.int p1), .val (.long q2), .second] [(.ref o0)]))
    refine go (fun t kt => XS.dup X0.here hx rfl (hb hby d4_7) rfl rfl kt) ?_
    show Goes p.tables e below _ (s₁.setTop (mkF m 8 #[.val (.ref o0), .val (.int p1), .val (.long q2), .second] [(.ref o0), (.ref o0)]))
    obtain ⟨T2, X2, e2, st2⟩ := getF X0 hx hZ hown (host := "") (Or.inl (hw _ (List.mem_of_getElem? (i := 14) rfl))) Via.refl e0 F_line_o0 (g := (mkF m 8 #[.val (.ref o0), .val (.int p1), .val (.long q2), .second] [(.ref o0), (.ref o0)])) rfl rfl (hb hby d4_8)
    refine go st2 ?_
    show Goes p.tables e below _ (T2.setTop (mkF m 11 #[.val (.ref o0), .val (.int p1), .val (.long q2), .second] [(.int w1), (.ref o0)]))
    refine go (fun t kt => XS.iconst X2.here hx rfl (hb hby d4_11) kt) ?_
    show Goes p.tables e below _ (T2.setTop (mkF m 12 #[.val (.ref o0), .val (.int p1), .val (.long q2), .second] [(.int (1 : Int32)), (.int w1), (.ref o0)]))
    refine go (fun t kt => XS.iadd X2.here hx rfl (hb hby d4_12) rfl kt) ?_
    show Goes p.tables e below _ (T2.setTop (mkF m 13 #[.val (.ref o0), .val (.int p1), .val (.long q2), .second] [(.int (w1 + (1 : Int32))), (.ref o0)]))
    obtain ⟨T3, h3, X3, e3, W3, st3⟩ := putF X2 hx hZ hown (host := "") (Or.inl (hw _ (List.mem_of_getElem? (i := 14) rfl))) Via.refl e2 F_line_o0 E_o0 (Or.inl (hw _ (List.mem_of_getElem? (i := 15) rfl))) (hw _ (List.mem_of_getElem? (i := 6) rfl)) (ty := .int) (by decide) rfl rfl (g := (mkF m 13 #[.val (.ref o0), .val (.int p1), .val (.long q2), .second] [(.int (w1 + (1 : Int32))), (.ref o0)])) rfl rfl (hb hby d4_13)
    replace F_line_o0 := F_line_o0.same W3
    replace E_o0 := E_o0.wr W3
    replace F_carriageReturn_o0 := F_carriageReturn_o0.other W3 (Or.inr (slot_ne (Or.inl (hw _ (List.mem_of_getElem? (i := 18) rfl))) (Or.inl (hw _ (List.mem_of_getElem? (i := 15) rfl))) (by decide) (t := .long) (t' := .int) (by decide) (by decide)))
    replace F_lineStart_o0 := F_lineStart_o0.other W3 (Or.inr (slot_ne (Or.inl (hw _ (List.mem_of_getElem? (i := 25) rfl))) (Or.inl (hw _ (List.mem_of_getElem? (i := 15) rfl))) (by decide) (t := .long) (t' := .int) (by decide) (by decide)))
    have Zz3 := Nat.le_trans Z0 (Keep.of_wr W3).1
    have Kk3 := K0.wr W3 (Or.inl (List.mem_of_getElem? (i := 0) rfl))
    have N3 := Fr.snoc X3 N0 g_o0
    refine go st3 ?_
    show Goes p.tables e below _ (T3.setTop (mkF m 16 #[.val (.ref o0), .val (.int p1), .val (.long q2), .second] []))
    refine go (fun t kt => XS.aloadN X3.here hx rfl (hb hby d4_16) rfl rfl kt) ?_
    show Goes p.tables e below _ (T3.setTop (mkF m 17 #[.val (.ref o0), .val (.int p1), .val (.long q2), .second] [(.ref o0)]))
    refine go (fun t kt => XS.lloadN X3.here hx rfl (hb hby d4_17) rfl kt) ?_
    show Goes p.tables e below _ (T3.setTop (mkF m 18 #[.val (.ref o0), .val (.int p1), .val (.long q2), .second] [(.long q2), (.ref o0)]))
    obtain ⟨T4, h4, X4, e4, W4, st4⟩ := putF X3 hx hZ hown (host := "") (Or.inl (hw _ (List.mem_of_getElem? (i := 17) rfl))) Via.refl e3 F_carriageReturn_o0 E_o0 (Or.inl (hw _ (List.mem_of_getElem? (i := 18) rfl))) (hw _ (List.mem_of_getElem? (i := 6) rfl)) (ty := .long) (by decide) rfl rfl (g := (mkF m 18 #[.val (.ref o0), .val (.int p1), .val (.long q2), .second] [(.long q2), (.ref o0)])) rfl rfl (hb hby d4_18)
    replace F_carriageReturn_o0 := F_carriageReturn_o0.same W4
    replace E_o0 := E_o0.wr W4
    replace F_line_o0 := F_line_o0.other W4 (Or.inr (slot_ne (Or.inl (hw _ (List.mem_of_getElem? (i := 15) rfl))) (Or.inl (hw _ (List.mem_of_getElem? (i := 18) rfl))) (by decide) (t := .int) (t' := .long) (by decide) (by decide)))
    replace F_lineStart_o0 := F_lineStart_o0.other W4 (Or.inr (slot_ne (Or.inl (hw _ (List.mem_of_getElem? (i := 25) rfl))) (Or.inl (hw _ (List.mem_of_getElem? (i := 18) rfl))) (by decide) (t := .long) (t' := .long) (by decide) (by decide)))
    have Zz4 := Nat.le_trans Zz3 (Keep.of_wr W4).1
    have Kk4 := Kk3.wr W4 (Or.inl (List.mem_of_getElem? (i := 0) rfl))
    have N4 := Fr.snoc X4 N3 g_o0
    refine go st4 ?_
    show Goes p.tables e below _ (T4.setTop (mkF m 21 #[.val (.ref o0), .val (.int p1), .val (.long q2), .second] []))
    refine go (fun t kt => XS.aloadN X4.here hx rfl (hb hby d4_21) rfl rfl kt) ?_
    show Goes p.tables e below _ (T4.setTop (mkF m 22 #[.val (.ref o0), .val (.int p1), .val (.long q2), .second] [(.ref o0)]))
    refine go (fun t kt => XS.lloadN X4.here hx rfl (hb hby d4_22) rfl kt) ?_
    show Goes p.tables e below _ (T4.setTop (mkF m 23 #[.val (.ref o0), .val (.int p1), .val (.long q2), .second] [(.long q2), (.ref o0)]))
    refine go (fun t kt => XS.lconst X4.here hx rfl (hb hby d4_23) kt) ?_
    show Goes p.tables e below _ (T4.setTop (mkF m 24 #[.val (.ref o0), .val (.int p1), .val (.long q2), .second] [(.long (1 : Int64)), (.long q2), (.ref o0)]))
    refine go (fun t kt => XS.ladd X4.here hx rfl (hb hby d4_24) rfl kt) ?_
    show Goes p.tables e below _ (T4.setTop (mkF m 25 #[.val (.ref o0), .val (.int p1), .val (.long q2), .second] [(.long (q2 + (1 : Int64))), (.ref o0)]))
    obtain ⟨T5, h5, X5, e5, W5, st5⟩ := putF X4 hx hZ hown (host := "") (Or.inl (hw _ (List.mem_of_getElem? (i := 24) rfl))) Via.refl e4 F_lineStart_o0 E_o0 (Or.inl (hw _ (List.mem_of_getElem? (i := 25) rfl))) (hw _ (List.mem_of_getElem? (i := 6) rfl)) (ty := .long) (by decide) rfl rfl (g := (mkF m 25 #[.val (.ref o0), .val (.int p1), .val (.long q2), .second] [(.long (q2 + (1 : Int64))), (.ref o0)])) rfl rfl (hb hby d4_25)
    replace F_lineStart_o0 := F_lineStart_o0.same W5
    replace E_o0 := E_o0.wr W5
    replace F_line_o0 := F_line_o0.other W5 (Or.inr (slot_ne (Or.inl (hw _ (List.mem_of_getElem? (i := 15) rfl))) (Or.inl (hw _ (List.mem_of_getElem? (i := 25) rfl))) (by decide) (t := .int) (t' := .long) (by decide) (by decide)))
    replace F_carriageReturn_o0 := F_carriageReturn_o0.other W5 (Or.inr (slot_ne (Or.inl (hw _ (List.mem_of_getElem? (i := 18) rfl))) (Or.inl (hw _ (List.mem_of_getElem? (i := 25) rfl))) (by decide) (t := .long) (t' := .long) (by decide) (by decide)))
    have Zz5 := Nat.le_trans Zz4 (Keep.of_wr W5).1
    have Kk5 := Kk4.wr W5 (Or.inl (List.mem_of_getElem? (i := 0) rfl))
    have N5 := Fr.snoc X5 N4 g_o0
    refine go st5 ?_
    show Goes p.tables e below _ (T5.setTop (mkF m 28 #[.val (.ref o0), .val (.int p1), .val (.long q2), .second] []))
    refine go (fun t kt => XS.goto X5.here hx rfl (pc0 := 28) (pc' := 65) rfl (hb hby d4_28) (by decide) (by decide) kt) ?_
    show Goes p.tables e below _ (T5.setTop (mkF m 65 #[.val (.ref o0), .val (.int p1), .val (.long q2), .second] []))
    obtain ⟨fs, hr, hrun, hended, hW, hsame⟩ := X5.leave (v := none) (fun _ => rfl)
    refine ⟨_, _, X5.returnOut hx Bd.returns (hb hby d4_65) hr, hrun, hended, _, _, rfl, ?_, ⟨_, rfl⟩, hW, hsame.mono (by decide) (by decide)⟩
    show Q4 Z o0 p1 q2 w1 w2 w3 h0 n0 _ T5.heap _
    rw [e5]
    exact ⟨rfl, N5, Kk5, E_o0, (by unfold own_cl; rw [if_pos hc1]; exact F_line_o0), (by unfold own_cc; rw [if_pos hc1]; exact F_carriageReturn_o0), (by unfold own_cs; rw [if_pos hc1]; exact F_lineStart_o0)⟩
  ·
    refine go (fun t kt => XS.icmpYes X0.here hx rfl (pc0 := 3) (pc' := 31) rfl (hb hby d4_3) rfl (feq hc1).2 (by decide) (by decide) kt) ?_
    show Goes p.tables e below _ (s₁.setTop (mkF m 31 #[.val (.ref o0), .val (.int p1), .val (.long q2), .second] []))
    refine go (fun t kt => XS.iloadN X0.here hx rfl (hb hby d4_31) rfl kt) ?_
    show Goes p.tables e below _ (s₁.setTop (mkF m 32 #[.val (.ref o0), .val (.int p1), .val (.long q2), .second] [(.int p1)]))
    refine go (fun t kt => XS.bipush X0.here hx rfl (hb hby d4_32) kt) ?_
    show Goes p.tables e below _ (s₁.setTop (mkF m 34 #[.val (.ref o0), .val (.int p1), .val (.long q2), .second] [(.int (10 : Int32)), (.int p1)]))
    by_cases hc7 : p1 = (10 : Int32)
    ·
      refine go (fun t kt => XS.icmpNo X0.here hx rfl (hb hby d4_34) rfl (teq hc7).2 kt) ?_
      show Goes p.tables e below _ (s₁.setTop (mkF m 37 #[.val (.ref o0), .val (.int p1), .val (.long q2), .second] []))
      refine go (fun t kt => XS.aloadN X0.here hx rfl (hb hby d4_37) rfl rfl kt) ?_
      show Goes p.tables e below _ (s₁.setTop (mkF m 38 #[.val (.ref o0), .val (.int p1), .val (.long q2), .second] [(.ref o0)]))
      obtain ⟨T8, X8, e8, st8⟩ := getF X0 hx hZ hown (host := "") (Or.inl (hw _ (List.mem_of_getElem? (i := 17) rfl))) Via.refl e0 F_carriageReturn_o0 (g := (mkF m 38 #[.val (.ref o0), .val (.int p1), .val (.long q2), .second] [(.ref o0)])) rfl rfl (hb hby d4_38)
      refine go st8 ?_
      show Goes p.tables e below _ (T8.setTop (mkF m 41 #[.val (.ref o0), .val (.int p1), .val (.long q2), .second] [(.long w2)]))
      refine go (fun t kt => XS.lloadN X8.here hx rfl (hb hby d4_41) rfl kt) ?_
      show Goes p.tables e below _ (T8.setTop (mkF m 42 #[.val (.ref o0), .val (.int p1), .val (.long q2), .second] [(.long q2), (.long w2)]))
      refine go (fun t kt => XS.lconst X8.here hx rfl (hb hby d4_42) kt) ?_
      show Goes p.tables e below _ (T8.setTop (mkF m 43 #[.val (.ref o0), .val (.int p1), .val (.long q2), .second] [(.long (1 : Int64)), (.long q2), (.long w2)]))
      refine go (fun t kt => XS.lsub X8.here hx rfl (hb hby d4_43) rfl kt) ?_
      show Goes p.tables e below _ (T8.setTop (mkF m 44 #[.val (.ref o0), .val (.int p1), .val (.long q2), .second] [(.long (q2 - (1 : Int64))), (.long w2)]))
      refine go (fun t kt => XS.lcmp X8.here hx rfl (hb hby d4_44) rfl kt) ?_
      show Goes p.tables e below _ (T8.setTop (mkF m 45 #[.val (.ref o0), .val (.int p1), .val (.long q2), .second] [(.int (lcmpW w2 (q2 - (1 : Int64))))]))
      by_cases hc9 : w2 = (q2 - (1 : Int64))
      ·
        refine go (fun t kt => XS.ifYes X8.here hx rfl (pc0 := 45) (pc' := 58) rfl (hb hby d4_45) rfl ((if0 _ _).trans (teq ((lw_eq w2 (q2 - (1 : Int64))).mpr hc9)).1) (by decide) (by decide) kt) ?_
        show Goes p.tables e below _ (T8.setTop (mkF m 58 #[.val (.ref o0), .val (.int p1), .val (.long q2), .second] []))
        refine go (fun t kt => XS.aloadN X8.here hx rfl (hb hby d4_58) rfl rfl kt) ?_
        show Goes p.tables e below _ (T8.setTop (mkF m 59 #[.val (.ref o0), .val (.int p1), .val (.long q2), .second] [(.ref o0)]))
        refine go (fun t kt => XS.lloadN X8.here hx rfl (hb hby d4_59) rfl kt) ?_
        show Goes p.tables e below _ (T8.setTop (mkF m 60 #[.val (.ref o0), .val (.int p1), .val (.long q2), .second] [(.long q2), (.ref o0)]))
        refine go (fun t kt => XS.lconst X8.here hx rfl (hb hby d4_60) kt) ?_
        show Goes p.tables e below _ (T8.setTop (mkF m 61 #[.val (.ref o0), .val (.int p1), .val (.long q2), .second] [(.long (1 : Int64)), (.long q2), (.ref o0)]))
        refine go (fun t kt => XS.ladd X8.here hx rfl (hb hby d4_61) rfl kt) ?_
        show Goes p.tables e below _ (T8.setTop (mkF m 62 #[.val (.ref o0), .val (.int p1), .val (.long q2), .second] [(.long (q2 + (1 : Int64))), (.ref o0)]))
        obtain ⟨T10, h10, X10, e10, W10, st10⟩ := putF X8 hx hZ hown (host := "") (Or.inl (hw _ (List.mem_of_getElem? (i := 24) rfl))) Via.refl e8 F_lineStart_o0 E_o0 (Or.inl (hw _ (List.mem_of_getElem? (i := 25) rfl))) (hw _ (List.mem_of_getElem? (i := 6) rfl)) (ty := .long) (by decide) rfl rfl (g := (mkF m 62 #[.val (.ref o0), .val (.int p1), .val (.long q2), .second] [(.long (q2 + (1 : Int64))), (.ref o0)])) rfl rfl (hb hby d4_62)
        replace F_lineStart_o0 := F_lineStart_o0.same W10
        replace E_o0 := E_o0.wr W10
        replace F_line_o0 := F_line_o0.other W10 (Or.inr (slot_ne (Or.inl (hw _ (List.mem_of_getElem? (i := 15) rfl))) (Or.inl (hw _ (List.mem_of_getElem? (i := 25) rfl))) (by decide) (t := .int) (t' := .long) (by decide) (by decide)))
        replace F_carriageReturn_o0 := F_carriageReturn_o0.other W10 (Or.inr (slot_ne (Or.inl (hw _ (List.mem_of_getElem? (i := 18) rfl))) (Or.inl (hw _ (List.mem_of_getElem? (i := 25) rfl))) (by decide) (t := .long) (t' := .long) (by decide) (by decide)))
        have Zz10 := Nat.le_trans Z0 (Keep.of_wr W10).1
        have Kk10 := K0.wr W10 (Or.inl (List.mem_of_getElem? (i := 0) rfl))
        have N10 := Fr.snoc X10 N0 g_o0
        refine go st10 ?_
        show Goes p.tables e below _ (T10.setTop (mkF m 65 #[.val (.ref o0), .val (.int p1), .val (.long q2), .second] []))
        obtain ⟨fs, hr, hrun, hended, hW, hsame⟩ := X10.leave (v := none) (fun _ => rfl)
        refine ⟨_, _, X10.returnOut hx Bd.returns (hb hby d4_65) hr, hrun, hended, _, _, rfl, ?_, ⟨_, rfl⟩, hW, hsame.mono (by decide) (by decide)⟩
        show Q4 Z o0 p1 q2 w1 w2 w3 h0 n0 _ T10.heap _
        rw [e10]
        exact ⟨rfl, N10, Kk10, E_o0, (by unfold own_cl; rw [if_neg hc1, if_pos hc7, if_pos hc9]; exact F_line_o0), (by unfold own_cc; rw [if_neg hc1]; exact F_carriageReturn_o0), (by unfold own_cs; rw [if_neg hc1, if_pos hc7]; exact F_lineStart_o0)⟩
      ·
        refine go (fun t kt => XS.ifNo X8.here hx rfl (hb hby d4_45) rfl ((if0 _ _).trans (feq (fun q => hc9 ((lw_eq w2 (q2 - (1 : Int64))).mp q))).1) kt) ?_
        show Goes p.tables e below _ (T8.setTop (mkF m 48 #[.val (.ref o0), .val (.int p1), .val (.long q2), .second] []))
        refine go (fun t kt => XS.aloadN X8.here hx rfl (hb hby d4_48) rfl rfl kt) ?_
        show Goes p.tables e below _ (T8.setTop (mkF m 49 #[.val (.ref o0), .val (.int p1), .val (.long q2), .second] [(.ref o0)]))
        refine go (fun t kt => XS.dup X8.here hx rfl (hb hby d4_49) rfl rfl kt) ?_
        show Goes p.tables e below _ (T8.setTop (mkF m 50 #[.val (.ref o0), .val (.int p1), .val (.long q2), .second] [(.ref o0), (.ref o0)]))
        obtain ⟨T12, X12, e12, st12⟩ := getF X8 hx hZ hown (host := "") (Or.inl (hw _ (List.mem_of_getElem? (i := 14) rfl))) Via.refl e8 F_line_o0 (g := (mkF m 50 #[.val (.ref o0), .val (.int p1), .val (.long q2), .second] [(.ref o0), (.ref o0)])) rfl rfl (hb hby d4_50)
        refine go st12 ?_
        show Goes p.tables e below _ (T12.setTop (mkF m 53 #[.val (.ref o0), .val (.int p1), .val (.long q2), .second] [(.int w1), (.ref o0)]))
        refine go (fun t kt => XS.iconst X12.here hx rfl (hb hby d4_53) kt) ?_
        show Goes p.tables e below _ (T12.setTop (mkF m 54 #[.val (.ref o0), .val (.int p1), .val (.long q2), .second] [(.int (1 : Int32)), (.int w1), (.ref o0)]))
        refine go (fun t kt => XS.iadd X12.here hx rfl (hb hby d4_54) rfl kt) ?_
        show Goes p.tables e below _ (T12.setTop (mkF m 55 #[.val (.ref o0), .val (.int p1), .val (.long q2), .second] [(.int (w1 + (1 : Int32))), (.ref o0)]))
        obtain ⟨T13, h13, X13, e13, W13, st13⟩ := putF X12 hx hZ hown (host := "") (Or.inl (hw _ (List.mem_of_getElem? (i := 14) rfl))) Via.refl e12 F_line_o0 E_o0 (Or.inl (hw _ (List.mem_of_getElem? (i := 15) rfl))) (hw _ (List.mem_of_getElem? (i := 6) rfl)) (ty := .int) (by decide) rfl rfl (g := (mkF m 55 #[.val (.ref o0), .val (.int p1), .val (.long q2), .second] [(.int (w1 + (1 : Int32))), (.ref o0)])) rfl rfl (hb hby d4_55)
        replace F_line_o0 := F_line_o0.same W13
        replace E_o0 := E_o0.wr W13
        replace F_carriageReturn_o0 := F_carriageReturn_o0.other W13 (Or.inr (slot_ne (Or.inl (hw _ (List.mem_of_getElem? (i := 18) rfl))) (Or.inl (hw _ (List.mem_of_getElem? (i := 15) rfl))) (by decide) (t := .long) (t' := .int) (by decide) (by decide)))
        replace F_lineStart_o0 := F_lineStart_o0.other W13 (Or.inr (slot_ne (Or.inl (hw _ (List.mem_of_getElem? (i := 25) rfl))) (Or.inl (hw _ (List.mem_of_getElem? (i := 15) rfl))) (by decide) (t := .long) (t' := .int) (by decide) (by decide)))
        have Zz13 := Nat.le_trans Z0 (Keep.of_wr W13).1
        have Kk13 := K0.wr W13 (Or.inl (List.mem_of_getElem? (i := 0) rfl))
        have N13 := Fr.snoc X13 N0 g_o0
        refine go st13 ?_
        show Goes p.tables e below _ (T13.setTop (mkF m 58 #[.val (.ref o0), .val (.int p1), .val (.long q2), .second] []))
        refine go (fun t kt => XS.aloadN X13.here hx rfl (hb hby d4_58) rfl rfl kt) ?_
        show Goes p.tables e below _ (T13.setTop (mkF m 59 #[.val (.ref o0), .val (.int p1), .val (.long q2), .second] [(.ref o0)]))
        refine go (fun t kt => XS.lloadN X13.here hx rfl (hb hby d4_59) rfl kt) ?_
        show Goes p.tables e below _ (T13.setTop (mkF m 60 #[.val (.ref o0), .val (.int p1), .val (.long q2), .second] [(.long q2), (.ref o0)]))
        refine go (fun t kt => XS.lconst X13.here hx rfl (hb hby d4_60) kt) ?_
        show Goes p.tables e below _ (T13.setTop (mkF m 61 #[.val (.ref o0), .val (.int p1), .val (.long q2), .second] [(.long (1 : Int64)), (.long q2), (.ref o0)]))
        refine go (fun t kt => XS.ladd X13.here hx rfl (hb hby d4_61) rfl kt) ?_
        show Goes p.tables e below _ (T13.setTop (mkF m 62 #[.val (.ref o0), .val (.int p1), .val (.long q2), .second] [(.long (q2 + (1 : Int64))), (.ref o0)]))
        obtain ⟨T14, h14, X14, e14, W14, st14⟩ := putF X13 hx hZ hown (host := "") (Or.inl (hw _ (List.mem_of_getElem? (i := 24) rfl))) Via.refl e13 F_lineStart_o0 E_o0 (Or.inl (hw _ (List.mem_of_getElem? (i := 25) rfl))) (hw _ (List.mem_of_getElem? (i := 6) rfl)) (ty := .long) (by decide) rfl rfl (g := (mkF m 62 #[.val (.ref o0), .val (.int p1), .val (.long q2), .second] [(.long (q2 + (1 : Int64))), (.ref o0)])) rfl rfl (hb hby d4_62)
        replace F_lineStart_o0 := F_lineStart_o0.same W14
        replace E_o0 := E_o0.wr W14
        replace F_line_o0 := F_line_o0.other W14 (Or.inr (slot_ne (Or.inl (hw _ (List.mem_of_getElem? (i := 15) rfl))) (Or.inl (hw _ (List.mem_of_getElem? (i := 25) rfl))) (by decide) (t := .int) (t' := .long) (by decide) (by decide)))
        replace F_carriageReturn_o0 := F_carriageReturn_o0.other W14 (Or.inr (slot_ne (Or.inl (hw _ (List.mem_of_getElem? (i := 18) rfl))) (Or.inl (hw _ (List.mem_of_getElem? (i := 25) rfl))) (by decide) (t := .long) (t' := .long) (by decide) (by decide)))
        have Zz14 := Nat.le_trans Zz13 (Keep.of_wr W14).1
        have Kk14 := Kk13.wr W14 (Or.inl (List.mem_of_getElem? (i := 0) rfl))
        have N14 := Fr.snoc X14 N13 g_o0
        refine go st14 ?_
        show Goes p.tables e below _ (T14.setTop (mkF m 65 #[.val (.ref o0), .val (.int p1), .val (.long q2), .second] []))
        obtain ⟨fs, hr, hrun, hended, hW, hsame⟩ := X14.leave (v := none) (fun _ => rfl)
        refine ⟨_, _, X14.returnOut hx Bd.returns (hb hby d4_65) hr, hrun, hended, _, _, rfl, ?_, ⟨_, rfl⟩, hW, hsame.mono (by decide) (by decide)⟩
        show Q4 Z o0 p1 q2 w1 w2 w3 h0 n0 _ T14.heap _
        rw [e14]
        exact ⟨rfl, N14, Kk14, E_o0, (by unfold own_cl; rw [if_neg hc1, if_pos hc7, if_neg hc9]; exact F_line_o0), (by unfold own_cc; rw [if_neg hc1]; exact F_carriageReturn_o0), (by unfold own_cs; rw [if_neg hc1, if_pos hc7]; exact F_lineStart_o0)⟩
    ·
      refine go (fun t kt => XS.icmpYes X0.here hx rfl (pc0 := 34) (pc' := 65) rfl (hb hby d4_34) rfl (feq hc7).2 (by decide) (by decide) kt) ?_
      show Goes p.tables e below _ (s₁.setTop (mkF m 65 #[.val (.ref o0), .val (.int p1), .val (.long q2), .second] []))
      obtain ⟨fs, hr, hrun, hended, hW, hsame⟩ := X0.leave (v := none) (fun _ => rfl)
      refine ⟨_, _, X0.returnOut hx Bd.returns (hb hby d4_65) hr, hrun, hended, _, _, rfl, ?_, ⟨_, rfl⟩, hW, hsame.mono (by decide) (by decide)⟩
      show Q4 Z o0 p1 q2 w1 w2 w3 h0 n0 _ s₁.heap _
      rw [e0]
      exact ⟨rfl, N0, K0, E_o0, (by unfold own_cl; rw [if_neg hc1, if_neg hc7]; exact F_line_o0), (by unfold own_cc; rw [if_neg hc1]; exact F_carriageReturn_o0), (by unfold own_cs; rw [if_neg hc1, if_neg hc7]; exact F_lineStart_o0)⟩
theorem d6_0 : decode prog_37_method_4_code 0 = .ok (.aload_n 0, 1) := by decide +kernel
theorem d6_1 : decode prog_37_method_4_code 1 = .ok (.getfield 7, 3) := by decide +kernel
theorem d6_4 : decode prog_37_method_4_code 4 = .ok (.ireturn, 1) := by decide +kernel
def own_line (w1 : Int32) : Int32 := w1
theorem ef_6 (m : MethodId) (o0 : Addr) : entryFrame m #[(.ref o0)] 1 = mkF m 0 #[.val (.ref o0)] [] := by first | (simp [entryFrame, mkF, argsToLocals, Value.category]; done) | rfl
def Q6 (Z : State) (o0 : Addr) (w1 : Int32) (h0 : Heap) (n0 : Nat) (v : Option Value) (h : Heap) (L : List Loc) : Prop := v = some (.int (own_line w1)) ∧ Fr n0 L ∧ h = h0
set_option maxRecDepth 65536 in
set_option maxHeartbeats 40000000 in
theorem rm6 (l : Launch) (Z : State) (a0 : Array Value) (hw : ∀ d ∈ tables_1, d.before a0 Z = true) (ws : List Jvm.Cond) (o0 : Addr) (w1 : Int32) (h0 : Heap) (n0 : Nat) (Z0 : n0 ≤ h0.size) (F_line_o0 : Fld Z h0 o0 "com/example/axsis/axsis/input/TextPosition" "line" "I" (.int w1)) :
    MetFree l (⟨"com/example/axsis/axsis/input/TextPosition", "line", "()I"⟩ : MethodName) (head1 (Jvm.Cond.code (⟨"com/example/axsis/axsis/input/TextPosition", "line", "()I"⟩ : MethodName) prog_37_method_4_code 1 (some .int) :: ws) ({ frames := 0, cells := 0, slots := 0, locals := 0 } : Room)) (fun a U => a = #[(.ref o0)] ∧ Z.Warmed39 U.vm ∧ U.heap = h0) (fun _ _ _ _ _ => True) (fun _ U o U' => ∃ v L, o = .returned v ∧ Q6 Z o0 w1 h0 n0 v U'.heap L ∧ FrameEnd U o U' L ({ frames := 0, cells := 0, slots := 0, locals := 0 } : Room).cells ({ frames := 0, cells := 0, slots := 0, locals := 0 } : Room).slots) := by
  refine MetFree.of_bodySF (plainFor_of_name pn_2) hisR ?_
  intro p e s m args below meth c s₁ Bd hml0 hP hK
  obtain ⟨rfl, hZ, hh⟩ := hP
  have hx := Bd.exec
  have hby := Bd.bytes
  have hml : c.maxLocals = 1 := hml0
  have hown : s.vm.findClass "com/example/axsis/axsis/input/TextPosition" = some m.cls := findClass_of_methodNamed Bd.named
  have hnm := (name_of_methodNamed Bd.named Bd.method).1
  have X0 : Stand p l e ({ frames := 0, cells := 0, slots := 0, locals := 0 } : Room) s m #[(.ref o0)] below meth c s₁ [] 0 0 := Stand.of_body Bd
  have e0 : s₁.heap = h0 := by rw [← hh, Bd.state]; rfl
  have N0 := Fr.nil n0
  have K0 := Keep.refl h0 []
  suffices hgo : Goes p.tables e below (fun s₂ o => ∃ v L, o = .returned v ∧ Q6 Z o0 w1 h0 n0 v s₂.heap L ∧ FrameEnd s o s₂ L ({ frames := 0, cells := 0, slots := 0, locals := 0 } : Room).cells ({ frames := 0, cells := 0, slots := 0, locals := 0 } : Room).slots) (s₁.setTop (mkF m 0 #[.val (.ref o0)] [])) from goEnd (fun t k => castTop (ef_6 m o0) k) hgo
  refine go (fun t kt => XS.aloadN X0.here hx rfl (hb hby d6_0) rfl rfl kt) ?_
  show Goes p.tables e below _ (s₁.setTop (mkF m 1 #[.val (.ref o0)] [(.ref o0)]))
  obtain ⟨T1, X1, e1, st1⟩ := getF X0 hx hZ hown (host := "") (Or.inl (hw _ (List.mem_of_getElem? (i := 14) rfl))) Via.refl e0 F_line_o0 (g := (mkF m 1 #[.val (.ref o0)] [(.ref o0)])) rfl rfl (hb hby d6_1)
  refine go st1 ?_
  show Goes p.tables e below _ (T1.setTop (mkF m 4 #[.val (.ref o0)] [(.int w1)]))
  obtain ⟨fs, hr, hrun, hended, hW, hsame⟩ := X1.leave (v := some (.int w1)) (fun h => by rw [Bd.returns] at h; cases h)
  refine ⟨_, _, retOut X1 hx (i := .ireturn) Bd.returns rfl (Or.inl ⟨rfl, Or.inl rfl, _, rfl⟩) (hb hby d6_4) hr, hrun, hended, _, _, rfl, ?_, ⟨_, rfl⟩, hW, hsame.mono (by decide) (by decide)⟩
  show Q6 Z o0 w1 h0 n0 _ T1.heap _
  rw [e1]
  exact ⟨rfl, N0, rfl⟩
theorem d7_0 : decode prog_37_method_5_code 0 = .ok (.lload_n 1, 1) := by decide +kernel
theorem d7_1 : decode prog_37_method_5_code 1 = .ok (.aload_n 0, 1) := by decide +kernel
theorem d7_2 : decode prog_37_method_5_code 2 = .ok (.getfield 20, 3) := by decide +kernel
theorem d7_5 : decode prog_37_method_5_code 5 = .ok (.lsub, 1) := by decide +kernel
theorem d7_6 : decode prog_37_method_5_code 6 = .ok (.lconst 1, 1) := by decide +kernel
theorem d7_7 : decode prog_37_method_5_code 7 = .ok (.ladd, 1) := by decide +kernel
theorem d7_8 : decode prog_37_method_5_code 8 = .ok (.l2i, 1) := by decide +kernel
theorem d7_9 : decode prog_37_method_5_code 9 = .ok (.ireturn, 1) := by decide +kernel
def own_col (q1 : Int64) (w1 : Int64) : Int32 := (((q1 - w1) + (1 : Int64)).toInt32)
theorem ef_7 (m : MethodId) (o0 : Addr) (q1 : Int64) : entryFrame m #[(.ref o0), (.long q1)] 3 = mkF m 0 #[.val (.ref o0), .val (.long q1), .second] [] := by first | (simp [entryFrame, mkF, argsToLocals, Value.category]; done) | rfl
def Q7 (Z : State) (o0 : Addr) (q1 : Int64) (w1 : Int64) (h0 : Heap) (n0 : Nat) (v : Option Value) (h : Heap) (L : List Loc) : Prop := v = some (.int (own_col q1 w1)) ∧ Fr n0 L ∧ h = h0
set_option maxRecDepth 65536 in
set_option maxHeartbeats 40000000 in
theorem rm7 (l : Launch) (Z : State) (a0 : Array Value) (hw : ∀ d ∈ tables_1, d.before a0 Z = true) (ws : List Jvm.Cond) (o0 : Addr) (q1 : Int64) (w1 : Int64) (h0 : Heap) (n0 : Nat) (Z0 : n0 ≤ h0.size) (F_lineStart_o0 : Fld Z h0 o0 "com/example/axsis/axsis/input/TextPosition" "lineStart" "J" (.long w1)) :
    MetFree l (⟨"com/example/axsis/axsis/input/TextPosition", "column", "(J)I"⟩ : MethodName) (head1 (Jvm.Cond.code (⟨"com/example/axsis/axsis/input/TextPosition", "column", "(J)I"⟩ : MethodName) prog_37_method_5_code 3 (some .int) :: ws) ({ frames := 0, cells := 0, slots := 0, locals := 0 } : Room)) (fun a U => a = #[(.ref o0), (.long q1)] ∧ Z.Warmed39 U.vm ∧ U.heap = h0) (fun _ _ _ _ _ => True) (fun _ U o U' => ∃ v L, o = .returned v ∧ Q7 Z o0 q1 w1 h0 n0 v U'.heap L ∧ FrameEnd U o U' L ({ frames := 0, cells := 0, slots := 0, locals := 0 } : Room).cells ({ frames := 0, cells := 0, slots := 0, locals := 0 } : Room).slots) := by
  refine MetFree.of_bodySF (plainFor_of_name pn_2) hisR ?_
  intro p e s m args below meth c s₁ Bd hml0 hP hK
  obtain ⟨rfl, hZ, hh⟩ := hP
  have hx := Bd.exec
  have hby := Bd.bytes
  have hml : c.maxLocals = 3 := hml0
  have hown : s.vm.findClass "com/example/axsis/axsis/input/TextPosition" = some m.cls := findClass_of_methodNamed Bd.named
  have hnm := (name_of_methodNamed Bd.named Bd.method).1
  have X0 : Stand p l e ({ frames := 0, cells := 0, slots := 0, locals := 0 } : Room) s m #[(.ref o0), (.long q1)] below meth c s₁ [] 0 0 := Stand.of_body Bd
  have e0 : s₁.heap = h0 := by rw [← hh, Bd.state]; rfl
  have N0 := Fr.nil n0
  have K0 := Keep.refl h0 []
  suffices hgo : Goes p.tables e below (fun s₂ o => ∃ v L, o = .returned v ∧ Q7 Z o0 q1 w1 h0 n0 v s₂.heap L ∧ FrameEnd s o s₂ L ({ frames := 0, cells := 0, slots := 0, locals := 0 } : Room).cells ({ frames := 0, cells := 0, slots := 0, locals := 0 } : Room).slots) (s₁.setTop (mkF m 0 #[.val (.ref o0), .val (.long q1), .second] [])) from goEnd (fun t k => castTop (ef_7 m o0 q1) k) hgo
  refine go (fun t kt => XS.lloadN X0.here hx rfl (hb hby d7_0) rfl kt) ?_
  show Goes p.tables e below _ (s₁.setTop (mkF m 1 #[.val (.ref o0), .val (.long q1), .second] [(.long q1)]))
  refine go (fun t kt => XS.aloadN X0.here hx rfl (hb hby d7_1) rfl rfl kt) ?_
  show Goes p.tables e below _ (s₁.setTop (mkF m 2 #[.val (.ref o0), .val (.long q1), .second] [(.ref o0), (.long q1)]))
  obtain ⟨T1, X1, e1, st1⟩ := getF X0 hx hZ hown (host := "") (Or.inl (hw _ (List.mem_of_getElem? (i := 24) rfl))) Via.refl e0 F_lineStart_o0 (g := (mkF m 2 #[.val (.ref o0), .val (.long q1), .second] [(.ref o0), (.long q1)])) rfl rfl (hb hby d7_2)
  refine go st1 ?_
  show Goes p.tables e below _ (T1.setTop (mkF m 5 #[.val (.ref o0), .val (.long q1), .second] [(.long w1), (.long q1)]))
  refine go (fun t kt => XS.lsub X1.here hx rfl (hb hby d7_5) rfl kt) ?_
  show Goes p.tables e below _ (T1.setTop (mkF m 6 #[.val (.ref o0), .val (.long q1), .second] [(.long (q1 - w1))]))
  refine go (fun t kt => XS.lconst X1.here hx rfl (hb hby d7_6) kt) ?_
  show Goes p.tables e below _ (T1.setTop (mkF m 7 #[.val (.ref o0), .val (.long q1), .second] [(.long (1 : Int64)), (.long (q1 - w1))]))
  refine go (fun t kt => XS.ladd X1.here hx rfl (hb hby d7_7) rfl kt) ?_
  show Goes p.tables e below _ (T1.setTop (mkF m 8 #[.val (.ref o0), .val (.long q1), .second] [(.long ((q1 - w1) + (1 : Int64)))]))
  refine go (fun t kt => XS.l2i X1.here hx rfl (hb hby d7_8) rfl kt) ?_
  show Goes p.tables e below _ (T1.setTop (mkF m 9 #[.val (.ref o0), .val (.long q1), .second] [(.int (((q1 - w1) + (1 : Int64)).toInt32))]))
  obtain ⟨fs, hr, hrun, hended, hW, hsame⟩ := X1.leave (v := some (.int (((q1 - w1) + (1 : Int64)).toInt32))) (fun h => by rw [Bd.returns] at h; cases h)
  refine ⟨_, _, retOut X1 hx (i := .ireturn) Bd.returns rfl (Or.inl ⟨rfl, Or.inl rfl, _, rfl⟩) (hb hby d7_9) hr, hrun, hended, _, _, rfl, ?_, ⟨_, rfl⟩, hW, hsame.mono (by decide) (by decide)⟩
  show Q7 Z o0 q1 w1 h0 n0 _ T1.heap _
  rw [e1]
  exact ⟨rfl, N0, rfl⟩
theorem own_ne (o : Int64) (ho : 0 ≤ o.toInt) : ¬ (-2 : Int64) = o - 1 := by
  have e1 : (1 : Int64).toInt = 1 := rfl
  have e2 : (-2 : Int64).toInt = -2 := rfl
  have := o.toInt_lt
  have e3 : (o - 1).toInt = o.toInt - 1 := by rw [Jvm.Kit.i64_sub (by omega) (by omega), e1]
  rw [← Int64.toInt_inj, e3, e2]; omega
theorem own_nn (x : Int64) : 0 ≤ (x &&& 9223372036854775807).toInt := by
  rw [Jvm.Kit.i64_mask x 9223372036854775807 (k := 63) (by decide) (by decide)]
  omega
theorem own_nn2 (b : Prop) [Decidable b] (x y m : Int64) (h : m = if b then x &&& 9223372036854775807 else y &&& 9223372036854775807) : 0 ≤ m.toInt := by
  subst h; split <;> exact own_nn _
theorem own_l1 (c : Int32) (o : Int64) (ho : 0 ≤ o.toInt) (m : Int32) (hm : m = if own_ends c = 0 then 1 else 2) : own_line (own_cl c o 1 (-2)) = m := by
  subst hm
  unfold own_line own_cl own_ends
  by_cases h1 : c = 13
  · rw [if_pos h1, if_pos h1, if_neg (by decide)]; rfl
  · rw [if_neg h1, if_neg h1]
    by_cases h2 : c = 10
    · rw [if_pos h2, if_pos h2, if_neg (own_ne o ho), if_neg (by decide)]; rfl
    · rw [if_neg h2, if_neg h2, if_pos rfl]
theorem own_s1 (c : Int32) (o m : Int64) (hm : m = if own_ends c = 0 then 0 else o + 1) : own_cs c o 0 = m := by
  subst hm
  unfold own_cs own_ends
  by_cases h1 : c = 13
  · rw [if_pos h1, if_pos h1, if_neg (by decide)]
  · rw [if_neg h1, if_neg h1]
    by_cases h2 : c = 10
    · rw [if_pos h2, if_pos h2, if_neg (by decide)]
    · rw [if_neg h2, if_neg h2, if_pos rfl]
theorem own_k1 (p : Int64) (c : Int32) (o m : Int64) (hm : m = if own_ends c = 0 then 0 else o + 1) : own_col p (own_cs c o 0) = ((p - m) + 1).toInt32 := by
  rw [own_s1 c o m hm]; rfl
theorem own_k2 (p : Int64) (c d : Int32) (o o2 m n : Int64) (hm : m = if own_ends c = 0 then 0 else o + 1) (hn : n = if own_ends d = 0 then m else o2 + 1) : own_col p (own_cs d o2 (own_cs c o 0)) = ((p - n) + 1).toInt32 := by
  rw [own_s1 c o m hm]
  have e : own_cs d o2 m = n := by
    subst hn
    unfold own_cs own_ends
    by_cases h1 : d = 13
    · rw [if_pos h1, if_pos h1, if_neg (by decide)]
    · rw [if_neg h1, if_neg h1]
      by_cases h2 : d = 10
      · rw [if_pos h2, if_pos h2, if_neg (by decide)]
      · rw [if_neg h2, if_neg h2, if_pos rfl]
  rw [e]; rfl
theorem own_sh (a b : Int64) : a = b - 1 ↔ b = a + 1 := by
  constructor
  · rintro rfl; exact (Int64.sub_add_cancel b 1).symm
  · rintro rfl; exact (Int64.add_sub_cancel a 1).symm
theorem own_l2 (c d : Int32) (o o2 : Int64) (ho : 0 ≤ o.toInt) (ho2 : 0 ≤ o2.toInt) (m j k : Int32) (hm : m = if own_ends c = 0 then 1 else 2)
    (hj : j = if d = 10 then (if c = 13 then (if o2 = o + 1 then 1 else 0) else 0) else 0) (hk : k = if own_ends d = 0 then 0 else (if j = 0 then 1 else 0)) :
    own_line (own_cl d o2 (own_cl c o 1 (-2)) (own_cc c o (-2))) = m + k := by
  have e : own_cl c o 1 (-2) = m := own_l1 c o ho m hm
  rw [e]
  unfold own_line own_cl own_cc
  unfold own_ends at hk
  by_cases a1 : d = 13
  · have a2 : ¬ d = 10 := by subst a1; decide
    rw [if_neg a2] at hj
    subst hj
    rw [if_pos a1, if_neg (by decide), if_pos rfl] at hk
    rw [if_pos a1, hk]
  · rw [if_neg a1]
    rw [if_neg a1] at hk
    by_cases a2 : d = 10
    · rw [if_pos a2]; rw [if_pos a2, if_neg (by decide)] at hk; rw [if_pos a2] at hj
      by_cases b1 : c = 13
      · rw [if_pos b1]; rw [if_pos b1] at hj
        by_cases d1 : o = o2 - 1
        · rw [if_pos d1]; rw [if_pos ((own_sh o o2).mp d1)] at hj; subst hj; rw [if_neg (by decide)] at hk; rw [hk, Int32.add_zero]
        · rw [if_neg d1]; rw [if_neg (fun q => d1 ((own_sh o o2).mpr q))] at hj; subst hj; rw [if_pos rfl] at hk; rw [hk]
      · rw [if_neg b1, if_neg (own_ne o2 ho2)]; rw [if_neg b1] at hj; subst hj; rw [if_pos rfl] at hk; rw [hk]
    · rw [if_neg a2]; rw [if_neg a2, if_pos rfl] at hk; rw [hk, Int32.add_zero]

theorem pd_0 : parseMethodDescriptor "(I)C" = some ⟨[.int], some .char⟩ := by decide +kernel
theorem pd_1 : parseMethodDescriptor "()V" = some ⟨[], none⟩ := by decide +kernel
theorem pd_2 : parseMethodDescriptor "(CJ)V" = some ⟨[.char, .long], none⟩ := by decide +kernel
theorem pd_3 : parseMethodDescriptor "(C)Z" = some ⟨[.char], some .boolean⟩ := by decide +kernel
theorem pd_4 : parseMethodDescriptor "()I" = some ⟨[], some .int⟩ := by decide +kernel
theorem pd_5 : parseMethodDescriptor "(J)I" = some ⟨[.long], some .int⟩ := by decide +kernel
theorem ef_0 (m : MethodId) (p0 : Int32) (q1 : Int64) (p2 : Int32) (q3 : Int64) (q4 : Int64) : entryFrame m #[(.int p0), (.long q1), (.int p2), (.long q3), (.long q4)] maxLocals = mkF m 0 #[.val (.int p0), .val (.long q1), .second, .val (.int p2), .val (.long q3), .second, .val (.long q4), .second, .unset, .unset, .unset, .unset, .unset, .unset, .unset, .unset, .unset, .unset, .unset, .unset, .unset, .unset, .unset] [] := by first | (simp [entryFrame, mkF, argsToLocals, Value.category, maxLocals]; done) | rfl
def Q0 (Z : State) (p0 : Int32) (q1 : Int64) (p2 : Int32) (q3 : Int64) (q4 : Int64) (h0 : Heap) (n0 : Nat) (v : Option Value) (h : Heap) (L : List Loc) : Prop := v = some (.int (1 : Int32)) ∧ Fr n0 L
set_option maxRecDepth 65536 in
set_option maxHeartbeats 40000000 in
theorem rm0 (l : Launch) (Z : State) (a0 : Array Value) (hw : ∀ d ∈ tables_1, d.before a0 Z = true) (ws : List Jvm.Cond) (p0 : Int32) (q1 : Int64) (p2 : Int32) (q3 : Int64) (q4 : Int64) (h0 : Heap) (n0 : Nat) (Z0 : n0 ≤ h0.size)  :
    MetFree l x (head1 (Jvm.Cond.code x code maxLocals ret :: ws) room_1) (fun a U => a = #[(.int p0), (.long q1), (.int p2), (.long q3), (.long q4)] ∧ Z.Warmed39 U.vm ∧ U.heap = h0) (fun _ _ _ _ _ => True) (fun _ U o U' => ∃ v L, o = .returned v ∧ Q0 Z p0 q1 p2 q3 q4 h0 n0 v U'.heap L ∧ FrameEnd U o U' L 1 3) := by
  refine MetFree.of_bodySF (plainFor_of_name pn_0) hisR ?_
  intro p e s m args below meth c s₁ Bd hml0 hP hK
  obtain ⟨rfl, hZ, hh⟩ := hP
  have hx := Bd.exec
  have hby := Bd.bytes
  have hml : c.maxLocals = 23 := hml0
  have hown : s.vm.findClass "com/example/axsis/axsis/input/TextPositionCountPinLaw" = some m.cls := findClass_of_methodNamed Bd.named
  have hnm := (name_of_methodNamed Bd.named Bd.method).1
  have X0 : Stand p l e room_1 s m #[(.int p0), (.long q1), (.int p2), (.long q3), (.long q4)] below meth c s₁ [] 0 0 := Stand.of_body Bd
  have e0 : s₁.heap = h0 := by rw [← hh, Bd.state]; rfl
  have N0 := Fr.nil n0
  have K0 := Keep.refl h0 []
  suffices hgo : Goes p.tables e below (fun s₂ o => ∃ v L, o = .returned v ∧ Q0 Z p0 q1 p2 q3 q4 h0 n0 v s₂.heap L ∧ FrameEnd s o s₂ L 1 3) (s₁.setTop (mkF m 0 #[.val (.int p0), .val (.long q1), .second, .val (.int p2), .val (.long q3), .second, .val (.long q4), .second, .unset, .unset, .unset, .unset, .unset, .unset, .unset, .unset, .unset, .unset, .unset, .unset, .unset, .unset, .unset] [])) from goEnd (fun t k => castTop (ef_0 m p0 q1 p2 q3 q4) k) hgo
  refine go (fun t kt => XS.iloadN X0.here hx rfl (hb hby at_0) rfl kt) ?_
  show Goes p.tables e below _ (s₁.setTop (mkF m 1 #[.val (.int p0), .val (.long q1), .second, .val (.int p2), .val (.long q3), .second, .val (.long q4), .second, .unset, .unset, .unset, .unset, .unset, .unset, .unset, .unset, .unset, .unset, .unset, .unset, .unset, .unset, .unset] [(.int p0)]))
  obtain ⟨_, _, ⟨T1, L1, k1, n1⟩, -, X1, ⟨Lc1, hQ1, l1, y1, z1⟩, st1⟩ := Jvm.LawKit.callS X0 hx (y := (⟨"com/example/axsis/axsis/input/TextPositionCountPinLaw", "draw", "(I)C"⟩ : MethodName)) hown (mvT hZ (hw _ (List.mem_of_getElem? (i := 0) rfl))) (mvT hZ (hw _ (List.mem_of_getElem? (i := 1) rfl))) (mvT hZ (hw _ (List.mem_of_getElem? (i := 2) rfl))) (mvT hZ (hw _ (List.mem_of_getElem? (i := 3) rfl))) (by decide) (backOf (W := 0) (rm1 l Z a0 hw [] p0 h0 n0 Z0 ) hZ (hw _ (List.mem_of_getElem? (i := 3) rfl)) (hw _ (List.mem_of_getElem? (i := 2) rfl)) (by decide) (by decide)) (g := (mkF m 1 #[.val (.int p0), .val (.long q1), .second, .val (.int p2), .val (.long q3), .second, .val (.long q4), .second, .unset, .unset, .unset, .unset, .unset, .unset, .unset, .unset, .unset, .unset, .unset, .unset, .unset, .unset, .unset] [(.int p0)])) rfl (by rw [hml]; rfl) (argsL := [(.int p0)]) (rest := []) (lenOf pd_0 rfl) rfl (by show 2 * 0 + _ ≤ _; exact Nat.le_of_eq rfl) (hb hby at_1) (fun _ _ => ⟨rfl, e0, (by decide : 0 + 0 ≤ _), (by decide : 0 + 0 ≤ _)⟩)
  dsimp only [Pt.U, Pt.locs, Pt.cells, Pt.slots] at X1 l1 y1 z1 st1 hQ1
  subst l1 y1 z1
  obtain ⟨rfl, Nq1, e1⟩ := hQ1
  have N1 := Fr.app N0 Nq1
  refine go st1 ?_
  show Goes p.tables e below _ (T1.setTop (mkF m 4 #[.val (.int p0), .val (.long q1), .second, .val (.int p2), .val (.long q3), .second, .val (.long q4), .second, .unset, .unset, .unset, .unset, .unset, .unset, .unset, .unset, .unset, .unset, .unset, .unset, .unset, .unset, .unset] [(.int (own_draw p0))]))
  refine go (fun t kt => XS.istore X1.here hx rfl (hb hby at_4) rfl (l' := #[.val (.int p0), .val (.long q1), .second, .val (.int p2), .val (.long q3), .second, .val (.long q4), .second, .val (.int (own_draw p0)), .unset, .unset, .unset, .unset, .unset, .unset, .unset, .unset, .unset, .unset, .unset, .unset, .unset, .unset]) rfl kt) ?_
  show Goes p.tables e below _ (T1.setTop (mkF m 6 #[.val (.int p0), .val (.long q1), .second, .val (.int p2), .val (.long q3), .second, .val (.long q4), .second, .val (.int (own_draw p0)), .unset, .unset, .unset, .unset, .unset, .unset, .unset, .unset, .unset, .unset, .unset, .unset, .unset, .unset] []))
  refine go (fun t kt => XS.iloadN X1.here hx rfl (hb hby at_6) rfl kt) ?_
  show Goes p.tables e below _ (T1.setTop (mkF m 7 #[.val (.int p0), .val (.long q1), .second, .val (.int p2), .val (.long q3), .second, .val (.long q4), .second, .val (.int (own_draw p0)), .unset, .unset, .unset, .unset, .unset, .unset, .unset, .unset, .unset, .unset, .unset, .unset, .unset, .unset] [(.int p2)]))
  obtain ⟨_, _, ⟨T2, L2, k2, n2⟩, -, X2, ⟨Lc2, hQ2, l2, y2, z2⟩, st2⟩ := Jvm.LawKit.callS X1 hx (y := (⟨"com/example/axsis/axsis/input/TextPositionCountPinLaw", "draw", "(I)C"⟩ : MethodName)) hown (mvT hZ (hw _ (List.mem_of_getElem? (i := 0) rfl))) (mvT hZ (hw _ (List.mem_of_getElem? (i := 1) rfl))) (mvT hZ (hw _ (List.mem_of_getElem? (i := 2) rfl))) (mvT hZ (hw _ (List.mem_of_getElem? (i := 3) rfl))) (by decide) (backOf (W := 0) (rm1 l Z a0 hw [] p2 h0 n0 Z0 ) hZ (hw _ (List.mem_of_getElem? (i := 3) rfl)) (hw _ (List.mem_of_getElem? (i := 2) rfl)) (by decide) (by decide)) (g := (mkF m 7 #[.val (.int p0), .val (.long q1), .second, .val (.int p2), .val (.long q3), .second, .val (.long q4), .second, .val (.int (own_draw p0)), .unset, .unset, .unset, .unset, .unset, .unset, .unset, .unset, .unset, .unset, .unset, .unset, .unset, .unset] [(.int p2)])) rfl (by rw [hml]; rfl) (argsL := [(.int p2)]) (rest := []) (lenOf pd_0 rfl) rfl (by show 2 * 0 + _ ≤ _; exact Nat.le_of_eq rfl) (hb hby at_7) (fun _ _ => ⟨rfl, e1, (by decide : 0 + 0 ≤ _), (by decide : 0 + 0 ≤ _)⟩)
  dsimp only [Pt.U, Pt.locs, Pt.cells, Pt.slots] at X2 l2 y2 z2 st2 hQ2
  subst l2 y2 z2
  obtain ⟨rfl, Nq2, e2⟩ := hQ2
  have N2 := Fr.app N1 Nq2
  refine go st2 ?_
  show Goes p.tables e below _ (T2.setTop (mkF m 10 #[.val (.int p0), .val (.long q1), .second, .val (.int p2), .val (.long q3), .second, .val (.long q4), .second, .val (.int (own_draw p0)), .unset, .unset, .unset, .unset, .unset, .unset, .unset, .unset, .unset, .unset, .unset, .unset, .unset, .unset] [(.int (own_draw p2))]))
  refine go (fun t kt => XS.istore X2.here hx rfl (hb hby at_10) rfl (l' := #[.val (.int p0), .val (.long q1), .second, .val (.int p2), .val (.long q3), .second, .val (.long q4), .second, .val (.int (own_draw p0)), .val (.int (own_draw p2)), .unset, .unset, .unset, .unset, .unset, .unset, .unset, .unset, .unset, .unset, .unset, .unset, .unset]) rfl kt) ?_
  show Goes p.tables e below _ (T2.setTop (mkF m 12 #[.val (.int p0), .val (.long q1), .second, .val (.int p2), .val (.long q3), .second, .val (.long q4), .second, .val (.int (own_draw p0)), .val (.int (own_draw p2)), .unset, .unset, .unset, .unset, .unset, .unset, .unset, .unset, .unset, .unset, .unset, .unset, .unset] []))
  refine go (fun t kt => XS.lloadN X2.here hx rfl (hb hby at_12) rfl kt) ?_
  show Goes p.tables e below _ (T2.setTop (mkF m 13 #[.val (.int p0), .val (.long q1), .second, .val (.int p2), .val (.long q3), .second, .val (.long q4), .second, .val (.int (own_draw p0)), .val (.int (own_draw p2)), .unset, .unset, .unset, .unset, .unset, .unset, .unset, .unset, .unset, .unset, .unset, .unset, .unset] [(.long q1)]))
  refine go (X2.ldc2Long hx hown (mvT hZ (hw _ (List.mem_of_getElem? (i := 4) rfl))) (g := (mkF m 13 #[.val (.int p0), .val (.long q1), .second, .val (.int p2), .val (.long q3), .second, .val (.long q4), .second, .val (.int (own_draw p0)), .val (.int (own_draw p2)), .unset, .unset, .unset, .unset, .unset, .unset, .unset, .unset, .unset, .unset, .unset, .unset, .unset] [(.long q1)])) rfl (hb hby at_13)) ?_
  show Goes p.tables e below _ (T2.setTop (mkF m 16 #[.val (.int p0), .val (.long q1), .second, .val (.int p2), .val (.long q3), .second, .val (.long q4), .second, .val (.int (own_draw p0)), .val (.int (own_draw p2)), .unset, .unset, .unset, .unset, .unset, .unset, .unset, .unset, .unset, .unset, .unset, .unset, .unset] [(.long (9223372036854775807 : Int64)), (.long q1)]))
  refine go (fun t kt => XS.land X2.here hx rfl (hb hby at_16) rfl kt) ?_
  show Goes p.tables e below _ (T2.setTop (mkF m 17 #[.val (.int p0), .val (.long q1), .second, .val (.int p2), .val (.long q3), .second, .val (.long q4), .second, .val (.int (own_draw p0)), .val (.int (own_draw p2)), .unset, .unset, .unset, .unset, .unset, .unset, .unset, .unset, .unset, .unset, .unset, .unset, .unset] [(.long (q1 &&& (9223372036854775807 : Int64)))]))
  refine go (fun t kt => XS.lstore X2.here hx rfl (hb hby at_17) rfl (l' := #[.val (.int p0), .val (.long q1), .second, .val (.int p2), .val (.long q3), .second, .val (.long q4), .second, .val (.int (own_draw p0)), .val (.int (own_draw p2)), .val (.long (q1 &&& (9223372036854775807 : Int64))), .second, .unset, .unset, .unset, .unset, .unset, .unset, .unset, .unset, .unset, .unset, .unset]) rfl kt) ?_
  show Goes p.tables e below _ (T2.setTop (mkF m 19 #[.val (.int p0), .val (.long q1), .second, .val (.int p2), .val (.long q3), .second, .val (.long q4), .second, .val (.int (own_draw p0)), .val (.int (own_draw p2)), .val (.long (q1 &&& (9223372036854775807 : Int64))), .second, .unset, .unset, .unset, .unset, .unset, .unset, .unset, .unset, .unset, .unset, .unset] []))
  refine go (fun t kt => XS.lload X2.here hx rfl (hb hby at_19) rfl kt) ?_
  show Goes p.tables e below _ (T2.setTop (mkF m 21 #[.val (.int p0), .val (.long q1), .second, .val (.int p2), .val (.long q3), .second, .val (.long q4), .second, .val (.int (own_draw p0)), .val (.int (own_draw p2)), .val (.long (q1 &&& (9223372036854775807 : Int64))), .second, .unset, .unset, .unset, .unset, .unset, .unset, .unset, .unset, .unset, .unset, .unset] [(.long q3)]))
  refine go (fun t kt => XS.lconst X2.here hx rfl (hb hby at_21) kt) ?_
  show Goes p.tables e below _ (T2.setTop (mkF m 22 #[.val (.int p0), .val (.long q1), .second, .val (.int p2), .val (.long q3), .second, .val (.long q4), .second, .val (.int (own_draw p0)), .val (.int (own_draw p2)), .val (.long (q1 &&& (9223372036854775807 : Int64))), .second, .unset, .unset, .unset, .unset, .unset, .unset, .unset, .unset, .unset, .unset, .unset] [(.long (1 : Int64)), (.long q3)]))
  refine go (fun t kt => XS.land X2.here hx rfl (hb hby at_22) rfl kt) ?_
  show Goes p.tables e below _ (T2.setTop (mkF m 23 #[.val (.int p0), .val (.long q1), .second, .val (.int p2), .val (.long q3), .second, .val (.long q4), .second, .val (.int (own_draw p0)), .val (.int (own_draw p2)), .val (.long (q1 &&& (9223372036854775807 : Int64))), .second, .unset, .unset, .unset, .unset, .unset, .unset, .unset, .unset, .unset, .unset, .unset] [(.long (q3 &&& (1 : Int64)))]))
  refine go (fun t kt => XS.lconst X2.here hx rfl (hb hby at_23) kt) ?_
  show Goes p.tables e below _ (T2.setTop (mkF m 24 #[.val (.int p0), .val (.long q1), .second, .val (.int p2), .val (.long q3), .second, .val (.long q4), .second, .val (.int (own_draw p0)), .val (.int (own_draw p2)), .val (.long (q1 &&& (9223372036854775807 : Int64))), .second, .unset, .unset, .unset, .unset, .unset, .unset, .unset, .unset, .unset, .unset, .unset] [(.long (0 : Int64)), (.long (q3 &&& (1 : Int64)))]))
  refine go (fun t kt => XS.lcmp X2.here hx rfl (hb hby at_24) rfl kt) ?_
  show Goes p.tables e below _ (T2.setTop (mkF m 25 #[.val (.int p0), .val (.long q1), .second, .val (.int p2), .val (.long q3), .second, .val (.long q4), .second, .val (.int (own_draw p0)), .val (.int (own_draw p2)), .val (.long (q1 &&& (9223372036854775807 : Int64))), .second, .unset, .unset, .unset, .unset, .unset, .unset, .unset, .unset, .unset, .unset, .unset] [(.int (lcmpW (q3 &&& (1 : Int64)) (0 : Int64)))]))
  suffices KK : ∀ (m3 : Int64), m3 = (if (q3 &&& (1 : Int64)) = (0 : Int64) then (((q1 &&& (9223372036854775807 : Int64)) + (1 : Int64)) &&& (9223372036854775807 : Int64)) else (((q3.toUInt64 >>> ((1 : Int32) &&& 0x3f).toInt64.toUInt64).toInt64) &&& (9223372036854775807 : Int64))) → Goes p.tables e below (fun s₂ o => ∃ v L, o = .returned v ∧ Q0 Z p0 q1 p2 q3 q4 h0 n0 v s₂.heap L ∧ FrameEnd s o s₂ L 1 3) (T2.setTop (mkF m 47 #[.val (.int p0), .val (.long q1), .second, .val (.int p2), .val (.long q3), .second, .val (.long q4), .second, .val (.int (own_draw p0)), .val (.int (own_draw p2)), .val (.long (q1 &&& (9223372036854775807 : Int64))), .second, .unset, .unset, .unset, .unset, .unset, .unset, .unset, .unset, .unset, .unset, .unset] [(.long m3)])) by
    by_cases hc4 : (q3 &&& (1 : Int64)) = (0 : Int64)
    ·
      refine go (fun t kt => XS.ifNo X2.here hx rfl (hb hby at_25) rfl ((if0 _ _).trans (teq ((lw_eq (q3 &&& (1 : Int64)) (0 : Int64)).mpr hc4)).2) kt) ?_
      show Goes p.tables e below _ (T2.setTop (mkF m 28 #[.val (.int p0), .val (.long q1), .second, .val (.int p2), .val (.long q3), .second, .val (.long q4), .second, .val (.int (own_draw p0)), .val (.int (own_draw p2)), .val (.long (q1 &&& (9223372036854775807 : Int64))), .second, .unset, .unset, .unset, .unset, .unset, .unset, .unset, .unset, .unset, .unset, .unset] []))
      refine go (fun t kt => XS.lload X2.here hx rfl (hb hby at_28) rfl kt) ?_
      show Goes p.tables e below _ (T2.setTop (mkF m 30 #[.val (.int p0), .val (.long q1), .second, .val (.int p2), .val (.long q3), .second, .val (.long q4), .second, .val (.int (own_draw p0)), .val (.int (own_draw p2)), .val (.long (q1 &&& (9223372036854775807 : Int64))), .second, .unset, .unset, .unset, .unset, .unset, .unset, .unset, .unset, .unset, .unset, .unset] [(.long (q1 &&& (9223372036854775807 : Int64)))]))
      refine go (fun t kt => XS.lconst X2.here hx rfl (hb hby at_30) kt) ?_
      show Goes p.tables e below _ (T2.setTop (mkF m 31 #[.val (.int p0), .val (.long q1), .second, .val (.int p2), .val (.long q3), .second, .val (.long q4), .second, .val (.int (own_draw p0)), .val (.int (own_draw p2)), .val (.long (q1 &&& (9223372036854775807 : Int64))), .second, .unset, .unset, .unset, .unset, .unset, .unset, .unset, .unset, .unset, .unset, .unset] [(.long (1 : Int64)), (.long (q1 &&& (9223372036854775807 : Int64)))]))
      refine go (fun t kt => XS.ladd X2.here hx rfl (hb hby at_31) rfl kt) ?_
      show Goes p.tables e below _ (T2.setTop (mkF m 32 #[.val (.int p0), .val (.long q1), .second, .val (.int p2), .val (.long q3), .second, .val (.long q4), .second, .val (.int (own_draw p0)), .val (.int (own_draw p2)), .val (.long (q1 &&& (9223372036854775807 : Int64))), .second, .unset, .unset, .unset, .unset, .unset, .unset, .unset, .unset, .unset, .unset, .unset] [(.long ((q1 &&& (9223372036854775807 : Int64)) + (1 : Int64)))]))
      refine go (X2.ldc2Long hx hown (mvT hZ (hw _ (List.mem_of_getElem? (i := 4) rfl))) (g := (mkF m 32 #[.val (.int p0), .val (.long q1), .second, .val (.int p2), .val (.long q3), .second, .val (.long q4), .second, .val (.int (own_draw p0)), .val (.int (own_draw p2)), .val (.long (q1 &&& (9223372036854775807 : Int64))), .second, .unset, .unset, .unset, .unset, .unset, .unset, .unset, .unset, .unset, .unset, .unset] [(.long ((q1 &&& (9223372036854775807 : Int64)) + (1 : Int64)))])) rfl (hb hby at_32)) ?_
      show Goes p.tables e below _ (T2.setTop (mkF m 35 #[.val (.int p0), .val (.long q1), .second, .val (.int p2), .val (.long q3), .second, .val (.long q4), .second, .val (.int (own_draw p0)), .val (.int (own_draw p2)), .val (.long (q1 &&& (9223372036854775807 : Int64))), .second, .unset, .unset, .unset, .unset, .unset, .unset, .unset, .unset, .unset, .unset, .unset] [(.long (9223372036854775807 : Int64)), (.long ((q1 &&& (9223372036854775807 : Int64)) + (1 : Int64)))]))
      refine go (fun t kt => XS.land X2.here hx rfl (hb hby at_35) rfl kt) ?_
      show Goes p.tables e below _ (T2.setTop (mkF m 36 #[.val (.int p0), .val (.long q1), .second, .val (.int p2), .val (.long q3), .second, .val (.long q4), .second, .val (.int (own_draw p0)), .val (.int (own_draw p2)), .val (.long (q1 &&& (9223372036854775807 : Int64))), .second, .unset, .unset, .unset, .unset, .unset, .unset, .unset, .unset, .unset, .unset, .unset] [(.long (((q1 &&& (9223372036854775807 : Int64)) + (1 : Int64)) &&& (9223372036854775807 : Int64)))]))
      refine go (fun t kt => XS.goto X2.here hx rfl (pc0 := 36) (pc' := 47) rfl (hb hby at_36) (by decide) (by decide) kt) ?_
      show Goes p.tables e below _ (T2.setTop (mkF m 47 #[.val (.int p0), .val (.long q1), .second, .val (.int p2), .val (.long q3), .second, .val (.long q4), .second, .val (.int (own_draw p0)), .val (.int (own_draw p2)), .val (.long (q1 &&& (9223372036854775807 : Int64))), .second, .unset, .unset, .unset, .unset, .unset, .unset, .unset, .unset, .unset, .unset, .unset] [(.long (((q1 &&& (9223372036854775807 : Int64)) + (1 : Int64)) &&& (9223372036854775807 : Int64)))]))
      exact KK _ (by rw [if_pos hc4])
    ·
      refine go (fun t kt => XS.ifYes X2.here hx rfl (pc0 := 25) (pc' := 39) rfl (hb hby at_25) rfl ((if0 _ _).trans (feq (fun q => hc4 ((lw_eq (q3 &&& (1 : Int64)) (0 : Int64)).mp q))).2) (by decide) (by decide) kt) ?_
      show Goes p.tables e below _ (T2.setTop (mkF m 39 #[.val (.int p0), .val (.long q1), .second, .val (.int p2), .val (.long q3), .second, .val (.long q4), .second, .val (.int (own_draw p0)), .val (.int (own_draw p2)), .val (.long (q1 &&& (9223372036854775807 : Int64))), .second, .unset, .unset, .unset, .unset, .unset, .unset, .unset, .unset, .unset, .unset, .unset] []))
      refine go (fun t kt => XS.lload X2.here hx rfl (hb hby at_39) rfl kt) ?_
      show Goes p.tables e below _ (T2.setTop (mkF m 41 #[.val (.int p0), .val (.long q1), .second, .val (.int p2), .val (.long q3), .second, .val (.long q4), .second, .val (.int (own_draw p0)), .val (.int (own_draw p2)), .val (.long (q1 &&& (9223372036854775807 : Int64))), .second, .unset, .unset, .unset, .unset, .unset, .unset, .unset, .unset, .unset, .unset, .unset] [(.long q3)]))
      refine go (fun t kt => XS.iconst X2.here hx rfl (hb hby at_41) kt) ?_
      show Goes p.tables e below _ (T2.setTop (mkF m 42 #[.val (.int p0), .val (.long q1), .second, .val (.int p2), .val (.long q3), .second, .val (.long q4), .second, .val (.int (own_draw p0)), .val (.int (own_draw p2)), .val (.long (q1 &&& (9223372036854775807 : Int64))), .second, .unset, .unset, .unset, .unset, .unset, .unset, .unset, .unset, .unset, .unset, .unset] [(.int (1 : Int32)), (.long q3)]))
      refine go (fun t kt => XS.lushr X2.here hx rfl (hb hby at_42) rfl kt) ?_
      show Goes p.tables e below _ (T2.setTop (mkF m 43 #[.val (.int p0), .val (.long q1), .second, .val (.int p2), .val (.long q3), .second, .val (.long q4), .second, .val (.int (own_draw p0)), .val (.int (own_draw p2)), .val (.long (q1 &&& (9223372036854775807 : Int64))), .second, .unset, .unset, .unset, .unset, .unset, .unset, .unset, .unset, .unset, .unset, .unset] [(.long ((q3.toUInt64 >>> ((1 : Int32) &&& 0x3f).toInt64.toUInt64).toInt64))]))
      refine go (X2.ldc2Long hx hown (mvT hZ (hw _ (List.mem_of_getElem? (i := 4) rfl))) (g := (mkF m 43 #[.val (.int p0), .val (.long q1), .second, .val (.int p2), .val (.long q3), .second, .val (.long q4), .second, .val (.int (own_draw p0)), .val (.int (own_draw p2)), .val (.long (q1 &&& (9223372036854775807 : Int64))), .second, .unset, .unset, .unset, .unset, .unset, .unset, .unset, .unset, .unset, .unset, .unset] [(.long ((q3.toUInt64 >>> ((1 : Int32) &&& 0x3f).toInt64.toUInt64).toInt64))])) rfl (hb hby at_43)) ?_
      show Goes p.tables e below _ (T2.setTop (mkF m 46 #[.val (.int p0), .val (.long q1), .second, .val (.int p2), .val (.long q3), .second, .val (.long q4), .second, .val (.int (own_draw p0)), .val (.int (own_draw p2)), .val (.long (q1 &&& (9223372036854775807 : Int64))), .second, .unset, .unset, .unset, .unset, .unset, .unset, .unset, .unset, .unset, .unset, .unset] [(.long (9223372036854775807 : Int64)), (.long ((q3.toUInt64 >>> ((1 : Int32) &&& 0x3f).toInt64.toUInt64).toInt64))]))
      refine go (fun t kt => XS.land X2.here hx rfl (hb hby at_46) rfl kt) ?_
      show Goes p.tables e below _ (T2.setTop (mkF m 47 #[.val (.int p0), .val (.long q1), .second, .val (.int p2), .val (.long q3), .second, .val (.long q4), .second, .val (.int (own_draw p0)), .val (.int (own_draw p2)), .val (.long (q1 &&& (9223372036854775807 : Int64))), .second, .unset, .unset, .unset, .unset, .unset, .unset, .unset, .unset, .unset, .unset, .unset] [(.long (((q3.toUInt64 >>> ((1 : Int32) &&& 0x3f).toInt64.toUInt64).toInt64) &&& (9223372036854775807 : Int64)))]))
      exact KK _ (by rw [if_neg hc4])
  intro m3 hm3
  show Goes p.tables e below _ (T2.setTop (mkF m 47 #[.val (.int p0), .val (.long q1), .second, .val (.int p2), .val (.long q3), .second, .val (.long q4), .second, .val (.int (own_draw p0)), .val (.int (own_draw p2)), .val (.long (q1 &&& (9223372036854775807 : Int64))), .second, .unset, .unset, .unset, .unset, .unset, .unset, .unset, .unset, .unset, .unset, .unset] [(.long m3)]))
  refine go (fun t kt => XS.lstore X2.here hx rfl (hb hby at_47) rfl (l' := #[.val (.int p0), .val (.long q1), .second, .val (.int p2), .val (.long q3), .second, .val (.long q4), .second, .val (.int (own_draw p0)), .val (.int (own_draw p2)), .val (.long (q1 &&& (9223372036854775807 : Int64))), .second, .val (.long m3), .second, .unset, .unset, .unset, .unset, .unset, .unset, .unset, .unset, .unset]) rfl kt) ?_
  show Goes p.tables e below _ (T2.setTop (mkF m 49 #[.val (.int p0), .val (.long q1), .second, .val (.int p2), .val (.long q3), .second, .val (.long q4), .second, .val (.int (own_draw p0)), .val (.int (own_draw p2)), .val (.long (q1 &&& (9223372036854775807 : Int64))), .second, .val (.long m3), .second, .unset, .unset, .unset, .unset, .unset, .unset, .unset, .unset, .unset] []))
  obtain ⟨T5, h5, X5, e5, E5, A5, D5, -, st5⟩ := newO X2 hx hZ hown (hw _ (List.mem_of_getElem? (i := 5) rfl)) (hw _ (List.mem_of_getElem? (i := 6) rfl)) (hw _ (List.mem_of_getElem? (i := 7) rfl)) e2 (g := (mkF m 49 #[.val (.int p0), .val (.long q1), .second, .val (.int p2), .val (.long q3), .second, .val (.long q4), .second, .val (.int (own_draw p0)), .val (.int (own_draw p2)), .val (.long (q1 &&& (9223372036854775807 : Int64))), .second, .val (.long m3), .second, .unset, .unset, .unset, .unset, .unset, .unset, .unset, .unset, .unset] [])) rfl (hb hby at_49) (by decide) (by decide)
  obtain ⟨b5, g5⟩ : ∃ z, z = h0.size := ⟨_, rfl⟩
  rw [← g5] at A5 D5 st5
  have g_b5 : n0 ≤ b5 := Nat.le_trans Z0 (Nat.le_of_eq g5.symm)
  have sz_b5 : h0.size ≤ b5 := Nat.le_trans K0.1 (Nat.le_of_eq g5.symm)
  have Zz5 := Nat.le_trans Z0 E5.1
  have Kk5 := K0.ext E5
  have E_b5 := A5
  have F_line_b5 : Fld Z h5 b5 "com/example/axsis/axsis/input/TextPosition" "line" "I" (.int (0 : Int32)) := D5 (Or.inl (hw _ (List.mem_of_getElem? (i := 15) rfl))) (ty := .int) (by decide)
  have F_carriageReturn_b5 : Fld Z h5 b5 "com/example/axsis/axsis/input/TextPosition" "carriageReturn" "J" (.long (0 : Int64)) := D5 (Or.inl (hw _ (List.mem_of_getElem? (i := 18) rfl))) (ty := .long) (by decide)
  have F_lineStart_b5 : Fld Z h5 b5 "com/example/axsis/axsis/input/TextPosition" "lineStart" "J" (.long (0 : Int64)) := D5 (Or.inl (hw _ (List.mem_of_getElem? (i := 25) rfl))) (ty := .long) (by decide)
  refine go st5 ?_
  show Goes p.tables e below _ (T5.setTop (mkF m 52 #[.val (.int p0), .val (.long q1), .second, .val (.int p2), .val (.long q3), .second, .val (.long q4), .second, .val (.int (own_draw p0)), .val (.int (own_draw p2)), .val (.long (q1 &&& (9223372036854775807 : Int64))), .second, .val (.long m3), .second, .unset, .unset, .unset, .unset, .unset, .unset, .unset, .unset, .unset] [(.ref b5)]))
  refine go (fun t kt => XS.dup X5.here hx rfl (hb hby at_52) rfl rfl kt) ?_
  show Goes p.tables e below _ (T5.setTop (mkF m 53 #[.val (.int p0), .val (.long q1), .second, .val (.int p2), .val (.long q3), .second, .val (.long q4), .second, .val (.int (own_draw p0)), .val (.int (own_draw p2)), .val (.long (q1 &&& (9223372036854775807 : Int64))), .second, .val (.long m3), .second, .unset, .unset, .unset, .unset, .unset, .unset, .unset, .unset, .unset] [(.ref b5), (.ref b5)]))
  obtain ⟨_, _, ⟨T6, L6, k6, n6⟩, -, X6, ⟨Lc6, hQ6, l6, y6, z6⟩, st6⟩ := X5.specialBack hx (y := (⟨"com/example/axsis/axsis/input/TextPosition", "<init>", "()V"⟩ : MethodName)) rfl hown (mvT hZ (hw _ (List.mem_of_getElem? (i := 8) rfl))) (mvT hZ (hw _ (List.mem_of_getElem? (i := 9) rfl))) (mvT hZ (hw _ (List.mem_of_getElem? (i := 10) rfl))) (by decide) (backOf (W := 1) (rm2 l Z a0 hw [] b5 (.int (0 : Int32)) (.long (0 : Int64)) (0 : Int64) h5 n0 Zz5 E_b5 F_line_b5 F_carriageReturn_b5 F_lineStart_b5 g_b5) hZ (hw _ (List.mem_of_getElem? (i := 10) rfl)) (hw _ (List.mem_of_getElem? (i := 7) rfl)) (by decide) (by decide)) (g := (mkF m 53 #[.val (.int p0), .val (.long q1), .second, .val (.int p2), .val (.long q3), .second, .val (.long q4), .second, .val (.int (own_draw p0)), .val (.int (own_draw p2)), .val (.long (q1 &&& (9223372036854775807 : Int64))), .second, .val (.long m3), .second, .unset, .unset, .unset, .unset, .unset, .unset, .unset, .unset, .unset] [(.ref b5), (.ref b5)])) rfl (by rw [hml]; rfl) (Steps.refl _) (a := b5) (argsL := []) (rest := [(.ref b5)]) (lenOf pd_1 rfl) rfl (by show 2 * 0 + _ ≤ _; exact Nat.le_of_eq rfl) (hb hby at_53) (fun _ _ => ⟨rfl, e5, (by decide : 1 + 0 ≤ _), (by decide : 3 + 0 ≤ _)⟩)
  dsimp only [Pt.U, Pt.locs, Pt.cells, Pt.slots] at X6 l6 y6 z6 st6 hQ6
  subst l6 y6 z6
  obtain ⟨rfl, Nq6, Kq6, Eq6_o0, Fq6_line_o0, Fq6_carriageReturn_o0, Fq6_lineStart_o0⟩ := hQ6
  replace E_b5 := E_b5.keep Kq6
  clear F_line_b5
  clear F_carriageReturn_b5
  clear F_lineStart_b5
  have Zz6 := Nat.le_trans Zz5 Kq6.1
  have Kk6 := Kk5.trans Kq6 (allS (Or.inr sz_b5) all0)
  have E_b5 := Eq6_o0
  have F_line_b5 := Fq6_line_o0
  have F_carriageReturn_b5 := Fq6_carriageReturn_o0
  have F_lineStart_b5 := Fq6_lineStart_o0
  have N6 := Fr.app N2 Nq6
  refine go (fun t kt => st6.trans kt) ?_
  show Goes p.tables e below _ (T6.setTop (mkF m 56 #[.val (.int p0), .val (.long q1), .second, .val (.int p2), .val (.long q3), .second, .val (.long q4), .second, .val (.int (own_draw p0)), .val (.int (own_draw p2)), .val (.long (q1 &&& (9223372036854775807 : Int64))), .second, .val (.long m3), .second, .unset, .unset, .unset, .unset, .unset, .unset, .unset, .unset, .unset] [(.ref b5)]))
  refine go (fun t kt => XS.astore X6.here hx rfl (hb hby at_56) rfl rfl (l' := #[.val (.int p0), .val (.long q1), .second, .val (.int p2), .val (.long q3), .second, .val (.long q4), .second, .val (.int (own_draw p0)), .val (.int (own_draw p2)), .val (.long (q1 &&& (9223372036854775807 : Int64))), .second, .val (.long m3), .second, .val (.ref b5), .unset, .unset, .unset, .unset, .unset, .unset, .unset, .unset]) rfl kt) ?_
  show Goes p.tables e below _ (T6.setTop (mkF m 58 #[.val (.int p0), .val (.long q1), .second, .val (.int p2), .val (.long q3), .second, .val (.long q4), .second, .val (.int (own_draw p0)), .val (.int (own_draw p2)), .val (.long (q1 &&& (9223372036854775807 : Int64))), .second, .val (.long m3), .second, .val (.ref b5), .unset, .unset, .unset, .unset, .unset, .unset, .unset, .unset] []))
  refine go (fun t kt => XS.aload X6.here hx rfl (hb hby at_58) rfl rfl kt) ?_
  show Goes p.tables e below _ (T6.setTop (mkF m 60 #[.val (.int p0), .val (.long q1), .second, .val (.int p2), .val (.long q3), .second, .val (.long q4), .second, .val (.int (own_draw p0)), .val (.int (own_draw p2)), .val (.long (q1 &&& (9223372036854775807 : Int64))), .second, .val (.long m3), .second, .val (.ref b5), .unset, .unset, .unset, .unset, .unset, .unset, .unset, .unset] [(.ref b5)]))
  refine go (fun t kt => XS.iload X6.here hx rfl (hb hby at_60) rfl kt) ?_
  show Goes p.tables e below _ (T6.setTop (mkF m 62 #[.val (.int p0), .val (.long q1), .second, .val (.int p2), .val (.long q3), .second, .val (.long q4), .second, .val (.int (own_draw p0)), .val (.int (own_draw p2)), .val (.long (q1 &&& (9223372036854775807 : Int64))), .second, .val (.long m3), .second, .val (.ref b5), .unset, .unset, .unset, .unset, .unset, .unset, .unset, .unset] [(.int (own_draw p0)), (.ref b5)]))
  refine go (fun t kt => XS.lload X6.here hx rfl (hb hby at_62) rfl kt) ?_
  show Goes p.tables e below _ (T6.setTop (mkF m 64 #[.val (.int p0), .val (.long q1), .second, .val (.int p2), .val (.long q3), .second, .val (.long q4), .second, .val (.int (own_draw p0)), .val (.int (own_draw p2)), .val (.long (q1 &&& (9223372036854775807 : Int64))), .second, .val (.long m3), .second, .val (.ref b5), .unset, .unset, .unset, .unset, .unset, .unset, .unset, .unset] [(.long (q1 &&& (9223372036854775807 : Int64))), (.int (own_draw p0)), (.ref b5)]))
  obtain ⟨cq7, kq7, q7a, q7b, q7c⟩ := isOf hZ rfl E_b5
  obtain ⟨_, _, ⟨T7, L7, k7, n7⟩, -, X7, ⟨Lc7, hQ7, l7, y7, z7⟩, st7⟩ := X6.virtualBack hx (y := (⟨"com/example/axsis/axsis/input/TextPosition", "count", "(CJ)V"⟩ : MethodName)) (z := (⟨"com/example/axsis/axsis/input/TextPosition", "count", "(CJ)V"⟩ : MethodName)) hown (mvT hZ (hw _ (List.mem_of_getElem? (i := 19) rfl))) (mvT hZ (hw _ (List.mem_of_getElem? (i := 20) rfl))) (notFace_of_selects (args := #[]) (mvT hZ (hw _ (List.mem_of_getElem? (i := 22) rfl)))) (mvT hZ (hw _ (List.mem_of_getElem? (i := 22) rfl))) (mvT hZ (hw _ (List.mem_of_getElem? (i := 21) rfl))) (by decide) (backOf (W := 0) (rm4 l Z a0 hw [] b5 (own_draw p0) (q1 &&& (9223372036854775807 : Int64)) (1 : Int32) (-2 : Int64) (0 : Int64) T6.heap n0 Zz6 E_b5 F_line_b5 F_carriageReturn_b5 F_lineStart_b5 g_b5) hZ (hw _ (List.mem_of_getElem? (i := 23) rfl)) (hw _ (List.mem_of_getElem? (i := 7) rfl)) (by decide) (by decide)) q7a q7c (g := (mkF m 64 #[.val (.int p0), .val (.long q1), .second, .val (.int p2), .val (.long q3), .second, .val (.long q4), .second, .val (.int (own_draw p0)), .val (.int (own_draw p2)), .val (.long (q1 &&& (9223372036854775807 : Int64))), .second, .val (.long m3), .second, .val (.ref b5), .unset, .unset, .unset, .unset, .unset, .unset, .unset, .unset] [(.long (q1 &&& (9223372036854775807 : Int64))), (.int (own_draw p0)), (.ref b5)])) rfl (by rw [hml]; rfl) (Steps.refl _) (argsL := [(.int (own_draw p0)), (.long (q1 &&& (9223372036854775807 : Int64)))]) (rest := []) (lenOf pd_2 rfl) rfl (by show 2 * 0 + _ ≤ _; exact Nat.le_of_eq rfl) (hb hby at_64) (fun _ _ => ⟨rfl, rfl, (by decide : 1 + 0 ≤ _), (by decide : 3 + 0 ≤ _)⟩)
  dsimp only [Pt.U, Pt.locs, Pt.cells, Pt.slots] at X7 l7 y7 z7 st7 hQ7
  subst l7 y7 z7
  obtain ⟨rfl, Nq7, Kq7, Eq7_o0, Fq7_line_o0, Fq7_carriageReturn_o0, Fq7_lineStart_o0⟩ := hQ7
  replace E_b5 := E_b5.keep Kq7
  clear F_line_b5
  clear F_carriageReturn_b5
  clear F_lineStart_b5
  have Zz7 := Nat.le_trans Zz6 Kq7.1
  have Kk7 := Kk6.trans Kq7 (allS (Or.inr sz_b5) all0)
  have E_b5 := Eq7_o0
  have F_line_b5 := Fq7_line_o0
  have F_carriageReturn_b5 := Fq7_carriageReturn_o0
  have F_lineStart_b5 := Fq7_lineStart_o0
  have N7 := Fr.app N6 Nq7
  refine go (fun t kt => st7.trans kt) ?_
  show Goes p.tables e below _ (T7.setTop (mkF m 67 #[.val (.int p0), .val (.long q1), .second, .val (.int p2), .val (.long q3), .second, .val (.long q4), .second, .val (.int (own_draw p0)), .val (.int (own_draw p2)), .val (.long (q1 &&& (9223372036854775807 : Int64))), .second, .val (.long m3), .second, .val (.ref b5), .unset, .unset, .unset, .unset, .unset, .unset, .unset, .unset] []))
  refine go (fun t kt => XS.iload X7.here hx rfl (hb hby at_67) rfl kt) ?_
  show Goes p.tables e below _ (T7.setTop (mkF m 69 #[.val (.int p0), .val (.long q1), .second, .val (.int p2), .val (.long q3), .second, .val (.long q4), .second, .val (.int (own_draw p0)), .val (.int (own_draw p2)), .val (.long (q1 &&& (9223372036854775807 : Int64))), .second, .val (.long m3), .second, .val (.ref b5), .unset, .unset, .unset, .unset, .unset, .unset, .unset, .unset] [(.int (own_draw p0))]))
  obtain ⟨_, _, ⟨T8, L8, k8, n8⟩, -, X8, ⟨Lc8, hQ8, l8, y8, z8⟩, st8⟩ := Jvm.LawKit.callS X7 hx (y := (⟨"com/example/axsis/axsis/input/TextPositionCountPinLaw", "ends", "(C)Z"⟩ : MethodName)) hown (mvT hZ (hw _ (List.mem_of_getElem? (i := 26) rfl))) (mvT hZ (hw _ (List.mem_of_getElem? (i := 27) rfl))) (mvT hZ (hw _ (List.mem_of_getElem? (i := 2) rfl))) (mvT hZ (hw _ (List.mem_of_getElem? (i := 28) rfl))) (by decide) (backOf (W := 0) (rm5 l Z a0 hw [] (own_draw p0) T7.heap n0 Zz7 ) hZ (hw _ (List.mem_of_getElem? (i := 28) rfl)) (hw _ (List.mem_of_getElem? (i := 2) rfl)) (by decide) (by decide)) (g := (mkF m 69 #[.val (.int p0), .val (.long q1), .second, .val (.int p2), .val (.long q3), .second, .val (.long q4), .second, .val (.int (own_draw p0)), .val (.int (own_draw p2)), .val (.long (q1 &&& (9223372036854775807 : Int64))), .second, .val (.long m3), .second, .val (.ref b5), .unset, .unset, .unset, .unset, .unset, .unset, .unset, .unset] [(.int (own_draw p0))])) rfl (by rw [hml]; rfl) (argsL := [(.int (own_draw p0))]) (rest := []) (lenOf pd_3 rfl) rfl (by show 2 * 0 + _ ≤ _; exact Nat.le_of_eq rfl) (hb hby at_69) (fun _ _ => ⟨rfl, rfl, (by decide : 1 + 0 ≤ _), (by decide : 3 + 0 ≤ _)⟩)
  dsimp only [Pt.U, Pt.locs, Pt.cells, Pt.slots] at X8 l8 y8 z8 st8 hQ8
  subst l8 y8 z8
  obtain ⟨rfl, Nq8, e8⟩ := hQ8
  have N8 := Fr.app N7 Nq8
  refine go st8 ?_
  show Goes p.tables e below _ (T8.setTop (mkF m 72 #[.val (.int p0), .val (.long q1), .second, .val (.int p2), .val (.long q3), .second, .val (.long q4), .second, .val (.int (own_draw p0)), .val (.int (own_draw p2)), .val (.long (q1 &&& (9223372036854775807 : Int64))), .second, .val (.long m3), .second, .val (.ref b5), .unset, .unset, .unset, .unset, .unset, .unset, .unset, .unset] [(.int (own_ends (own_draw p0)))]))
  suffices KK : ∀ (m9 : Int32), m9 = (if (own_ends (own_draw p0)) = (0 : Int32) then (1 : Int32) else (2 : Int32)) → Goes p.tables e below (fun s₂ o => ∃ v L, o = .returned v ∧ Q0 Z p0 q1 p2 q3 q4 h0 n0 v s₂.heap L ∧ FrameEnd s o s₂ L 1 3) (T8.setTop (mkF m 80 #[.val (.int p0), .val (.long q1), .second, .val (.int p2), .val (.long q3), .second, .val (.long q4), .second, .val (.int (own_draw p0)), .val (.int (own_draw p2)), .val (.long (q1 &&& (9223372036854775807 : Int64))), .second, .val (.long m3), .second, .val (.ref b5), .unset, .unset, .unset, .unset, .unset, .unset, .unset, .unset] [(.int m9)])) by
    by_cases hc10 : (own_ends (own_draw p0)) = (0 : Int32)
    ·
      refine go (fun t kt => XS.ifYes X8.here hx rfl (pc0 := 72) (pc' := 79) rfl (hb hby at_72) rfl ((if0 _ _).trans (teq hc10).1) (by decide) (by decide) kt) ?_
      show Goes p.tables e below _ (T8.setTop (mkF m 79 #[.val (.int p0), .val (.long q1), .second, .val (.int p2), .val (.long q3), .second, .val (.long q4), .second, .val (.int (own_draw p0)), .val (.int (own_draw p2)), .val (.long (q1 &&& (9223372036854775807 : Int64))), .second, .val (.long m3), .second, .val (.ref b5), .unset, .unset, .unset, .unset, .unset, .unset, .unset, .unset] []))
      refine go (fun t kt => XS.iconst X8.here hx rfl (hb hby at_79) kt) ?_
      show Goes p.tables e below _ (T8.setTop (mkF m 80 #[.val (.int p0), .val (.long q1), .second, .val (.int p2), .val (.long q3), .second, .val (.long q4), .second, .val (.int (own_draw p0)), .val (.int (own_draw p2)), .val (.long (q1 &&& (9223372036854775807 : Int64))), .second, .val (.long m3), .second, .val (.ref b5), .unset, .unset, .unset, .unset, .unset, .unset, .unset, .unset] [(.int (1 : Int32))]))
      exact KK _ (by rw [if_pos hc10])
    ·
      refine go (fun t kt => XS.ifNo X8.here hx rfl (hb hby at_72) rfl ((if0 _ _).trans (feq hc10).1) kt) ?_
      show Goes p.tables e below _ (T8.setTop (mkF m 75 #[.val (.int p0), .val (.long q1), .second, .val (.int p2), .val (.long q3), .second, .val (.long q4), .second, .val (.int (own_draw p0)), .val (.int (own_draw p2)), .val (.long (q1 &&& (9223372036854775807 : Int64))), .second, .val (.long m3), .second, .val (.ref b5), .unset, .unset, .unset, .unset, .unset, .unset, .unset, .unset] []))
      refine go (fun t kt => XS.iconst X8.here hx rfl (hb hby at_75) kt) ?_
      show Goes p.tables e below _ (T8.setTop (mkF m 76 #[.val (.int p0), .val (.long q1), .second, .val (.int p2), .val (.long q3), .second, .val (.long q4), .second, .val (.int (own_draw p0)), .val (.int (own_draw p2)), .val (.long (q1 &&& (9223372036854775807 : Int64))), .second, .val (.long m3), .second, .val (.ref b5), .unset, .unset, .unset, .unset, .unset, .unset, .unset, .unset] [(.int (2 : Int32))]))
      refine go (fun t kt => XS.goto X8.here hx rfl (pc0 := 76) (pc' := 80) rfl (hb hby at_76) (by decide) (by decide) kt) ?_
      show Goes p.tables e below _ (T8.setTop (mkF m 80 #[.val (.int p0), .val (.long q1), .second, .val (.int p2), .val (.long q3), .second, .val (.long q4), .second, .val (.int (own_draw p0)), .val (.int (own_draw p2)), .val (.long (q1 &&& (9223372036854775807 : Int64))), .second, .val (.long m3), .second, .val (.ref b5), .unset, .unset, .unset, .unset, .unset, .unset, .unset, .unset] [(.int (2 : Int32))]))
      exact KK _ (by rw [if_neg hc10])
  intro m9 hm9
  show Goes p.tables e below _ (T8.setTop (mkF m 80 #[.val (.int p0), .val (.long q1), .second, .val (.int p2), .val (.long q3), .second, .val (.long q4), .second, .val (.int (own_draw p0)), .val (.int (own_draw p2)), .val (.long (q1 &&& (9223372036854775807 : Int64))), .second, .val (.long m3), .second, .val (.ref b5), .unset, .unset, .unset, .unset, .unset, .unset, .unset, .unset] [(.int m9)]))
  refine go (fun t kt => XS.istore X8.here hx rfl (hb hby at_80) rfl (l' := #[.val (.int p0), .val (.long q1), .second, .val (.int p2), .val (.long q3), .second, .val (.long q4), .second, .val (.int (own_draw p0)), .val (.int (own_draw p2)), .val (.long (q1 &&& (9223372036854775807 : Int64))), .second, .val (.long m3), .second, .val (.ref b5), .val (.int m9), .unset, .unset, .unset, .unset, .unset, .unset, .unset]) rfl kt) ?_
  show Goes p.tables e below _ (T8.setTop (mkF m 82 #[.val (.int p0), .val (.long q1), .second, .val (.int p2), .val (.long q3), .second, .val (.long q4), .second, .val (.int (own_draw p0)), .val (.int (own_draw p2)), .val (.long (q1 &&& (9223372036854775807 : Int64))), .second, .val (.long m3), .second, .val (.ref b5), .val (.int m9), .unset, .unset, .unset, .unset, .unset, .unset, .unset] []))
  refine go (fun t kt => XS.iload X8.here hx rfl (hb hby at_82) rfl kt) ?_
  show Goes p.tables e below _ (T8.setTop (mkF m 84 #[.val (.int p0), .val (.long q1), .second, .val (.int p2), .val (.long q3), .second, .val (.long q4), .second, .val (.int (own_draw p0)), .val (.int (own_draw p2)), .val (.long (q1 &&& (9223372036854775807 : Int64))), .second, .val (.long m3), .second, .val (.ref b5), .val (.int m9), .unset, .unset, .unset, .unset, .unset, .unset, .unset] [(.int (own_draw p0))]))
  obtain ⟨_, _, ⟨T11, L11, k11, n11⟩, -, X11, ⟨Lc11, hQ11, l11, y11, z11⟩, st11⟩ := Jvm.LawKit.callS X8 hx (y := (⟨"com/example/axsis/axsis/input/TextPositionCountPinLaw", "ends", "(C)Z"⟩ : MethodName)) hown (mvT hZ (hw _ (List.mem_of_getElem? (i := 26) rfl))) (mvT hZ (hw _ (List.mem_of_getElem? (i := 27) rfl))) (mvT hZ (hw _ (List.mem_of_getElem? (i := 2) rfl))) (mvT hZ (hw _ (List.mem_of_getElem? (i := 28) rfl))) (by decide) (backOf (W := 0) (rm5 l Z a0 hw [] (own_draw p0) T7.heap n0 Zz7 ) hZ (hw _ (List.mem_of_getElem? (i := 28) rfl)) (hw _ (List.mem_of_getElem? (i := 2) rfl)) (by decide) (by decide)) (g := (mkF m 84 #[.val (.int p0), .val (.long q1), .second, .val (.int p2), .val (.long q3), .second, .val (.long q4), .second, .val (.int (own_draw p0)), .val (.int (own_draw p2)), .val (.long (q1 &&& (9223372036854775807 : Int64))), .second, .val (.long m3), .second, .val (.ref b5), .val (.int m9), .unset, .unset, .unset, .unset, .unset, .unset, .unset] [(.int (own_draw p0))])) rfl (by rw [hml]; rfl) (argsL := [(.int (own_draw p0))]) (rest := []) (lenOf pd_3 rfl) rfl (by show 2 * 0 + _ ≤ _; exact Nat.le_of_eq rfl) (hb hby at_84) (fun _ _ => ⟨rfl, e8, (by decide : 1 + 0 ≤ _), (by decide : 3 + 0 ≤ _)⟩)
  dsimp only [Pt.U, Pt.locs, Pt.cells, Pt.slots] at X11 l11 y11 z11 st11 hQ11
  subst l11 y11 z11
  obtain ⟨rfl, Nq11, e11⟩ := hQ11
  have N11 := Fr.app N8 Nq11
  refine go st11 ?_
  show Goes p.tables e below _ (T11.setTop (mkF m 87 #[.val (.int p0), .val (.long q1), .second, .val (.int p2), .val (.long q3), .second, .val (.long q4), .second, .val (.int (own_draw p0)), .val (.int (own_draw p2)), .val (.long (q1 &&& (9223372036854775807 : Int64))), .second, .val (.long m3), .second, .val (.ref b5), .val (.int m9), .unset, .unset, .unset, .unset, .unset, .unset, .unset] [(.int (own_ends (own_draw p0)))]))
  suffices KK : ∀ (m12 : Int64), m12 = (if (own_ends (own_draw p0)) = (0 : Int32) then (0 : Int64) else ((q1 &&& (9223372036854775807 : Int64)) + (1 : Int64))) → Goes p.tables e below (fun s₂ o => ∃ v L, o = .returned v ∧ Q0 Z p0 q1 p2 q3 q4 h0 n0 v s₂.heap L ∧ FrameEnd s o s₂ L 1 3) (T11.setTop (mkF m 98 #[.val (.int p0), .val (.long q1), .second, .val (.int p2), .val (.long q3), .second, .val (.long q4), .second, .val (.int (own_draw p0)), .val (.int (own_draw p2)), .val (.long (q1 &&& (9223372036854775807 : Int64))), .second, .val (.long m3), .second, .val (.ref b5), .val (.int m9), .unset, .unset, .unset, .unset, .unset, .unset, .unset] [(.long m12)])) by
    by_cases hc13 : (own_ends (own_draw p0)) = (0 : Int32)
    ·
      refine go (fun t kt => XS.ifYes X11.here hx rfl (pc0 := 87) (pc' := 97) rfl (hb hby at_87) rfl ((if0 _ _).trans (teq hc13).1) (by decide) (by decide) kt) ?_
      show Goes p.tables e below _ (T11.setTop (mkF m 97 #[.val (.int p0), .val (.long q1), .second, .val (.int p2), .val (.long q3), .second, .val (.long q4), .second, .val (.int (own_draw p0)), .val (.int (own_draw p2)), .val (.long (q1 &&& (9223372036854775807 : Int64))), .second, .val (.long m3), .second, .val (.ref b5), .val (.int m9), .unset, .unset, .unset, .unset, .unset, .unset, .unset] []))
      refine go (fun t kt => XS.lconst X11.here hx rfl (hb hby at_97) kt) ?_
      show Goes p.tables e below _ (T11.setTop (mkF m 98 #[.val (.int p0), .val (.long q1), .second, .val (.int p2), .val (.long q3), .second, .val (.long q4), .second, .val (.int (own_draw p0)), .val (.int (own_draw p2)), .val (.long (q1 &&& (9223372036854775807 : Int64))), .second, .val (.long m3), .second, .val (.ref b5), .val (.int m9), .unset, .unset, .unset, .unset, .unset, .unset, .unset] [(.long (0 : Int64))]))
      exact KK _ (by rw [if_pos hc13])
    ·
      refine go (fun t kt => XS.ifNo X11.here hx rfl (hb hby at_87) rfl ((if0 _ _).trans (feq hc13).1) kt) ?_
      show Goes p.tables e below _ (T11.setTop (mkF m 90 #[.val (.int p0), .val (.long q1), .second, .val (.int p2), .val (.long q3), .second, .val (.long q4), .second, .val (.int (own_draw p0)), .val (.int (own_draw p2)), .val (.long (q1 &&& (9223372036854775807 : Int64))), .second, .val (.long m3), .second, .val (.ref b5), .val (.int m9), .unset, .unset, .unset, .unset, .unset, .unset, .unset] []))
      refine go (fun t kt => XS.lload X11.here hx rfl (hb hby at_90) rfl kt) ?_
      show Goes p.tables e below _ (T11.setTop (mkF m 92 #[.val (.int p0), .val (.long q1), .second, .val (.int p2), .val (.long q3), .second, .val (.long q4), .second, .val (.int (own_draw p0)), .val (.int (own_draw p2)), .val (.long (q1 &&& (9223372036854775807 : Int64))), .second, .val (.long m3), .second, .val (.ref b5), .val (.int m9), .unset, .unset, .unset, .unset, .unset, .unset, .unset] [(.long (q1 &&& (9223372036854775807 : Int64)))]))
      refine go (fun t kt => XS.lconst X11.here hx rfl (hb hby at_92) kt) ?_
      show Goes p.tables e below _ (T11.setTop (mkF m 93 #[.val (.int p0), .val (.long q1), .second, .val (.int p2), .val (.long q3), .second, .val (.long q4), .second, .val (.int (own_draw p0)), .val (.int (own_draw p2)), .val (.long (q1 &&& (9223372036854775807 : Int64))), .second, .val (.long m3), .second, .val (.ref b5), .val (.int m9), .unset, .unset, .unset, .unset, .unset, .unset, .unset] [(.long (1 : Int64)), (.long (q1 &&& (9223372036854775807 : Int64)))]))
      refine go (fun t kt => XS.ladd X11.here hx rfl (hb hby at_93) rfl kt) ?_
      show Goes p.tables e below _ (T11.setTop (mkF m 94 #[.val (.int p0), .val (.long q1), .second, .val (.int p2), .val (.long q3), .second, .val (.long q4), .second, .val (.int (own_draw p0)), .val (.int (own_draw p2)), .val (.long (q1 &&& (9223372036854775807 : Int64))), .second, .val (.long m3), .second, .val (.ref b5), .val (.int m9), .unset, .unset, .unset, .unset, .unset, .unset, .unset] [(.long ((q1 &&& (9223372036854775807 : Int64)) + (1 : Int64)))]))
      refine go (fun t kt => XS.goto X11.here hx rfl (pc0 := 94) (pc' := 98) rfl (hb hby at_94) (by decide) (by decide) kt) ?_
      show Goes p.tables e below _ (T11.setTop (mkF m 98 #[.val (.int p0), .val (.long q1), .second, .val (.int p2), .val (.long q3), .second, .val (.long q4), .second, .val (.int (own_draw p0)), .val (.int (own_draw p2)), .val (.long (q1 &&& (9223372036854775807 : Int64))), .second, .val (.long m3), .second, .val (.ref b5), .val (.int m9), .unset, .unset, .unset, .unset, .unset, .unset, .unset] [(.long ((q1 &&& (9223372036854775807 : Int64)) + (1 : Int64)))]))
      exact KK _ (by rw [if_neg hc13])
  intro m12 hm12
  show Goes p.tables e below _ (T11.setTop (mkF m 98 #[.val (.int p0), .val (.long q1), .second, .val (.int p2), .val (.long q3), .second, .val (.long q4), .second, .val (.int (own_draw p0)), .val (.int (own_draw p2)), .val (.long (q1 &&& (9223372036854775807 : Int64))), .second, .val (.long m3), .second, .val (.ref b5), .val (.int m9), .unset, .unset, .unset, .unset, .unset, .unset, .unset] [(.long m12)]))
  refine go (fun t kt => XS.lstore X11.here hx rfl (hb hby at_98) rfl (l' := #[.val (.int p0), .val (.long q1), .second, .val (.int p2), .val (.long q3), .second, .val (.long q4), .second, .val (.int (own_draw p0)), .val (.int (own_draw p2)), .val (.long (q1 &&& (9223372036854775807 : Int64))), .second, .val (.long m3), .second, .val (.ref b5), .val (.int m9), .val (.long m12), .second, .unset, .unset, .unset, .unset, .unset]) rfl kt) ?_
  show Goes p.tables e below _ (T11.setTop (mkF m 100 #[.val (.int p0), .val (.long q1), .second, .val (.int p2), .val (.long q3), .second, .val (.long q4), .second, .val (.int (own_draw p0)), .val (.int (own_draw p2)), .val (.long (q1 &&& (9223372036854775807 : Int64))), .second, .val (.long m3), .second, .val (.ref b5), .val (.int m9), .val (.long m12), .second, .unset, .unset, .unset, .unset, .unset] []))
  refine go (fun t kt => XS.aload X11.here hx rfl (hb hby at_100) rfl rfl kt) ?_
  show Goes p.tables e below _ (T11.setTop (mkF m 102 #[.val (.int p0), .val (.long q1), .second, .val (.int p2), .val (.long q3), .second, .val (.long q4), .second, .val (.int (own_draw p0)), .val (.int (own_draw p2)), .val (.long (q1 &&& (9223372036854775807 : Int64))), .second, .val (.long m3), .second, .val (.ref b5), .val (.int m9), .val (.long m12), .second, .unset, .unset, .unset, .unset, .unset] [(.ref b5)]))
  obtain ⟨cq14, kq14, q14a, q14b, q14c⟩ := isOf hZ e11 E_b5
  obtain ⟨_, _, ⟨T14, L14, k14, n14⟩, -, X14, ⟨Lc14, hQ14, l14, y14, z14⟩, st14⟩ := X11.virtualBack hx (y := (⟨"com/example/axsis/axsis/input/TextPosition", "line", "()I"⟩ : MethodName)) (z := (⟨"com/example/axsis/axsis/input/TextPosition", "line", "()I"⟩ : MethodName)) hown (mvT hZ (hw _ (List.mem_of_getElem? (i := 29) rfl))) (mvT hZ (hw _ (List.mem_of_getElem? (i := 30) rfl))) (notFace_of_selects (args := #[]) (mvT hZ (hw _ (List.mem_of_getElem? (i := 32) rfl)))) (mvT hZ (hw _ (List.mem_of_getElem? (i := 32) rfl))) (mvT hZ (hw _ (List.mem_of_getElem? (i := 31) rfl))) (by decide) (backOf (W := 0) (rm6 l Z a0 hw [] b5 (own_cl (own_draw p0) (q1 &&& (9223372036854775807 : Int64)) (1 : Int32) (-2 : Int64)) T7.heap n0 Zz7 F_line_b5) hZ (hw _ (List.mem_of_getElem? (i := 33) rfl)) (hw _ (List.mem_of_getElem? (i := 7) rfl)) (by decide) (by decide)) q14a q14c (g := (mkF m 102 #[.val (.int p0), .val (.long q1), .second, .val (.int p2), .val (.long q3), .second, .val (.long q4), .second, .val (.int (own_draw p0)), .val (.int (own_draw p2)), .val (.long (q1 &&& (9223372036854775807 : Int64))), .second, .val (.long m3), .second, .val (.ref b5), .val (.int m9), .val (.long m12), .second, .unset, .unset, .unset, .unset, .unset] [(.ref b5)])) rfl (by rw [hml]; rfl) (Steps.refl _) (argsL := []) (rest := []) (lenOf pd_4 rfl) rfl (by show 2 * 0 + _ ≤ _; exact Nat.le_of_eq rfl) (hb hby at_102) (fun _ _ => ⟨rfl, e11, (by decide : 1 + 0 ≤ _), (by decide : 3 + 0 ≤ _)⟩)
  dsimp only [Pt.U, Pt.locs, Pt.cells, Pt.slots] at X14 l14 y14 z14 st14 hQ14
  subst l14 y14 z14
  obtain ⟨rfl, Nq14, e14⟩ := hQ14
  have N14 := Fr.app N11 Nq14
  refine go (fun t kt => st14.trans kt) ?_
  show Goes p.tables e below _ (T14.setTop (mkF m 105 #[.val (.int p0), .val (.long q1), .second, .val (.int p2), .val (.long q3), .second, .val (.long q4), .second, .val (.int (own_draw p0)), .val (.int (own_draw p2)), .val (.long (q1 &&& (9223372036854775807 : Int64))), .second, .val (.long m3), .second, .val (.ref b5), .val (.int m9), .val (.long m12), .second, .unset, .unset, .unset, .unset, .unset] [(.int (own_line (own_cl (own_draw p0) (q1 &&& (9223372036854775807 : Int64)) (1 : Int32) (-2 : Int64))))]))
  refine go (fun t kt => XS.iload X14.here hx rfl (hb hby at_105) rfl kt) ?_
  show Goes p.tables e below _ (T14.setTop (mkF m 107 #[.val (.int p0), .val (.long q1), .second, .val (.int p2), .val (.long q3), .second, .val (.long q4), .second, .val (.int (own_draw p0)), .val (.int (own_draw p2)), .val (.long (q1 &&& (9223372036854775807 : Int64))), .second, .val (.long m3), .second, .val (.ref b5), .val (.int m9), .val (.long m12), .second, .unset, .unset, .unset, .unset, .unset] [(.int m9), (.int (own_line (own_cl (own_draw p0) (q1 &&& (9223372036854775807 : Int64)) (1 : Int32) (-2 : Int64))))]))
  refine go (fun t kt => XS.icmpNo X14.here hx rfl (hb hby at_107) rfl (teq (own_l1 _ _ (own_nn q1) _ hm9)).2 kt) ?_
  show Goes p.tables e below _ (T14.setTop (mkF m 110 #[.val (.int p0), .val (.long q1), .second, .val (.int p2), .val (.long q3), .second, .val (.long q4), .second, .val (.int (own_draw p0)), .val (.int (own_draw p2)), .val (.long (q1 &&& (9223372036854775807 : Int64))), .second, .val (.long m3), .second, .val (.ref b5), .val (.int m9), .val (.long m12), .second, .unset, .unset, .unset, .unset, .unset] []))
  refine go (fun t kt => XS.aload X14.here hx rfl (hb hby at_110) rfl rfl kt) ?_
  show Goes p.tables e below _ (T14.setTop (mkF m 112 #[.val (.int p0), .val (.long q1), .second, .val (.int p2), .val (.long q3), .second, .val (.long q4), .second, .val (.int (own_draw p0)), .val (.int (own_draw p2)), .val (.long (q1 &&& (9223372036854775807 : Int64))), .second, .val (.long m3), .second, .val (.ref b5), .val (.int m9), .val (.long m12), .second, .unset, .unset, .unset, .unset, .unset] [(.ref b5)]))
  refine go (fun t kt => XS.lload X14.here hx rfl (hb hby at_112) rfl kt) ?_
  show Goes p.tables e below _ (T14.setTop (mkF m 114 #[.val (.int p0), .val (.long q1), .second, .val (.int p2), .val (.long q3), .second, .val (.long q4), .second, .val (.int (own_draw p0)), .val (.int (own_draw p2)), .val (.long (q1 &&& (9223372036854775807 : Int64))), .second, .val (.long m3), .second, .val (.ref b5), .val (.int m9), .val (.long m12), .second, .unset, .unset, .unset, .unset, .unset] [(.long q4), (.ref b5)]))
  obtain ⟨cq15, kq15, q15a, q15b, q15c⟩ := isOf hZ e14 E_b5
  obtain ⟨_, _, ⟨T15, L15, k15, n15⟩, -, X15, ⟨Lc15, hQ15, l15, y15, z15⟩, st15⟩ := X14.virtualBack hx (y := (⟨"com/example/axsis/axsis/input/TextPosition", "column", "(J)I"⟩ : MethodName)) (z := (⟨"com/example/axsis/axsis/input/TextPosition", "column", "(J)I"⟩ : MethodName)) hown (mvT hZ (hw _ (List.mem_of_getElem? (i := 34) rfl))) (mvT hZ (hw _ (List.mem_of_getElem? (i := 35) rfl))) (notFace_of_selects (args := #[]) (mvT hZ (hw _ (List.mem_of_getElem? (i := 37) rfl)))) (mvT hZ (hw _ (List.mem_of_getElem? (i := 37) rfl))) (mvT hZ (hw _ (List.mem_of_getElem? (i := 36) rfl))) (by decide) (backOf (W := 0) (rm7 l Z a0 hw [] b5 q4 (own_cs (own_draw p0) (q1 &&& (9223372036854775807 : Int64)) (0 : Int64)) T7.heap n0 Zz7 F_lineStart_b5) hZ (hw _ (List.mem_of_getElem? (i := 38) rfl)) (hw _ (List.mem_of_getElem? (i := 7) rfl)) (by decide) (by decide)) q15a q15c (g := (mkF m 114 #[.val (.int p0), .val (.long q1), .second, .val (.int p2), .val (.long q3), .second, .val (.long q4), .second, .val (.int (own_draw p0)), .val (.int (own_draw p2)), .val (.long (q1 &&& (9223372036854775807 : Int64))), .second, .val (.long m3), .second, .val (.ref b5), .val (.int m9), .val (.long m12), .second, .unset, .unset, .unset, .unset, .unset] [(.long q4), (.ref b5)])) rfl (by rw [hml]; rfl) (Steps.refl _) (argsL := [(.long q4)]) (rest := []) (lenOf pd_5 rfl) rfl (by show 2 * 0 + _ ≤ _; exact Nat.le_of_eq rfl) (hb hby at_114) (fun _ _ => ⟨rfl, e14, (by decide : 1 + 0 ≤ _), (by decide : 3 + 0 ≤ _)⟩)
  dsimp only [Pt.U, Pt.locs, Pt.cells, Pt.slots] at X15 l15 y15 z15 st15 hQ15
  subst l15 y15 z15
  obtain ⟨rfl, Nq15, e15⟩ := hQ15
  have N15 := Fr.app N14 Nq15
  refine go (fun t kt => st15.trans kt) ?_
  show Goes p.tables e below _ (T15.setTop (mkF m 117 #[.val (.int p0), .val (.long q1), .second, .val (.int p2), .val (.long q3), .second, .val (.long q4), .second, .val (.int (own_draw p0)), .val (.int (own_draw p2)), .val (.long (q1 &&& (9223372036854775807 : Int64))), .second, .val (.long m3), .second, .val (.ref b5), .val (.int m9), .val (.long m12), .second, .unset, .unset, .unset, .unset, .unset] [(.int (own_col q4 (own_cs (own_draw p0) (q1 &&& (9223372036854775807 : Int64)) (0 : Int64))))]))
  refine go (fun t kt => XS.lload X15.here hx rfl (hb hby at_117) rfl kt) ?_
  show Goes p.tables e below _ (T15.setTop (mkF m 119 #[.val (.int p0), .val (.long q1), .second, .val (.int p2), .val (.long q3), .second, .val (.long q4), .second, .val (.int (own_draw p0)), .val (.int (own_draw p2)), .val (.long (q1 &&& (9223372036854775807 : Int64))), .second, .val (.long m3), .second, .val (.ref b5), .val (.int m9), .val (.long m12), .second, .unset, .unset, .unset, .unset, .unset] [(.long q4), (.int (own_col q4 (own_cs (own_draw p0) (q1 &&& (9223372036854775807 : Int64)) (0 : Int64))))]))
  refine go (fun t kt => XS.lload X15.here hx rfl (hb hby at_119) rfl kt) ?_
  show Goes p.tables e below _ (T15.setTop (mkF m 121 #[.val (.int p0), .val (.long q1), .second, .val (.int p2), .val (.long q3), .second, .val (.long q4), .second, .val (.int (own_draw p0)), .val (.int (own_draw p2)), .val (.long (q1 &&& (9223372036854775807 : Int64))), .second, .val (.long m3), .second, .val (.ref b5), .val (.int m9), .val (.long m12), .second, .unset, .unset, .unset, .unset, .unset] [(.long m12), (.long q4), (.int (own_col q4 (own_cs (own_draw p0) (q1 &&& (9223372036854775807 : Int64)) (0 : Int64))))]))
  refine go (fun t kt => XS.lsub X15.here hx rfl (hb hby at_121) rfl kt) ?_
  show Goes p.tables e below _ (T15.setTop (mkF m 122 #[.val (.int p0), .val (.long q1), .second, .val (.int p2), .val (.long q3), .second, .val (.long q4), .second, .val (.int (own_draw p0)), .val (.int (own_draw p2)), .val (.long (q1 &&& (9223372036854775807 : Int64))), .second, .val (.long m3), .second, .val (.ref b5), .val (.int m9), .val (.long m12), .second, .unset, .unset, .unset, .unset, .unset] [(.long (q4 - m12)), (.int (own_col q4 (own_cs (own_draw p0) (q1 &&& (9223372036854775807 : Int64)) (0 : Int64))))]))
  refine go (fun t kt => XS.lconst X15.here hx rfl (hb hby at_122) kt) ?_
  show Goes p.tables e below _ (T15.setTop (mkF m 123 #[.val (.int p0), .val (.long q1), .second, .val (.int p2), .val (.long q3), .second, .val (.long q4), .second, .val (.int (own_draw p0)), .val (.int (own_draw p2)), .val (.long (q1 &&& (9223372036854775807 : Int64))), .second, .val (.long m3), .second, .val (.ref b5), .val (.int m9), .val (.long m12), .second, .unset, .unset, .unset, .unset, .unset] [(.long (1 : Int64)), (.long (q4 - m12)), (.int (own_col q4 (own_cs (own_draw p0) (q1 &&& (9223372036854775807 : Int64)) (0 : Int64))))]))
  refine go (fun t kt => XS.ladd X15.here hx rfl (hb hby at_123) rfl kt) ?_
  show Goes p.tables e below _ (T15.setTop (mkF m 124 #[.val (.int p0), .val (.long q1), .second, .val (.int p2), .val (.long q3), .second, .val (.long q4), .second, .val (.int (own_draw p0)), .val (.int (own_draw p2)), .val (.long (q1 &&& (9223372036854775807 : Int64))), .second, .val (.long m3), .second, .val (.ref b5), .val (.int m9), .val (.long m12), .second, .unset, .unset, .unset, .unset, .unset] [(.long ((q4 - m12) + (1 : Int64))), (.int (own_col q4 (own_cs (own_draw p0) (q1 &&& (9223372036854775807 : Int64)) (0 : Int64))))]))
  refine go (fun t kt => XS.l2i X15.here hx rfl (hb hby at_124) rfl kt) ?_
  show Goes p.tables e below _ (T15.setTop (mkF m 125 #[.val (.int p0), .val (.long q1), .second, .val (.int p2), .val (.long q3), .second, .val (.long q4), .second, .val (.int (own_draw p0)), .val (.int (own_draw p2)), .val (.long (q1 &&& (9223372036854775807 : Int64))), .second, .val (.long m3), .second, .val (.ref b5), .val (.int m9), .val (.long m12), .second, .unset, .unset, .unset, .unset, .unset] [(.int (((q4 - m12) + (1 : Int64)).toInt32)), (.int (own_col q4 (own_cs (own_draw p0) (q1 &&& (9223372036854775807 : Int64)) (0 : Int64))))]))
  refine go (fun t kt => XS.icmpNo X15.here hx rfl (hb hby at_125) rfl (teq (own_k1 _ _ _ _ hm12)).2 kt) ?_
  show Goes p.tables e below _ (T15.setTop (mkF m 128 #[.val (.int p0), .val (.long q1), .second, .val (.int p2), .val (.long q3), .second, .val (.long q4), .second, .val (.int (own_draw p0)), .val (.int (own_draw p2)), .val (.long (q1 &&& (9223372036854775807 : Int64))), .second, .val (.long m3), .second, .val (.ref b5), .val (.int m9), .val (.long m12), .second, .unset, .unset, .unset, .unset, .unset] []))
  refine go (fun t kt => XS.iconst X15.here hx rfl (hb hby at_128) kt) ?_
  show Goes p.tables e below _ (T15.setTop (mkF m 129 #[.val (.int p0), .val (.long q1), .second, .val (.int p2), .val (.long q3), .second, .val (.long q4), .second, .val (.int (own_draw p0)), .val (.int (own_draw p2)), .val (.long (q1 &&& (9223372036854775807 : Int64))), .second, .val (.long m3), .second, .val (.ref b5), .val (.int m9), .val (.long m12), .second, .unset, .unset, .unset, .unset, .unset] [(.int (1 : Int32))]))
  refine go (fun t kt => XS.goto X15.here hx rfl (pc0 := 129) (pc' := 133) rfl (hb hby at_129) (by decide) (by decide) kt) ?_
  show Goes p.tables e below _ (T15.setTop (mkF m 133 #[.val (.int p0), .val (.long q1), .second, .val (.int p2), .val (.long q3), .second, .val (.long q4), .second, .val (.int (own_draw p0)), .val (.int (own_draw p2)), .val (.long (q1 &&& (9223372036854775807 : Int64))), .second, .val (.long m3), .second, .val (.ref b5), .val (.int m9), .val (.long m12), .second, .unset, .unset, .unset, .unset, .unset] [(.int (1 : Int32))]))
  refine go (fun t kt => XS.istore X15.here hx rfl (hb hby at_133) rfl (l' := #[.val (.int p0), .val (.long q1), .second, .val (.int p2), .val (.long q3), .second, .val (.long q4), .second, .val (.int (own_draw p0)), .val (.int (own_draw p2)), .val (.long (q1 &&& (9223372036854775807 : Int64))), .second, .val (.long m3), .second, .val (.ref b5), .val (.int m9), .val (.long m12), .second, .val (.int (1 : Int32)), .unset, .unset, .unset, .unset]) rfl kt) ?_
  show Goes p.tables e below _ (T15.setTop (mkF m 135 #[.val (.int p0), .val (.long q1), .second, .val (.int p2), .val (.long q3), .second, .val (.long q4), .second, .val (.int (own_draw p0)), .val (.int (own_draw p2)), .val (.long (q1 &&& (9223372036854775807 : Int64))), .second, .val (.long m3), .second, .val (.ref b5), .val (.int m9), .val (.long m12), .second, .val (.int (1 : Int32)), .unset, .unset, .unset, .unset] []))
  refine go (fun t kt => XS.aload X15.here hx rfl (hb hby at_135) rfl rfl kt) ?_
  show Goes p.tables e below _ (T15.setTop (mkF m 137 #[.val (.int p0), .val (.long q1), .second, .val (.int p2), .val (.long q3), .second, .val (.long q4), .second, .val (.int (own_draw p0)), .val (.int (own_draw p2)), .val (.long (q1 &&& (9223372036854775807 : Int64))), .second, .val (.long m3), .second, .val (.ref b5), .val (.int m9), .val (.long m12), .second, .val (.int (1 : Int32)), .unset, .unset, .unset, .unset] [(.ref b5)]))
  refine go (fun t kt => XS.iload X15.here hx rfl (hb hby at_137) rfl kt) ?_
  show Goes p.tables e below _ (T15.setTop (mkF m 139 #[.val (.int p0), .val (.long q1), .second, .val (.int p2), .val (.long q3), .second, .val (.long q4), .second, .val (.int (own_draw p0)), .val (.int (own_draw p2)), .val (.long (q1 &&& (9223372036854775807 : Int64))), .second, .val (.long m3), .second, .val (.ref b5), .val (.int m9), .val (.long m12), .second, .val (.int (1 : Int32)), .unset, .unset, .unset, .unset] [(.int (own_draw p2)), (.ref b5)]))
  refine go (fun t kt => XS.lload X15.here hx rfl (hb hby at_139) rfl kt) ?_
  show Goes p.tables e below _ (T15.setTop (mkF m 141 #[.val (.int p0), .val (.long q1), .second, .val (.int p2), .val (.long q3), .second, .val (.long q4), .second, .val (.int (own_draw p0)), .val (.int (own_draw p2)), .val (.long (q1 &&& (9223372036854775807 : Int64))), .second, .val (.long m3), .second, .val (.ref b5), .val (.int m9), .val (.long m12), .second, .val (.int (1 : Int32)), .unset, .unset, .unset, .unset] [(.long m3), (.int (own_draw p2)), (.ref b5)]))
  obtain ⟨cq16, kq16, q16a, q16b, q16c⟩ := isOf hZ e15 E_b5
  obtain ⟨_, _, ⟨T16, L16, k16, n16⟩, -, X16, ⟨Lc16, hQ16, l16, y16, z16⟩, st16⟩ := X15.virtualBack hx (y := (⟨"com/example/axsis/axsis/input/TextPosition", "count", "(CJ)V"⟩ : MethodName)) (z := (⟨"com/example/axsis/axsis/input/TextPosition", "count", "(CJ)V"⟩ : MethodName)) hown (mvT hZ (hw _ (List.mem_of_getElem? (i := 19) rfl))) (mvT hZ (hw _ (List.mem_of_getElem? (i := 20) rfl))) (notFace_of_selects (args := #[]) (mvT hZ (hw _ (List.mem_of_getElem? (i := 22) rfl)))) (mvT hZ (hw _ (List.mem_of_getElem? (i := 22) rfl))) (mvT hZ (hw _ (List.mem_of_getElem? (i := 21) rfl))) (by decide) (backOf (W := 0) (rm4 l Z a0 hw [] b5 (own_draw p2) m3 (own_cl (own_draw p0) (q1 &&& (9223372036854775807 : Int64)) (1 : Int32) (-2 : Int64)) (own_cc (own_draw p0) (q1 &&& (9223372036854775807 : Int64)) (-2 : Int64)) (own_cs (own_draw p0) (q1 &&& (9223372036854775807 : Int64)) (0 : Int64)) T7.heap n0 Zz7 E_b5 F_line_b5 F_carriageReturn_b5 F_lineStart_b5 g_b5) hZ (hw _ (List.mem_of_getElem? (i := 23) rfl)) (hw _ (List.mem_of_getElem? (i := 7) rfl)) (by decide) (by decide)) q16a q16c (g := (mkF m 141 #[.val (.int p0), .val (.long q1), .second, .val (.int p2), .val (.long q3), .second, .val (.long q4), .second, .val (.int (own_draw p0)), .val (.int (own_draw p2)), .val (.long (q1 &&& (9223372036854775807 : Int64))), .second, .val (.long m3), .second, .val (.ref b5), .val (.int m9), .val (.long m12), .second, .val (.int (1 : Int32)), .unset, .unset, .unset, .unset] [(.long m3), (.int (own_draw p2)), (.ref b5)])) rfl (by rw [hml]; rfl) (Steps.refl _) (argsL := [(.int (own_draw p2)), (.long m3)]) (rest := []) (lenOf pd_2 rfl) rfl (by show 2 * 0 + _ ≤ _; exact Nat.le_of_eq rfl) (hb hby at_141) (fun _ _ => ⟨rfl, e15, (by decide : 1 + 0 ≤ _), (by decide : 3 + 0 ≤ _)⟩)
  dsimp only [Pt.U, Pt.locs, Pt.cells, Pt.slots] at X16 l16 y16 z16 st16 hQ16
  subst l16 y16 z16
  obtain ⟨rfl, Nq16, Kq16, Eq16_o0, Fq16_line_o0, Fq16_carriageReturn_o0, Fq16_lineStart_o0⟩ := hQ16
  replace E_b5 := E_b5.keep Kq16
  clear F_line_b5
  clear F_carriageReturn_b5
  clear F_lineStart_b5
  have Zz16 := Nat.le_trans Zz7 Kq16.1
  have Kk16 := Kk7.trans Kq16 (allS (Or.inr sz_b5) all0)
  have E_b5 := Eq16_o0
  have F_line_b5 := Fq16_line_o0
  have F_carriageReturn_b5 := Fq16_carriageReturn_o0
  have F_lineStart_b5 := Fq16_lineStart_o0
  have N16 := Fr.app N15 Nq16
  refine go (fun t kt => st16.trans kt) ?_
  show Goes p.tables e below _ (T16.setTop (mkF m 144 #[.val (.int p0), .val (.long q1), .second, .val (.int p2), .val (.long q3), .second, .val (.long q4), .second, .val (.int (own_draw p0)), .val (.int (own_draw p2)), .val (.long (q1 &&& (9223372036854775807 : Int64))), .second, .val (.long m3), .second, .val (.ref b5), .val (.int m9), .val (.long m12), .second, .val (.int (1 : Int32)), .unset, .unset, .unset, .unset] []))
  refine go (fun t kt => XS.iload X16.here hx rfl (hb hby at_144) rfl kt) ?_
  show Goes p.tables e below _ (T16.setTop (mkF m 146 #[.val (.int p0), .val (.long q1), .second, .val (.int p2), .val (.long q3), .second, .val (.long q4), .second, .val (.int (own_draw p0)), .val (.int (own_draw p2)), .val (.long (q1 &&& (9223372036854775807 : Int64))), .second, .val (.long m3), .second, .val (.ref b5), .val (.int m9), .val (.long m12), .second, .val (.int (1 : Int32)), .unset, .unset, .unset, .unset] [(.int (own_draw p2))]))
  refine go (fun t kt => XS.bipush X16.here hx rfl (hb hby at_146) kt) ?_
  show Goes p.tables e below _ (T16.setTop (mkF m 148 #[.val (.int p0), .val (.long q1), .second, .val (.int p2), .val (.long q3), .second, .val (.long q4), .second, .val (.int (own_draw p0)), .val (.int (own_draw p2)), .val (.long (q1 &&& (9223372036854775807 : Int64))), .second, .val (.long m3), .second, .val (.ref b5), .val (.int m9), .val (.long m12), .second, .val (.int (1 : Int32)), .unset, .unset, .unset, .unset] [(.int (10 : Int32)), (.int (own_draw p2))]))
  suffices KK : ∀ (m17 : Int32), m17 = (if (own_draw p2) = (10 : Int32) then (if (own_draw p0) = (13 : Int32) then (if m3 = ((q1 &&& (9223372036854775807 : Int64)) + (1 : Int64)) then (1 : Int32) else (0 : Int32)) else (0 : Int32)) else (0 : Int32)) → Goes p.tables e below (fun s₂ o => ∃ v L, o = .returned v ∧ Q0 Z p0 q1 p2 q3 q4 h0 n0 v s₂.heap L ∧ FrameEnd s o s₂ L 1 3) (T16.setTop (mkF m 173 #[.val (.int p0), .val (.long q1), .second, .val (.int p2), .val (.long q3), .second, .val (.long q4), .second, .val (.int (own_draw p0)), .val (.int (own_draw p2)), .val (.long (q1 &&& (9223372036854775807 : Int64))), .second, .val (.long m3), .second, .val (.ref b5), .val (.int m9), .val (.long m12), .second, .val (.int (1 : Int32)), .unset, .unset, .unset, .unset] [(.int m17)])) by
    by_cases hc18 : (own_draw p2) = (10 : Int32)
    ·
      refine go (fun t kt => XS.icmpNo X16.here hx rfl (hb hby at_148) rfl (teq hc18).2 kt) ?_
      show Goes p.tables e below _ (T16.setTop (mkF m 151 #[.val (.int p0), .val (.long q1), .second, .val (.int p2), .val (.long q3), .second, .val (.long q4), .second, .val (.int (own_draw p0)), .val (.int (own_draw p2)), .val (.long (q1 &&& (9223372036854775807 : Int64))), .second, .val (.long m3), .second, .val (.ref b5), .val (.int m9), .val (.long m12), .second, .val (.int (1 : Int32)), .unset, .unset, .unset, .unset] []))
      refine go (fun t kt => XS.iload X16.here hx rfl (hb hby at_151) rfl kt) ?_
      show Goes p.tables e below _ (T16.setTop (mkF m 153 #[.val (.int p0), .val (.long q1), .second, .val (.int p2), .val (.long q3), .second, .val (.long q4), .second, .val (.int (own_draw p0)), .val (.int (own_draw p2)), .val (.long (q1 &&& (9223372036854775807 : Int64))), .second, .val (.long m3), .second, .val (.ref b5), .val (.int m9), .val (.long m12), .second, .val (.int (1 : Int32)), .unset, .unset, .unset, .unset] [(.int (own_draw p0))]))
      refine go (fun t kt => XS.bipush X16.here hx rfl (hb hby at_153) kt) ?_
      show Goes p.tables e below _ (T16.setTop (mkF m 155 #[.val (.int p0), .val (.long q1), .second, .val (.int p2), .val (.long q3), .second, .val (.long q4), .second, .val (.int (own_draw p0)), .val (.int (own_draw p2)), .val (.long (q1 &&& (9223372036854775807 : Int64))), .second, .val (.long m3), .second, .val (.ref b5), .val (.int m9), .val (.long m12), .second, .val (.int (1 : Int32)), .unset, .unset, .unset, .unset] [(.int (13 : Int32)), (.int (own_draw p0))]))
      by_cases hc19 : (own_draw p0) = (13 : Int32)
      ·
        refine go (fun t kt => XS.icmpNo X16.here hx rfl (hb hby at_155) rfl (teq hc19).2 kt) ?_
        show Goes p.tables e below _ (T16.setTop (mkF m 158 #[.val (.int p0), .val (.long q1), .second, .val (.int p2), .val (.long q3), .second, .val (.long q4), .second, .val (.int (own_draw p0)), .val (.int (own_draw p2)), .val (.long (q1 &&& (9223372036854775807 : Int64))), .second, .val (.long m3), .second, .val (.ref b5), .val (.int m9), .val (.long m12), .second, .val (.int (1 : Int32)), .unset, .unset, .unset, .unset] []))
        refine go (fun t kt => XS.lload X16.here hx rfl (hb hby at_158) rfl kt) ?_
        show Goes p.tables e below _ (T16.setTop (mkF m 160 #[.val (.int p0), .val (.long q1), .second, .val (.int p2), .val (.long q3), .second, .val (.long q4), .second, .val (.int (own_draw p0)), .val (.int (own_draw p2)), .val (.long (q1 &&& (9223372036854775807 : Int64))), .second, .val (.long m3), .second, .val (.ref b5), .val (.int m9), .val (.long m12), .second, .val (.int (1 : Int32)), .unset, .unset, .unset, .unset] [(.long m3)]))
        refine go (fun t kt => XS.lload X16.here hx rfl (hb hby at_160) rfl kt) ?_
        show Goes p.tables e below _ (T16.setTop (mkF m 162 #[.val (.int p0), .val (.long q1), .second, .val (.int p2), .val (.long q3), .second, .val (.long q4), .second, .val (.int (own_draw p0)), .val (.int (own_draw p2)), .val (.long (q1 &&& (9223372036854775807 : Int64))), .second, .val (.long m3), .second, .val (.ref b5), .val (.int m9), .val (.long m12), .second, .val (.int (1 : Int32)), .unset, .unset, .unset, .unset] [(.long (q1 &&& (9223372036854775807 : Int64))), (.long m3)]))
        refine go (fun t kt => XS.lconst X16.here hx rfl (hb hby at_162) kt) ?_
        show Goes p.tables e below _ (T16.setTop (mkF m 163 #[.val (.int p0), .val (.long q1), .second, .val (.int p2), .val (.long q3), .second, .val (.long q4), .second, .val (.int (own_draw p0)), .val (.int (own_draw p2)), .val (.long (q1 &&& (9223372036854775807 : Int64))), .second, .val (.long m3), .second, .val (.ref b5), .val (.int m9), .val (.long m12), .second, .val (.int (1 : Int32)), .unset, .unset, .unset, .unset] [(.long (1 : Int64)), (.long (q1 &&& (9223372036854775807 : Int64))), (.long m3)]))
        refine go (fun t kt => XS.ladd X16.here hx rfl (hb hby at_163) rfl kt) ?_
        show Goes p.tables e below _ (T16.setTop (mkF m 164 #[.val (.int p0), .val (.long q1), .second, .val (.int p2), .val (.long q3), .second, .val (.long q4), .second, .val (.int (own_draw p0)), .val (.int (own_draw p2)), .val (.long (q1 &&& (9223372036854775807 : Int64))), .second, .val (.long m3), .second, .val (.ref b5), .val (.int m9), .val (.long m12), .second, .val (.int (1 : Int32)), .unset, .unset, .unset, .unset] [(.long ((q1 &&& (9223372036854775807 : Int64)) + (1 : Int64))), (.long m3)]))
        refine go (fun t kt => XS.lcmp X16.here hx rfl (hb hby at_164) rfl kt) ?_
        show Goes p.tables e below _ (T16.setTop (mkF m 165 #[.val (.int p0), .val (.long q1), .second, .val (.int p2), .val (.long q3), .second, .val (.long q4), .second, .val (.int (own_draw p0)), .val (.int (own_draw p2)), .val (.long (q1 &&& (9223372036854775807 : Int64))), .second, .val (.long m3), .second, .val (.ref b5), .val (.int m9), .val (.long m12), .second, .val (.int (1 : Int32)), .unset, .unset, .unset, .unset] [(.int (lcmpW m3 ((q1 &&& (9223372036854775807 : Int64)) + (1 : Int64))))]))
        by_cases hc20 : m3 = ((q1 &&& (9223372036854775807 : Int64)) + (1 : Int64))
        ·
          refine go (fun t kt => XS.ifNo X16.here hx rfl (hb hby at_165) rfl ((if0 _ _).trans (teq ((lw_eq m3 ((q1 &&& (9223372036854775807 : Int64)) + (1 : Int64))).mpr hc20)).2) kt) ?_
          show Goes p.tables e below _ (T16.setTop (mkF m 168 #[.val (.int p0), .val (.long q1), .second, .val (.int p2), .val (.long q3), .second, .val (.long q4), .second, .val (.int (own_draw p0)), .val (.int (own_draw p2)), .val (.long (q1 &&& (9223372036854775807 : Int64))), .second, .val (.long m3), .second, .val (.ref b5), .val (.int m9), .val (.long m12), .second, .val (.int (1 : Int32)), .unset, .unset, .unset, .unset] []))
          refine go (fun t kt => XS.iconst X16.here hx rfl (hb hby at_168) kt) ?_
          show Goes p.tables e below _ (T16.setTop (mkF m 169 #[.val (.int p0), .val (.long q1), .second, .val (.int p2), .val (.long q3), .second, .val (.long q4), .second, .val (.int (own_draw p0)), .val (.int (own_draw p2)), .val (.long (q1 &&& (9223372036854775807 : Int64))), .second, .val (.long m3), .second, .val (.ref b5), .val (.int m9), .val (.long m12), .second, .val (.int (1 : Int32)), .unset, .unset, .unset, .unset] [(.int (1 : Int32))]))
          refine go (fun t kt => XS.goto X16.here hx rfl (pc0 := 169) (pc' := 173) rfl (hb hby at_169) (by decide) (by decide) kt) ?_
          show Goes p.tables e below _ (T16.setTop (mkF m 173 #[.val (.int p0), .val (.long q1), .second, .val (.int p2), .val (.long q3), .second, .val (.long q4), .second, .val (.int (own_draw p0)), .val (.int (own_draw p2)), .val (.long (q1 &&& (9223372036854775807 : Int64))), .second, .val (.long m3), .second, .val (.ref b5), .val (.int m9), .val (.long m12), .second, .val (.int (1 : Int32)), .unset, .unset, .unset, .unset] [(.int (1 : Int32))]))
          exact KK _ (by rw [if_pos hc18, if_pos hc19, if_pos hc20])
        ·
          refine go (fun t kt => XS.ifYes X16.here hx rfl (pc0 := 165) (pc' := 172) rfl (hb hby at_165) rfl ((if0 _ _).trans (feq (fun q => hc20 ((lw_eq m3 ((q1 &&& (9223372036854775807 : Int64)) + (1 : Int64))).mp q))).2) (by decide) (by decide) kt) ?_
          show Goes p.tables e below _ (T16.setTop (mkF m 172 #[.val (.int p0), .val (.long q1), .second, .val (.int p2), .val (.long q3), .second, .val (.long q4), .second, .val (.int (own_draw p0)), .val (.int (own_draw p2)), .val (.long (q1 &&& (9223372036854775807 : Int64))), .second, .val (.long m3), .second, .val (.ref b5), .val (.int m9), .val (.long m12), .second, .val (.int (1 : Int32)), .unset, .unset, .unset, .unset] []))
          refine go (fun t kt => XS.iconst X16.here hx rfl (hb hby at_172) kt) ?_
          show Goes p.tables e below _ (T16.setTop (mkF m 173 #[.val (.int p0), .val (.long q1), .second, .val (.int p2), .val (.long q3), .second, .val (.long q4), .second, .val (.int (own_draw p0)), .val (.int (own_draw p2)), .val (.long (q1 &&& (9223372036854775807 : Int64))), .second, .val (.long m3), .second, .val (.ref b5), .val (.int m9), .val (.long m12), .second, .val (.int (1 : Int32)), .unset, .unset, .unset, .unset] [(.int (0 : Int32))]))
          exact KK _ (by rw [if_pos hc18, if_pos hc19, if_neg hc20])
      ·
        refine go (fun t kt => XS.icmpYes X16.here hx rfl (pc0 := 155) (pc' := 172) rfl (hb hby at_155) rfl (feq hc19).2 (by decide) (by decide) kt) ?_
        show Goes p.tables e below _ (T16.setTop (mkF m 172 #[.val (.int p0), .val (.long q1), .second, .val (.int p2), .val (.long q3), .second, .val (.long q4), .second, .val (.int (own_draw p0)), .val (.int (own_draw p2)), .val (.long (q1 &&& (9223372036854775807 : Int64))), .second, .val (.long m3), .second, .val (.ref b5), .val (.int m9), .val (.long m12), .second, .val (.int (1 : Int32)), .unset, .unset, .unset, .unset] []))
        refine go (fun t kt => XS.iconst X16.here hx rfl (hb hby at_172) kt) ?_
        show Goes p.tables e below _ (T16.setTop (mkF m 173 #[.val (.int p0), .val (.long q1), .second, .val (.int p2), .val (.long q3), .second, .val (.long q4), .second, .val (.int (own_draw p0)), .val (.int (own_draw p2)), .val (.long (q1 &&& (9223372036854775807 : Int64))), .second, .val (.long m3), .second, .val (.ref b5), .val (.int m9), .val (.long m12), .second, .val (.int (1 : Int32)), .unset, .unset, .unset, .unset] [(.int (0 : Int32))]))
        exact KK _ (by rw [if_pos hc18, if_neg hc19])
    ·
      refine go (fun t kt => XS.icmpYes X16.here hx rfl (pc0 := 148) (pc' := 172) rfl (hb hby at_148) rfl (feq hc18).2 (by decide) (by decide) kt) ?_
      show Goes p.tables e below _ (T16.setTop (mkF m 172 #[.val (.int p0), .val (.long q1), .second, .val (.int p2), .val (.long q3), .second, .val (.long q4), .second, .val (.int (own_draw p0)), .val (.int (own_draw p2)), .val (.long (q1 &&& (9223372036854775807 : Int64))), .second, .val (.long m3), .second, .val (.ref b5), .val (.int m9), .val (.long m12), .second, .val (.int (1 : Int32)), .unset, .unset, .unset, .unset] []))
      refine go (fun t kt => XS.iconst X16.here hx rfl (hb hby at_172) kt) ?_
      show Goes p.tables e below _ (T16.setTop (mkF m 173 #[.val (.int p0), .val (.long q1), .second, .val (.int p2), .val (.long q3), .second, .val (.long q4), .second, .val (.int (own_draw p0)), .val (.int (own_draw p2)), .val (.long (q1 &&& (9223372036854775807 : Int64))), .second, .val (.long m3), .second, .val (.ref b5), .val (.int m9), .val (.long m12), .second, .val (.int (1 : Int32)), .unset, .unset, .unset, .unset] [(.int (0 : Int32))]))
      exact KK _ (by rw [if_neg hc18])
  intro m17 hm17
  show Goes p.tables e below _ (T16.setTop (mkF m 173 #[.val (.int p0), .val (.long q1), .second, .val (.int p2), .val (.long q3), .second, .val (.long q4), .second, .val (.int (own_draw p0)), .val (.int (own_draw p2)), .val (.long (q1 &&& (9223372036854775807 : Int64))), .second, .val (.long m3), .second, .val (.ref b5), .val (.int m9), .val (.long m12), .second, .val (.int (1 : Int32)), .unset, .unset, .unset, .unset] [(.int m17)]))
  refine go (fun t kt => XS.istore X16.here hx rfl (hb hby at_173) rfl (l' := #[.val (.int p0), .val (.long q1), .second, .val (.int p2), .val (.long q3), .second, .val (.long q4), .second, .val (.int (own_draw p0)), .val (.int (own_draw p2)), .val (.long (q1 &&& (9223372036854775807 : Int64))), .second, .val (.long m3), .second, .val (.ref b5), .val (.int m9), .val (.long m12), .second, .val (.int (1 : Int32)), .val (.int m17), .unset, .unset, .unset]) rfl kt) ?_
  show Goes p.tables e below _ (T16.setTop (mkF m 175 #[.val (.int p0), .val (.long q1), .second, .val (.int p2), .val (.long q3), .second, .val (.long q4), .second, .val (.int (own_draw p0)), .val (.int (own_draw p2)), .val (.long (q1 &&& (9223372036854775807 : Int64))), .second, .val (.long m3), .second, .val (.ref b5), .val (.int m9), .val (.long m12), .second, .val (.int (1 : Int32)), .val (.int m17), .unset, .unset, .unset] []))
  refine go (fun t kt => XS.iload X16.here hx rfl (hb hby at_175) rfl kt) ?_
  show Goes p.tables e below _ (T16.setTop (mkF m 177 #[.val (.int p0), .val (.long q1), .second, .val (.int p2), .val (.long q3), .second, .val (.long q4), .second, .val (.int (own_draw p0)), .val (.int (own_draw p2)), .val (.long (q1 &&& (9223372036854775807 : Int64))), .second, .val (.long m3), .second, .val (.ref b5), .val (.int m9), .val (.long m12), .second, .val (.int (1 : Int32)), .val (.int m17), .unset, .unset, .unset] [(.int m9)]))
  refine go (fun t kt => XS.iload X16.here hx rfl (hb hby at_177) rfl kt) ?_
  show Goes p.tables e below _ (T16.setTop (mkF m 179 #[.val (.int p0), .val (.long q1), .second, .val (.int p2), .val (.long q3), .second, .val (.long q4), .second, .val (.int (own_draw p0)), .val (.int (own_draw p2)), .val (.long (q1 &&& (9223372036854775807 : Int64))), .second, .val (.long m3), .second, .val (.ref b5), .val (.int m9), .val (.long m12), .second, .val (.int (1 : Int32)), .val (.int m17), .unset, .unset, .unset] [(.int (own_draw p2)), (.int m9)]))
  obtain ⟨_, _, ⟨T21, L21, k21, n21⟩, -, X21, ⟨Lc21, hQ21, l21, y21, z21⟩, st21⟩ := Jvm.LawKit.callS X16 hx (y := (⟨"com/example/axsis/axsis/input/TextPositionCountPinLaw", "ends", "(C)Z"⟩ : MethodName)) hown (mvT hZ (hw _ (List.mem_of_getElem? (i := 26) rfl))) (mvT hZ (hw _ (List.mem_of_getElem? (i := 27) rfl))) (mvT hZ (hw _ (List.mem_of_getElem? (i := 2) rfl))) (mvT hZ (hw _ (List.mem_of_getElem? (i := 28) rfl))) (by decide) (backOf (W := 1) (rm5 l Z a0 hw [] (own_draw p2) T16.heap n0 Zz16 ) hZ (hw _ (List.mem_of_getElem? (i := 28) rfl)) (hw _ (List.mem_of_getElem? (i := 2) rfl)) (by decide) (by decide)) (g := (mkF m 179 #[.val (.int p0), .val (.long q1), .second, .val (.int p2), .val (.long q3), .second, .val (.long q4), .second, .val (.int (own_draw p0)), .val (.int (own_draw p2)), .val (.long (q1 &&& (9223372036854775807 : Int64))), .second, .val (.long m3), .second, .val (.ref b5), .val (.int m9), .val (.long m12), .second, .val (.int (1 : Int32)), .val (.int m17), .unset, .unset, .unset] [(.int (own_draw p2)), (.int m9)])) rfl (by rw [hml]; rfl) (argsL := [(.int (own_draw p2))]) (rest := [(.int m9)]) (lenOf pd_3 rfl) rfl (by show 2 * 0 + _ ≤ _; exact Nat.le_of_eq rfl) (hb hby at_179) (fun _ _ => ⟨rfl, rfl, (by decide : 1 + 0 ≤ _), (by decide : 3 + 0 ≤ _)⟩)
  dsimp only [Pt.U, Pt.locs, Pt.cells, Pt.slots] at X21 l21 y21 z21 st21 hQ21
  subst l21 y21 z21
  obtain ⟨rfl, Nq21, e21⟩ := hQ21
  have N21 := Fr.app N16 Nq21
  refine go st21 ?_
  show Goes p.tables e below _ (T21.setTop (mkF m 182 #[.val (.int p0), .val (.long q1), .second, .val (.int p2), .val (.long q3), .second, .val (.long q4), .second, .val (.int (own_draw p0)), .val (.int (own_draw p2)), .val (.long (q1 &&& (9223372036854775807 : Int64))), .second, .val (.long m3), .second, .val (.ref b5), .val (.int m9), .val (.long m12), .second, .val (.int (1 : Int32)), .val (.int m17), .unset, .unset, .unset] [(.int (own_ends (own_draw p2))), (.int m9)]))
  suffices KK : ∀ (m22 : Int32), m22 = (if (own_ends (own_draw p2)) = (0 : Int32) then (0 : Int32) else (if m17 = (0 : Int32) then (1 : Int32) else (0 : Int32))) → Goes p.tables e below (fun s₂ o => ∃ v L, o = .returned v ∧ Q0 Z p0 q1 p2 q3 q4 h0 n0 v s₂.heap L ∧ FrameEnd s o s₂ L 1 3) (T21.setTop (mkF m 195 #[.val (.int p0), .val (.long q1), .second, .val (.int p2), .val (.long q3), .second, .val (.long q4), .second, .val (.int (own_draw p0)), .val (.int (own_draw p2)), .val (.long (q1 &&& (9223372036854775807 : Int64))), .second, .val (.long m3), .second, .val (.ref b5), .val (.int m9), .val (.long m12), .second, .val (.int (1 : Int32)), .val (.int m17), .unset, .unset, .unset] [(.int m22), (.int m9)])) by
    by_cases hc23 : (own_ends (own_draw p2)) = (0 : Int32)
    ·
      refine go (fun t kt => XS.ifYes X21.here hx rfl (pc0 := 182) (pc' := 194) rfl (hb hby at_182) rfl ((if0 _ _).trans (teq hc23).1) (by decide) (by decide) kt) ?_
      show Goes p.tables e below _ (T21.setTop (mkF m 194 #[.val (.int p0), .val (.long q1), .second, .val (.int p2), .val (.long q3), .second, .val (.long q4), .second, .val (.int (own_draw p0)), .val (.int (own_draw p2)), .val (.long (q1 &&& (9223372036854775807 : Int64))), .second, .val (.long m3), .second, .val (.ref b5), .val (.int m9), .val (.long m12), .second, .val (.int (1 : Int32)), .val (.int m17), .unset, .unset, .unset] [(.int m9)]))
      refine go (fun t kt => XS.iconst X21.here hx rfl (hb hby at_194) kt) ?_
      show Goes p.tables e below _ (T21.setTop (mkF m 195 #[.val (.int p0), .val (.long q1), .second, .val (.int p2), .val (.long q3), .second, .val (.long q4), .second, .val (.int (own_draw p0)), .val (.int (own_draw p2)), .val (.long (q1 &&& (9223372036854775807 : Int64))), .second, .val (.long m3), .second, .val (.ref b5), .val (.int m9), .val (.long m12), .second, .val (.int (1 : Int32)), .val (.int m17), .unset, .unset, .unset] [(.int (0 : Int32)), (.int m9)]))
      exact KK _ (by rw [if_pos hc23])
    ·
      refine go (fun t kt => XS.ifNo X21.here hx rfl (hb hby at_182) rfl ((if0 _ _).trans (feq hc23).1) kt) ?_
      show Goes p.tables e below _ (T21.setTop (mkF m 185 #[.val (.int p0), .val (.long q1), .second, .val (.int p2), .val (.long q3), .second, .val (.long q4), .second, .val (.int (own_draw p0)), .val (.int (own_draw p2)), .val (.long (q1 &&& (9223372036854775807 : Int64))), .second, .val (.long m3), .second, .val (.ref b5), .val (.int m9), .val (.long m12), .second, .val (.int (1 : Int32)), .val (.int m17), .unset, .unset, .unset] [(.int m9)]))
      refine go (fun t kt => XS.iload X21.here hx rfl (hb hby at_185) rfl kt) ?_
      show Goes p.tables e below _ (T21.setTop (mkF m 187 #[.val (.int p0), .val (.long q1), .second, .val (.int p2), .val (.long q3), .second, .val (.long q4), .second, .val (.int (own_draw p0)), .val (.int (own_draw p2)), .val (.long (q1 &&& (9223372036854775807 : Int64))), .second, .val (.long m3), .second, .val (.ref b5), .val (.int m9), .val (.long m12), .second, .val (.int (1 : Int32)), .val (.int m17), .unset, .unset, .unset] [(.int m17), (.int m9)]))
      by_cases hc24 : m17 = (0 : Int32)
      ·
        refine go (fun t kt => XS.ifNo X21.here hx rfl (hb hby at_187) rfl ((if0 _ _).trans (teq hc24).2) kt) ?_
        show Goes p.tables e below _ (T21.setTop (mkF m 190 #[.val (.int p0), .val (.long q1), .second, .val (.int p2), .val (.long q3), .second, .val (.long q4), .second, .val (.int (own_draw p0)), .val (.int (own_draw p2)), .val (.long (q1 &&& (9223372036854775807 : Int64))), .second, .val (.long m3), .second, .val (.ref b5), .val (.int m9), .val (.long m12), .second, .val (.int (1 : Int32)), .val (.int m17), .unset, .unset, .unset] [(.int m9)]))
        refine go (fun t kt => XS.iconst X21.here hx rfl (hb hby at_190) kt) ?_
        show Goes p.tables e below _ (T21.setTop (mkF m 191 #[.val (.int p0), .val (.long q1), .second, .val (.int p2), .val (.long q3), .second, .val (.long q4), .second, .val (.int (own_draw p0)), .val (.int (own_draw p2)), .val (.long (q1 &&& (9223372036854775807 : Int64))), .second, .val (.long m3), .second, .val (.ref b5), .val (.int m9), .val (.long m12), .second, .val (.int (1 : Int32)), .val (.int m17), .unset, .unset, .unset] [(.int (1 : Int32)), (.int m9)]))
        refine go (fun t kt => XS.goto X21.here hx rfl (pc0 := 191) (pc' := 195) rfl (hb hby at_191) (by decide) (by decide) kt) ?_
        show Goes p.tables e below _ (T21.setTop (mkF m 195 #[.val (.int p0), .val (.long q1), .second, .val (.int p2), .val (.long q3), .second, .val (.long q4), .second, .val (.int (own_draw p0)), .val (.int (own_draw p2)), .val (.long (q1 &&& (9223372036854775807 : Int64))), .second, .val (.long m3), .second, .val (.ref b5), .val (.int m9), .val (.long m12), .second, .val (.int (1 : Int32)), .val (.int m17), .unset, .unset, .unset] [(.int (1 : Int32)), (.int m9)]))
        exact KK _ (by rw [if_neg hc23, if_pos hc24])
      ·
        refine go (fun t kt => XS.ifYes X21.here hx rfl (pc0 := 187) (pc' := 194) rfl (hb hby at_187) rfl ((if0 _ _).trans (feq hc24).2) (by decide) (by decide) kt) ?_
        show Goes p.tables e below _ (T21.setTop (mkF m 194 #[.val (.int p0), .val (.long q1), .second, .val (.int p2), .val (.long q3), .second, .val (.long q4), .second, .val (.int (own_draw p0)), .val (.int (own_draw p2)), .val (.long (q1 &&& (9223372036854775807 : Int64))), .second, .val (.long m3), .second, .val (.ref b5), .val (.int m9), .val (.long m12), .second, .val (.int (1 : Int32)), .val (.int m17), .unset, .unset, .unset] [(.int m9)]))
        refine go (fun t kt => XS.iconst X21.here hx rfl (hb hby at_194) kt) ?_
        show Goes p.tables e below _ (T21.setTop (mkF m 195 #[.val (.int p0), .val (.long q1), .second, .val (.int p2), .val (.long q3), .second, .val (.long q4), .second, .val (.int (own_draw p0)), .val (.int (own_draw p2)), .val (.long (q1 &&& (9223372036854775807 : Int64))), .second, .val (.long m3), .second, .val (.ref b5), .val (.int m9), .val (.long m12), .second, .val (.int (1 : Int32)), .val (.int m17), .unset, .unset, .unset] [(.int (0 : Int32)), (.int m9)]))
        exact KK _ (by rw [if_neg hc23, if_neg hc24])
  intro m22 hm22
  show Goes p.tables e below _ (T21.setTop (mkF m 195 #[.val (.int p0), .val (.long q1), .second, .val (.int p2), .val (.long q3), .second, .val (.long q4), .second, .val (.int (own_draw p0)), .val (.int (own_draw p2)), .val (.long (q1 &&& (9223372036854775807 : Int64))), .second, .val (.long m3), .second, .val (.ref b5), .val (.int m9), .val (.long m12), .second, .val (.int (1 : Int32)), .val (.int m17), .unset, .unset, .unset] [(.int m22), (.int m9)]))
  refine go (fun t kt => XS.iadd X21.here hx rfl (hb hby at_195) rfl kt) ?_
  show Goes p.tables e below _ (T21.setTop (mkF m 196 #[.val (.int p0), .val (.long q1), .second, .val (.int p2), .val (.long q3), .second, .val (.long q4), .second, .val (.int (own_draw p0)), .val (.int (own_draw p2)), .val (.long (q1 &&& (9223372036854775807 : Int64))), .second, .val (.long m3), .second, .val (.ref b5), .val (.int m9), .val (.long m12), .second, .val (.int (1 : Int32)), .val (.int m17), .unset, .unset, .unset] [(.int (m9 + m22))]))
  refine go (fun t kt => XS.istore X21.here hx rfl (hb hby at_196) rfl (l' := #[.val (.int p0), .val (.long q1), .second, .val (.int p2), .val (.long q3), .second, .val (.long q4), .second, .val (.int (own_draw p0)), .val (.int (own_draw p2)), .val (.long (q1 &&& (9223372036854775807 : Int64))), .second, .val (.long m3), .second, .val (.ref b5), .val (.int m9), .val (.long m12), .second, .val (.int (1 : Int32)), .val (.int m17), .val (.int (m9 + m22)), .unset, .unset]) rfl kt) ?_
  show Goes p.tables e below _ (T21.setTop (mkF m 198 #[.val (.int p0), .val (.long q1), .second, .val (.int p2), .val (.long q3), .second, .val (.long q4), .second, .val (.int (own_draw p0)), .val (.int (own_draw p2)), .val (.long (q1 &&& (9223372036854775807 : Int64))), .second, .val (.long m3), .second, .val (.ref b5), .val (.int m9), .val (.long m12), .second, .val (.int (1 : Int32)), .val (.int m17), .val (.int (m9 + m22)), .unset, .unset] []))
  refine go (fun t kt => XS.iload X21.here hx rfl (hb hby at_198) rfl kt) ?_
  show Goes p.tables e below _ (T21.setTop (mkF m 200 #[.val (.int p0), .val (.long q1), .second, .val (.int p2), .val (.long q3), .second, .val (.long q4), .second, .val (.int (own_draw p0)), .val (.int (own_draw p2)), .val (.long (q1 &&& (9223372036854775807 : Int64))), .second, .val (.long m3), .second, .val (.ref b5), .val (.int m9), .val (.long m12), .second, .val (.int (1 : Int32)), .val (.int m17), .val (.int (m9 + m22)), .unset, .unset] [(.int (own_draw p2))]))
  obtain ⟨_, _, ⟨T25, L25, k25, n25⟩, -, X25, ⟨Lc25, hQ25, l25, y25, z25⟩, st25⟩ := Jvm.LawKit.callS X21 hx (y := (⟨"com/example/axsis/axsis/input/TextPositionCountPinLaw", "ends", "(C)Z"⟩ : MethodName)) hown (mvT hZ (hw _ (List.mem_of_getElem? (i := 26) rfl))) (mvT hZ (hw _ (List.mem_of_getElem? (i := 27) rfl))) (mvT hZ (hw _ (List.mem_of_getElem? (i := 2) rfl))) (mvT hZ (hw _ (List.mem_of_getElem? (i := 28) rfl))) (by decide) (backOf (W := 0) (rm5 l Z a0 hw [] (own_draw p2) T16.heap n0 Zz16 ) hZ (hw _ (List.mem_of_getElem? (i := 28) rfl)) (hw _ (List.mem_of_getElem? (i := 2) rfl)) (by decide) (by decide)) (g := (mkF m 200 #[.val (.int p0), .val (.long q1), .second, .val (.int p2), .val (.long q3), .second, .val (.long q4), .second, .val (.int (own_draw p0)), .val (.int (own_draw p2)), .val (.long (q1 &&& (9223372036854775807 : Int64))), .second, .val (.long m3), .second, .val (.ref b5), .val (.int m9), .val (.long m12), .second, .val (.int (1 : Int32)), .val (.int m17), .val (.int (m9 + m22)), .unset, .unset] [(.int (own_draw p2))])) rfl (by rw [hml]; rfl) (argsL := [(.int (own_draw p2))]) (rest := []) (lenOf pd_3 rfl) rfl (by show 2 * 0 + _ ≤ _; exact Nat.le_of_eq rfl) (hb hby at_200) (fun _ _ => ⟨rfl, e21, (by decide : 1 + 0 ≤ _), (by decide : 3 + 0 ≤ _)⟩)
  dsimp only [Pt.U, Pt.locs, Pt.cells, Pt.slots] at X25 l25 y25 z25 st25 hQ25
  subst l25 y25 z25
  obtain ⟨rfl, Nq25, e25⟩ := hQ25
  have N25 := Fr.app N21 Nq25
  refine go st25 ?_
  show Goes p.tables e below _ (T25.setTop (mkF m 203 #[.val (.int p0), .val (.long q1), .second, .val (.int p2), .val (.long q3), .second, .val (.long q4), .second, .val (.int (own_draw p0)), .val (.int (own_draw p2)), .val (.long (q1 &&& (9223372036854775807 : Int64))), .second, .val (.long m3), .second, .val (.ref b5), .val (.int m9), .val (.long m12), .second, .val (.int (1 : Int32)), .val (.int m17), .val (.int (m9 + m22)), .unset, .unset] [(.int (own_ends (own_draw p2)))]))
  suffices KK : ∀ (m26 : Int64), m26 = (if (own_ends (own_draw p2)) = (0 : Int32) then m12 else (m3 + (1 : Int64))) → Goes p.tables e below (fun s₂ o => ∃ v L, o = .returned v ∧ Q0 Z p0 q1 p2 q3 q4 h0 n0 v s₂.heap L ∧ FrameEnd s o s₂ L 1 3) (T25.setTop (mkF m 215 #[.val (.int p0), .val (.long q1), .second, .val (.int p2), .val (.long q3), .second, .val (.long q4), .second, .val (.int (own_draw p0)), .val (.int (own_draw p2)), .val (.long (q1 &&& (9223372036854775807 : Int64))), .second, .val (.long m3), .second, .val (.ref b5), .val (.int m9), .val (.long m12), .second, .val (.int (1 : Int32)), .val (.int m17), .val (.int (m9 + m22)), .unset, .unset] [(.long m26)])) by
    by_cases hc27 : (own_ends (own_draw p2)) = (0 : Int32)
    ·
      refine go (fun t kt => XS.ifYes X25.here hx rfl (pc0 := 203) (pc' := 213) rfl (hb hby at_203) rfl ((if0 _ _).trans (teq hc27).1) (by decide) (by decide) kt) ?_
      show Goes p.tables e below _ (T25.setTop (mkF m 213 #[.val (.int p0), .val (.long q1), .second, .val (.int p2), .val (.long q3), .second, .val (.long q4), .second, .val (.int (own_draw p0)), .val (.int (own_draw p2)), .val (.long (q1 &&& (9223372036854775807 : Int64))), .second, .val (.long m3), .second, .val (.ref b5), .val (.int m9), .val (.long m12), .second, .val (.int (1 : Int32)), .val (.int m17), .val (.int (m9 + m22)), .unset, .unset] []))
      refine go (fun t kt => XS.lload X25.here hx rfl (hb hby at_213) rfl kt) ?_
      show Goes p.tables e below _ (T25.setTop (mkF m 215 #[.val (.int p0), .val (.long q1), .second, .val (.int p2), .val (.long q3), .second, .val (.long q4), .second, .val (.int (own_draw p0)), .val (.int (own_draw p2)), .val (.long (q1 &&& (9223372036854775807 : Int64))), .second, .val (.long m3), .second, .val (.ref b5), .val (.int m9), .val (.long m12), .second, .val (.int (1 : Int32)), .val (.int m17), .val (.int (m9 + m22)), .unset, .unset] [(.long m12)]))
      exact KK _ (by rw [if_pos hc27])
    ·
      refine go (fun t kt => XS.ifNo X25.here hx rfl (hb hby at_203) rfl ((if0 _ _).trans (feq hc27).1) kt) ?_
      show Goes p.tables e below _ (T25.setTop (mkF m 206 #[.val (.int p0), .val (.long q1), .second, .val (.int p2), .val (.long q3), .second, .val (.long q4), .second, .val (.int (own_draw p0)), .val (.int (own_draw p2)), .val (.long (q1 &&& (9223372036854775807 : Int64))), .second, .val (.long m3), .second, .val (.ref b5), .val (.int m9), .val (.long m12), .second, .val (.int (1 : Int32)), .val (.int m17), .val (.int (m9 + m22)), .unset, .unset] []))
      refine go (fun t kt => XS.lload X25.here hx rfl (hb hby at_206) rfl kt) ?_
      show Goes p.tables e below _ (T25.setTop (mkF m 208 #[.val (.int p0), .val (.long q1), .second, .val (.int p2), .val (.long q3), .second, .val (.long q4), .second, .val (.int (own_draw p0)), .val (.int (own_draw p2)), .val (.long (q1 &&& (9223372036854775807 : Int64))), .second, .val (.long m3), .second, .val (.ref b5), .val (.int m9), .val (.long m12), .second, .val (.int (1 : Int32)), .val (.int m17), .val (.int (m9 + m22)), .unset, .unset] [(.long m3)]))
      refine go (fun t kt => XS.lconst X25.here hx rfl (hb hby at_208) kt) ?_
      show Goes p.tables e below _ (T25.setTop (mkF m 209 #[.val (.int p0), .val (.long q1), .second, .val (.int p2), .val (.long q3), .second, .val (.long q4), .second, .val (.int (own_draw p0)), .val (.int (own_draw p2)), .val (.long (q1 &&& (9223372036854775807 : Int64))), .second, .val (.long m3), .second, .val (.ref b5), .val (.int m9), .val (.long m12), .second, .val (.int (1 : Int32)), .val (.int m17), .val (.int (m9 + m22)), .unset, .unset] [(.long (1 : Int64)), (.long m3)]))
      refine go (fun t kt => XS.ladd X25.here hx rfl (hb hby at_209) rfl kt) ?_
      show Goes p.tables e below _ (T25.setTop (mkF m 210 #[.val (.int p0), .val (.long q1), .second, .val (.int p2), .val (.long q3), .second, .val (.long q4), .second, .val (.int (own_draw p0)), .val (.int (own_draw p2)), .val (.long (q1 &&& (9223372036854775807 : Int64))), .second, .val (.long m3), .second, .val (.ref b5), .val (.int m9), .val (.long m12), .second, .val (.int (1 : Int32)), .val (.int m17), .val (.int (m9 + m22)), .unset, .unset] [(.long (m3 + (1 : Int64)))]))
      refine go (fun t kt => XS.goto X25.here hx rfl (pc0 := 210) (pc' := 215) rfl (hb hby at_210) (by decide) (by decide) kt) ?_
      show Goes p.tables e below _ (T25.setTop (mkF m 215 #[.val (.int p0), .val (.long q1), .second, .val (.int p2), .val (.long q3), .second, .val (.long q4), .second, .val (.int (own_draw p0)), .val (.int (own_draw p2)), .val (.long (q1 &&& (9223372036854775807 : Int64))), .second, .val (.long m3), .second, .val (.ref b5), .val (.int m9), .val (.long m12), .second, .val (.int (1 : Int32)), .val (.int m17), .val (.int (m9 + m22)), .unset, .unset] [(.long (m3 + (1 : Int64)))]))
      exact KK _ (by rw [if_neg hc27])
  intro m26 hm26
  show Goes p.tables e below _ (T25.setTop (mkF m 215 #[.val (.int p0), .val (.long q1), .second, .val (.int p2), .val (.long q3), .second, .val (.long q4), .second, .val (.int (own_draw p0)), .val (.int (own_draw p2)), .val (.long (q1 &&& (9223372036854775807 : Int64))), .second, .val (.long m3), .second, .val (.ref b5), .val (.int m9), .val (.long m12), .second, .val (.int (1 : Int32)), .val (.int m17), .val (.int (m9 + m22)), .unset, .unset] [(.long m26)]))
  refine go (fun t kt => XS.lstore X25.here hx rfl (hb hby at_215) rfl (l' := #[.val (.int p0), .val (.long q1), .second, .val (.int p2), .val (.long q3), .second, .val (.long q4), .second, .val (.int (own_draw p0)), .val (.int (own_draw p2)), .val (.long (q1 &&& (9223372036854775807 : Int64))), .second, .val (.long m3), .second, .val (.ref b5), .val (.int m9), .val (.long m12), .second, .val (.int (1 : Int32)), .val (.int m17), .val (.int (m9 + m22)), .val (.long m26), .second]) rfl kt) ?_
  show Goes p.tables e below _ (T25.setTop (mkF m 217 #[.val (.int p0), .val (.long q1), .second, .val (.int p2), .val (.long q3), .second, .val (.long q4), .second, .val (.int (own_draw p0)), .val (.int (own_draw p2)), .val (.long (q1 &&& (9223372036854775807 : Int64))), .second, .val (.long m3), .second, .val (.ref b5), .val (.int m9), .val (.long m12), .second, .val (.int (1 : Int32)), .val (.int m17), .val (.int (m9 + m22)), .val (.long m26), .second] []))
  refine go (fun t kt => XS.iload X25.here hx rfl (hb hby at_217) rfl kt) ?_
  show Goes p.tables e below _ (T25.setTop (mkF m 219 #[.val (.int p0), .val (.long q1), .second, .val (.int p2), .val (.long q3), .second, .val (.long q4), .second, .val (.int (own_draw p0)), .val (.int (own_draw p2)), .val (.long (q1 &&& (9223372036854775807 : Int64))), .second, .val (.long m3), .second, .val (.ref b5), .val (.int m9), .val (.long m12), .second, .val (.int (1 : Int32)), .val (.int m17), .val (.int (m9 + m22)), .val (.long m26), .second] [(.int (1 : Int32))]))
  refine go (fun t kt => XS.ifNo X25.here hx rfl (hb hby at_219) rfl ((if0 _ _).trans (feq (by decide : ¬ ((1 : Int32) = (0 : Int32)))).1) kt) ?_
  show Goes p.tables e below _ (T25.setTop (mkF m 222 #[.val (.int p0), .val (.long q1), .second, .val (.int p2), .val (.long q3), .second, .val (.long q4), .second, .val (.int (own_draw p0)), .val (.int (own_draw p2)), .val (.long (q1 &&& (9223372036854775807 : Int64))), .second, .val (.long m3), .second, .val (.ref b5), .val (.int m9), .val (.long m12), .second, .val (.int (1 : Int32)), .val (.int m17), .val (.int (m9 + m22)), .val (.long m26), .second] []))
  refine go (fun t kt => XS.aload X25.here hx rfl (hb hby at_222) rfl rfl kt) ?_
  show Goes p.tables e below _ (T25.setTop (mkF m 224 #[.val (.int p0), .val (.long q1), .second, .val (.int p2), .val (.long q3), .second, .val (.long q4), .second, .val (.int (own_draw p0)), .val (.int (own_draw p2)), .val (.long (q1 &&& (9223372036854775807 : Int64))), .second, .val (.long m3), .second, .val (.ref b5), .val (.int m9), .val (.long m12), .second, .val (.int (1 : Int32)), .val (.int m17), .val (.int (m9 + m22)), .val (.long m26), .second] [(.ref b5)]))
  obtain ⟨cq28, kq28, q28a, q28b, q28c⟩ := isOf hZ e25 E_b5
  obtain ⟨_, _, ⟨T28, L28, k28, n28⟩, -, X28, ⟨Lc28, hQ28, l28, y28, z28⟩, st28⟩ := X25.virtualBack hx (y := (⟨"com/example/axsis/axsis/input/TextPosition", "line", "()I"⟩ : MethodName)) (z := (⟨"com/example/axsis/axsis/input/TextPosition", "line", "()I"⟩ : MethodName)) hown (mvT hZ (hw _ (List.mem_of_getElem? (i := 29) rfl))) (mvT hZ (hw _ (List.mem_of_getElem? (i := 30) rfl))) (notFace_of_selects (args := #[]) (mvT hZ (hw _ (List.mem_of_getElem? (i := 32) rfl)))) (mvT hZ (hw _ (List.mem_of_getElem? (i := 32) rfl))) (mvT hZ (hw _ (List.mem_of_getElem? (i := 31) rfl))) (by decide) (backOf (W := 0) (rm6 l Z a0 hw [] b5 (own_cl (own_draw p2) m3 (own_cl (own_draw p0) (q1 &&& (9223372036854775807 : Int64)) (1 : Int32) (-2 : Int64)) (own_cc (own_draw p0) (q1 &&& (9223372036854775807 : Int64)) (-2 : Int64))) T16.heap n0 Zz16 F_line_b5) hZ (hw _ (List.mem_of_getElem? (i := 33) rfl)) (hw _ (List.mem_of_getElem? (i := 7) rfl)) (by decide) (by decide)) q28a q28c (g := (mkF m 224 #[.val (.int p0), .val (.long q1), .second, .val (.int p2), .val (.long q3), .second, .val (.long q4), .second, .val (.int (own_draw p0)), .val (.int (own_draw p2)), .val (.long (q1 &&& (9223372036854775807 : Int64))), .second, .val (.long m3), .second, .val (.ref b5), .val (.int m9), .val (.long m12), .second, .val (.int (1 : Int32)), .val (.int m17), .val (.int (m9 + m22)), .val (.long m26), .second] [(.ref b5)])) rfl (by rw [hml]; rfl) (Steps.refl _) (argsL := []) (rest := []) (lenOf pd_4 rfl) rfl (by show 2 * 0 + _ ≤ _; exact Nat.le_of_eq rfl) (hb hby at_224) (fun _ _ => ⟨rfl, e25, (by decide : 1 + 0 ≤ _), (by decide : 3 + 0 ≤ _)⟩)
  dsimp only [Pt.U, Pt.locs, Pt.cells, Pt.slots] at X28 l28 y28 z28 st28 hQ28
  subst l28 y28 z28
  obtain ⟨rfl, Nq28, e28⟩ := hQ28
  have N28 := Fr.app N25 Nq28
  refine go (fun t kt => st28.trans kt) ?_
  show Goes p.tables e below _ (T28.setTop (mkF m 227 #[.val (.int p0), .val (.long q1), .second, .val (.int p2), .val (.long q3), .second, .val (.long q4), .second, .val (.int (own_draw p0)), .val (.int (own_draw p2)), .val (.long (q1 &&& (9223372036854775807 : Int64))), .second, .val (.long m3), .second, .val (.ref b5), .val (.int m9), .val (.long m12), .second, .val (.int (1 : Int32)), .val (.int m17), .val (.int (m9 + m22)), .val (.long m26), .second] [(.int (own_line (own_cl (own_draw p2) m3 (own_cl (own_draw p0) (q1 &&& (9223372036854775807 : Int64)) (1 : Int32) (-2 : Int64)) (own_cc (own_draw p0) (q1 &&& (9223372036854775807 : Int64)) (-2 : Int64)))))]))
  refine go (fun t kt => XS.iload X28.here hx rfl (hb hby at_227) rfl kt) ?_
  show Goes p.tables e below _ (T28.setTop (mkF m 229 #[.val (.int p0), .val (.long q1), .second, .val (.int p2), .val (.long q3), .second, .val (.long q4), .second, .val (.int (own_draw p0)), .val (.int (own_draw p2)), .val (.long (q1 &&& (9223372036854775807 : Int64))), .second, .val (.long m3), .second, .val (.ref b5), .val (.int m9), .val (.long m12), .second, .val (.int (1 : Int32)), .val (.int m17), .val (.int (m9 + m22)), .val (.long m26), .second] [(.int (m9 + m22)), (.int (own_line (own_cl (own_draw p2) m3 (own_cl (own_draw p0) (q1 &&& (9223372036854775807 : Int64)) (1 : Int32) (-2 : Int64)) (own_cc (own_draw p0) (q1 &&& (9223372036854775807 : Int64)) (-2 : Int64)))))]))
  refine go (fun t kt => XS.icmpNo X28.here hx rfl (hb hby at_229) rfl (teq (own_l2 _ _ _ _ (own_nn q1) (own_nn2 _ _ _ _ hm3) _ _ _ hm9 hm17 hm22)).2 kt) ?_
  show Goes p.tables e below _ (T28.setTop (mkF m 232 #[.val (.int p0), .val (.long q1), .second, .val (.int p2), .val (.long q3), .second, .val (.long q4), .second, .val (.int (own_draw p0)), .val (.int (own_draw p2)), .val (.long (q1 &&& (9223372036854775807 : Int64))), .second, .val (.long m3), .second, .val (.ref b5), .val (.int m9), .val (.long m12), .second, .val (.int (1 : Int32)), .val (.int m17), .val (.int (m9 + m22)), .val (.long m26), .second] []))
  refine go (fun t kt => XS.aload X28.here hx rfl (hb hby at_232) rfl rfl kt) ?_
  show Goes p.tables e below _ (T28.setTop (mkF m 234 #[.val (.int p0), .val (.long q1), .second, .val (.int p2), .val (.long q3), .second, .val (.long q4), .second, .val (.int (own_draw p0)), .val (.int (own_draw p2)), .val (.long (q1 &&& (9223372036854775807 : Int64))), .second, .val (.long m3), .second, .val (.ref b5), .val (.int m9), .val (.long m12), .second, .val (.int (1 : Int32)), .val (.int m17), .val (.int (m9 + m22)), .val (.long m26), .second] [(.ref b5)]))
  refine go (fun t kt => XS.lload X28.here hx rfl (hb hby at_234) rfl kt) ?_
  show Goes p.tables e below _ (T28.setTop (mkF m 236 #[.val (.int p0), .val (.long q1), .second, .val (.int p2), .val (.long q3), .second, .val (.long q4), .second, .val (.int (own_draw p0)), .val (.int (own_draw p2)), .val (.long (q1 &&& (9223372036854775807 : Int64))), .second, .val (.long m3), .second, .val (.ref b5), .val (.int m9), .val (.long m12), .second, .val (.int (1 : Int32)), .val (.int m17), .val (.int (m9 + m22)), .val (.long m26), .second] [(.long q4), (.ref b5)]))
  obtain ⟨cq29, kq29, q29a, q29b, q29c⟩ := isOf hZ e28 E_b5
  obtain ⟨_, _, ⟨T29, L29, k29, n29⟩, -, X29, ⟨Lc29, hQ29, l29, y29, z29⟩, st29⟩ := X28.virtualBack hx (y := (⟨"com/example/axsis/axsis/input/TextPosition", "column", "(J)I"⟩ : MethodName)) (z := (⟨"com/example/axsis/axsis/input/TextPosition", "column", "(J)I"⟩ : MethodName)) hown (mvT hZ (hw _ (List.mem_of_getElem? (i := 34) rfl))) (mvT hZ (hw _ (List.mem_of_getElem? (i := 35) rfl))) (notFace_of_selects (args := #[]) (mvT hZ (hw _ (List.mem_of_getElem? (i := 37) rfl)))) (mvT hZ (hw _ (List.mem_of_getElem? (i := 37) rfl))) (mvT hZ (hw _ (List.mem_of_getElem? (i := 36) rfl))) (by decide) (backOf (W := 0) (rm7 l Z a0 hw [] b5 q4 (own_cs (own_draw p2) m3 (own_cs (own_draw p0) (q1 &&& (9223372036854775807 : Int64)) (0 : Int64))) T16.heap n0 Zz16 F_lineStart_b5) hZ (hw _ (List.mem_of_getElem? (i := 38) rfl)) (hw _ (List.mem_of_getElem? (i := 7) rfl)) (by decide) (by decide)) q29a q29c (g := (mkF m 236 #[.val (.int p0), .val (.long q1), .second, .val (.int p2), .val (.long q3), .second, .val (.long q4), .second, .val (.int (own_draw p0)), .val (.int (own_draw p2)), .val (.long (q1 &&& (9223372036854775807 : Int64))), .second, .val (.long m3), .second, .val (.ref b5), .val (.int m9), .val (.long m12), .second, .val (.int (1 : Int32)), .val (.int m17), .val (.int (m9 + m22)), .val (.long m26), .second] [(.long q4), (.ref b5)])) rfl (by rw [hml]; rfl) (Steps.refl _) (argsL := [(.long q4)]) (rest := []) (lenOf pd_5 rfl) rfl (by show 2 * 0 + _ ≤ _; exact Nat.le_of_eq rfl) (hb hby at_236) (fun _ _ => ⟨rfl, e28, (by decide : 1 + 0 ≤ _), (by decide : 3 + 0 ≤ _)⟩)
  dsimp only [Pt.U, Pt.locs, Pt.cells, Pt.slots] at X29 l29 y29 z29 st29 hQ29
  subst l29 y29 z29
  obtain ⟨rfl, Nq29, e29⟩ := hQ29
  have N29 := Fr.app N28 Nq29
  refine go (fun t kt => st29.trans kt) ?_
  show Goes p.tables e below _ (T29.setTop (mkF m 239 #[.val (.int p0), .val (.long q1), .second, .val (.int p2), .val (.long q3), .second, .val (.long q4), .second, .val (.int (own_draw p0)), .val (.int (own_draw p2)), .val (.long (q1 &&& (9223372036854775807 : Int64))), .second, .val (.long m3), .second, .val (.ref b5), .val (.int m9), .val (.long m12), .second, .val (.int (1 : Int32)), .val (.int m17), .val (.int (m9 + m22)), .val (.long m26), .second] [(.int (own_col q4 (own_cs (own_draw p2) m3 (own_cs (own_draw p0) (q1 &&& (9223372036854775807 : Int64)) (0 : Int64)))))]))
  refine go (fun t kt => XS.lload X29.here hx rfl (hb hby at_239) rfl kt) ?_
  show Goes p.tables e below _ (T29.setTop (mkF m 241 #[.val (.int p0), .val (.long q1), .second, .val (.int p2), .val (.long q3), .second, .val (.long q4), .second, .val (.int (own_draw p0)), .val (.int (own_draw p2)), .val (.long (q1 &&& (9223372036854775807 : Int64))), .second, .val (.long m3), .second, .val (.ref b5), .val (.int m9), .val (.long m12), .second, .val (.int (1 : Int32)), .val (.int m17), .val (.int (m9 + m22)), .val (.long m26), .second] [(.long q4), (.int (own_col q4 (own_cs (own_draw p2) m3 (own_cs (own_draw p0) (q1 &&& (9223372036854775807 : Int64)) (0 : Int64)))))]))
  refine go (fun t kt => XS.lload X29.here hx rfl (hb hby at_241) rfl kt) ?_
  show Goes p.tables e below _ (T29.setTop (mkF m 243 #[.val (.int p0), .val (.long q1), .second, .val (.int p2), .val (.long q3), .second, .val (.long q4), .second, .val (.int (own_draw p0)), .val (.int (own_draw p2)), .val (.long (q1 &&& (9223372036854775807 : Int64))), .second, .val (.long m3), .second, .val (.ref b5), .val (.int m9), .val (.long m12), .second, .val (.int (1 : Int32)), .val (.int m17), .val (.int (m9 + m22)), .val (.long m26), .second] [(.long m26), (.long q4), (.int (own_col q4 (own_cs (own_draw p2) m3 (own_cs (own_draw p0) (q1 &&& (9223372036854775807 : Int64)) (0 : Int64)))))]))
  refine go (fun t kt => XS.lsub X29.here hx rfl (hb hby at_243) rfl kt) ?_
  show Goes p.tables e below _ (T29.setTop (mkF m 244 #[.val (.int p0), .val (.long q1), .second, .val (.int p2), .val (.long q3), .second, .val (.long q4), .second, .val (.int (own_draw p0)), .val (.int (own_draw p2)), .val (.long (q1 &&& (9223372036854775807 : Int64))), .second, .val (.long m3), .second, .val (.ref b5), .val (.int m9), .val (.long m12), .second, .val (.int (1 : Int32)), .val (.int m17), .val (.int (m9 + m22)), .val (.long m26), .second] [(.long (q4 - m26)), (.int (own_col q4 (own_cs (own_draw p2) m3 (own_cs (own_draw p0) (q1 &&& (9223372036854775807 : Int64)) (0 : Int64)))))]))
  refine go (fun t kt => XS.lconst X29.here hx rfl (hb hby at_244) kt) ?_
  show Goes p.tables e below _ (T29.setTop (mkF m 245 #[.val (.int p0), .val (.long q1), .second, .val (.int p2), .val (.long q3), .second, .val (.long q4), .second, .val (.int (own_draw p0)), .val (.int (own_draw p2)), .val (.long (q1 &&& (9223372036854775807 : Int64))), .second, .val (.long m3), .second, .val (.ref b5), .val (.int m9), .val (.long m12), .second, .val (.int (1 : Int32)), .val (.int m17), .val (.int (m9 + m22)), .val (.long m26), .second] [(.long (1 : Int64)), (.long (q4 - m26)), (.int (own_col q4 (own_cs (own_draw p2) m3 (own_cs (own_draw p0) (q1 &&& (9223372036854775807 : Int64)) (0 : Int64)))))]))
  refine go (fun t kt => XS.ladd X29.here hx rfl (hb hby at_245) rfl kt) ?_
  show Goes p.tables e below _ (T29.setTop (mkF m 246 #[.val (.int p0), .val (.long q1), .second, .val (.int p2), .val (.long q3), .second, .val (.long q4), .second, .val (.int (own_draw p0)), .val (.int (own_draw p2)), .val (.long (q1 &&& (9223372036854775807 : Int64))), .second, .val (.long m3), .second, .val (.ref b5), .val (.int m9), .val (.long m12), .second, .val (.int (1 : Int32)), .val (.int m17), .val (.int (m9 + m22)), .val (.long m26), .second] [(.long ((q4 - m26) + (1 : Int64))), (.int (own_col q4 (own_cs (own_draw p2) m3 (own_cs (own_draw p0) (q1 &&& (9223372036854775807 : Int64)) (0 : Int64)))))]))
  refine go (fun t kt => XS.l2i X29.here hx rfl (hb hby at_246) rfl kt) ?_
  show Goes p.tables e below _ (T29.setTop (mkF m 247 #[.val (.int p0), .val (.long q1), .second, .val (.int p2), .val (.long q3), .second, .val (.long q4), .second, .val (.int (own_draw p0)), .val (.int (own_draw p2)), .val (.long (q1 &&& (9223372036854775807 : Int64))), .second, .val (.long m3), .second, .val (.ref b5), .val (.int m9), .val (.long m12), .second, .val (.int (1 : Int32)), .val (.int m17), .val (.int (m9 + m22)), .val (.long m26), .second] [(.int (((q4 - m26) + (1 : Int64)).toInt32)), (.int (own_col q4 (own_cs (own_draw p2) m3 (own_cs (own_draw p0) (q1 &&& (9223372036854775807 : Int64)) (0 : Int64)))))]))
  refine go (fun t kt => XS.icmpNo X29.here hx rfl (hb hby at_247) rfl (teq (own_k2 _ _ _ _ _ _ _ hm12 hm26)).2 kt) ?_
  show Goes p.tables e below _ (T29.setTop (mkF m 250 #[.val (.int p0), .val (.long q1), .second, .val (.int p2), .val (.long q3), .second, .val (.long q4), .second, .val (.int (own_draw p0)), .val (.int (own_draw p2)), .val (.long (q1 &&& (9223372036854775807 : Int64))), .second, .val (.long m3), .second, .val (.ref b5), .val (.int m9), .val (.long m12), .second, .val (.int (1 : Int32)), .val (.int m17), .val (.int (m9 + m22)), .val (.long m26), .second] []))
  refine go (fun t kt => XS.iconst X29.here hx rfl (hb hby at_250) kt) ?_
  show Goes p.tables e below _ (T29.setTop (mkF m 251 #[.val (.int p0), .val (.long q1), .second, .val (.int p2), .val (.long q3), .second, .val (.long q4), .second, .val (.int (own_draw p0)), .val (.int (own_draw p2)), .val (.long (q1 &&& (9223372036854775807 : Int64))), .second, .val (.long m3), .second, .val (.ref b5), .val (.int m9), .val (.long m12), .second, .val (.int (1 : Int32)), .val (.int m17), .val (.int (m9 + m22)), .val (.long m26), .second] [(.int (1 : Int32))]))
  refine go (fun t kt => XS.goto X29.here hx rfl (pc0 := 251) (pc' := 255) rfl (hb hby at_251) (by decide) (by decide) kt) ?_
  show Goes p.tables e below _ (T29.setTop (mkF m 255 #[.val (.int p0), .val (.long q1), .second, .val (.int p2), .val (.long q3), .second, .val (.long q4), .second, .val (.int (own_draw p0)), .val (.int (own_draw p2)), .val (.long (q1 &&& (9223372036854775807 : Int64))), .second, .val (.long m3), .second, .val (.ref b5), .val (.int m9), .val (.long m12), .second, .val (.int (1 : Int32)), .val (.int m17), .val (.int (m9 + m22)), .val (.long m26), .second] [(.int (1 : Int32))]))
  obtain ⟨fs, hr, hrun, hended, hW, hsame⟩ := X29.leave (v := some (.int (1 : Int32))) (fun h => by rw [Bd.returns] at h; cases h)
  refine ⟨_, _, retN X29 hx (t := .boolean) Bd.returns (by simp) (hb hby at_255) hr, hrun, hended, _, _, rfl, ?_, ⟨_, rfl⟩, hW, hsame.mono (by decide) (by decide)⟩
  show Q0 Z p0 q1 p2 q3 q4 h0 n0 _ T29.heap _
  rw [e29]
  exact ⟨rfl, N29⟩
set_option maxRecDepth 65536 in
set_option maxHeartbeats 40000000 in
theorem comes_1 {Post : Tables → Env → Array Value → State → Outcome → State → Prop} (hpost : ∀ tb e args s v u, (limb_1_1.after args s (.returned v) u = true ∧ limb_1_2.after args s (.returned v) u = true ∧ True) → FrameEnd s (.returned v) u (Jvm.fieldLocs frame_1_writes args s ++ Jvm.arrayLocs frame_1_arrays args s ++ Jvm.staticLocs frame_1_statics s) 16 128 → Post tb e args s (.returned v) u) :
    ArmFor flags0 classFile x code maxLocals ret World_1 tables_1 room_1 Calls_1 rest_1 Pre_1 Post := by
  intro l hfl _ _ p e ha hc hk s m args below hf hA hF happ hP
  obtain ⟨hcalls, hrest, hpre⟩ := hP
  obtain ⟨-, -, -, hnamed, -, -, -, hat⟩ := (Spec.applies_iff hf).mp happ
  obtain ⟨hg, hn⟩ := and_e (Cond.before_iff.mp (show (Jvm.Cond.and given_1 narrow_1).before args s = true from hpre))
  obtain ⟨u1, u2⟩ := and_e hg
  obtain ⟨u3, u4⟩ := and_e u2
  obtain ⟨u5, u6⟩ := and_e u4
  obtain ⟨u7, u8⟩ := and_e u6
  obtain ⟨u9, u10⟩ := and_e u8
  obtain ⟨w0, w1, w2, w3, w4, rfl⟩ : ∃ w0 w1 w2 w3 w4 : Value, args = #[w0, w1, w2, w3, w4] := by
    have hs : args.size = 5 := by simpa [Cond.value, given_1] using u1
    obtain ⟨L⟩ := args
    match L, hs with
    | [w0, w1, w2, w3, w4], _ => exact ⟨w0, w1, w2, w3, w4, rfl⟩
  have hw := fun d (hd : d ∈ tables_1) => atoms_spec (ws := Jvm.Cond.code x code maxLocals ret :: tables_1) hat d (List.mem_cons_of_mem _ hd)
  obtain ⟨i0, ei0⟩ := is_v u3
  obtain rfl : w0 = (.int i0) := Option.some.inj ei0
  obtain ⟨i1, ei1⟩ := isL_v u5
  obtain rfl : w1 = (.long i1) := Option.some.inj ei1
  obtain ⟨i2, ei2⟩ := is_v u7
  obtain rfl : w2 = (.int i2) := Option.some.inj ei2
  obtain ⟨i3, ei3⟩ := isL_v u9
  obtain rfl : w3 = (.long i3) := Option.some.inj ei3
  obtain ⟨i4, ei4⟩ := isL_v u10
  obtain rfl : w4 = (.long i4) := Option.some.inj ei4
  obtain ⟨n, o, h1, h2, h3, _, L, rfl, ⟨rfl, N⟩, hq⟩ := rm0 l s _ hw tables_1 i0 i1 i2 i3 i4  s.heap s.heap.size (Nat.le_refl _)  p e ha hc hk s m _ below hf ((Spec.applies_iff_loose hf).mp happ).1 ⟨rfl, State.Warmed39.refl s, rfl⟩ trivial
  refine ⟨n, _, h1, h2, h3, hpost _ _ _ _ _ _ ⟨Cond.after_iff.mpr rfl, Cond.after_iff.mpr (eq_i res_at (Term.int_eval (1)) rfl), trivial⟩ ⟨hq.1, hq.2.1, (hq.2.2.sift fun y hy => Or.inr (N y hy)).mono (by decide) (by decide)⟩⟩
theorem main_1_1 : Claimed_1_1 := comes_1 fun _ _ _ _ _ _ h hF => ⟨h.1, hF⟩
theorem main_1_2 : Claimed_1_2 := comes_1 fun _ _ _ _ _ _ h hF => ⟨h.2.1, hF⟩
end Jvm.Pilot.@@N@@
namespace Jvm.Pilot.@@N@@
open Jvm Jvm.ClassFile Sem Op Lib Jvm.Free Jvm.Stand Jvm.Pilot.@@N@@.Jvm.D
/-! MADE BY PROGRAM (witnessworld.py) out of the Statement's table words and the real class files: 9 classes; the members and pool entries that the words name. The judged class is class 1, her method 3. -/
namespace start1
open Jvm.ClassFile
def u (s : String) : CpInfo := .utf8 (stringToUtf16 s)
/-- a pool by its gaps: so many unusable entries, then the entry; so many at the end -/
def gap : Nat → List CpInfo → List CpInfo
  | 0, r => r
  | n + 1, r => .unusable :: gap n r
def poolList (es : List (Nat × CpInfo)) (last : Nat) : List CpInfo := es.foldr (fun e r => gap e.1 (e.2 :: r)) (gap last [])
def pool (es : List (Nat × CpInfo)) (last : Nat) : Array CpInfo := ⟨poolList es last⟩
def fileOf (pool : Array CpInfo) (this : Nat) (attrs : Array Attribute := #[]) (ms : Array MethodInfo := #[]) (fl : Nat := 33) (sup : Nat := 0) (ifs : Array Nat := #[]) (fds : Array FieldInfo := #[]) : ClassFile where
  minorVersion := 0
  majorVersion := 65
  constantPool := pool
  accessFlags := fl
  thisClass := this
  superClass := sup
  interfaces := ifs
  fields := fds
  methods := ms
  attributes := attrs
def plain (name : String) (sup : Option ClassId) : Class where
  name := name
  kind := .ordinary
  loader := none
  accessFlags := 33
  super := sup
  interfaces := #[]
  cf := none
  fields := #[]
  methods := #[]
  instanceTypes := #[]
  staticTypes := #[]
  resolved := #[]
  callSites := []
  init := .initialized
  statics := none
  mirror := none

def pool0 : Array CpInfo := pool [(5, u "<init>"), (0, u "()V"), (1, .class_ 10), (1, u "java/lang/Object")] 113

def k0c0 : Code := { maxStack := 0, maxLocals := 1, code := object_method_1_code, exceptionTable := #[], attributes := #[] }
def k0m0 : Method := { name := "<init>", desc := "()V", sig := { parameters := [], returnType := none }, accessFlags := 1, code := some k0c0 }
/-- java/lang/Object -/
def k0 : Class := { plain "java/lang/Object" none with
  accessFlags := 33
  interfaces := #[]
  cf := some (fileOf pool0 8 #[] #[{ accessFlags := 1, nameIndex := 5, descriptorIndex := 6, attributes := #[] }] 33 0 #[] #[])
  fields := #[]
  methods := #[k0m0]
  instanceTypes := #[]
  staticTypes := #[]
  resolved := Array.replicate 124 none
  statics := none }

def pool1 : Array CpInfo := pool [(2, .class_ 4), (0, .nameAndType 5 6), (0, u "java/lang/Object"), (0, u "<init>"), (0, u "()V"), (0, .methodref 8 9), (0, .class_ 10), (0, .nameAndType 11 12), (0, u "com/example/axsis/axsis/input/TextPositionCountPinLaw"), (0, u "draw"), (0, u "(I)C"), (2, .long 9223372036854775807), (1, .class_ 18), (0, u "com/example/axsis/axsis/input/TextPosition"), (0, .methodref 17 3), (0, .methodref 17 21), (0, .nameAndType 22 23), (0, u "count"), (0, u "(CJ)V"), (0, .methodref 8 25), (0, .nameAndType 26 27), (0, u "ends"), (0, u "(C)Z"), (0, .methodref 17 29), (0, .nameAndType 30 31), (0, u "line"), (0, u "()I"), (0, .methodref 17 33), (0, .nameAndType 34 35), (0, u "column"), (0, u "(J)I"), (3, u "law"), (0, u "(IJIJJ)Z")] 2

def k1m0 : Method := { name := "<init>", desc := "()V", sig := { parameters := [], returnType := none }, accessFlags := 1, code := none }
def k1c1 : Code := { maxStack := 2, maxLocals := 2, code := method_2_code, exceptionTable := #[], attributes := #[] }
def k1m1 : Method := { name := "draw", desc := "(I)C", sig := { parameters := [.int], returnType := some .char }, accessFlags := 10, code := some k1c1 }
def k1c2 : Code := { maxStack := 2, maxLocals := 1, code := method_3_code, exceptionTable := #[], attributes := #[] }
def k1m2 : Method := { name := "ends", desc := "(C)Z", sig := { parameters := [.char], returnType := some .boolean }, accessFlags := 10, code := some k1c2 }
def k1c3 : Code := { maxStack := 6, maxLocals := 23, code := code, exceptionTable := #[], attributes := #[] }
def k1m3 : Method := { name := "law", desc := "(IJIJJ)Z", sig := { parameters := [.int, .long, .int, .long, .long], returnType := some .boolean }, accessFlags := 9, code := some k1c3 }
/-- com/example/axsis/axsis/input/TextPositionCountPinLaw -/
def k1 : Class := { plain "com/example/axsis/axsis/input/TextPositionCountPinLaw" (some 0) with
  accessFlags := 49
  interfaces := #[]
  cf := some (fileOf pool1 8 #[] #[{ accessFlags := 1, nameIndex := 5, descriptorIndex := 6, attributes := #[] }, { accessFlags := 10, nameIndex := 11, descriptorIndex := 12, attributes := #[] }, { accessFlags := 10, nameIndex := 26, descriptorIndex := 27, attributes := #[] }, { accessFlags := 9, nameIndex := 39, descriptorIndex := 40, attributes := #[] }] 49 2 #[] #[])
  fields := #[]
  methods := #[k1m0, k1m1, k1m2, k1m3]
  instanceTypes := #[]
  staticTypes := #[]
  resolved := Array.replicate 43 none
  statics := none }

def pool2 : Array CpInfo := pool [(1, .methodref 2 3), (0, .class_ 4), (0, .nameAndType 5 6), (0, u "java/lang/Object"), (0, u "<init>"), (0, u "()V"), (0, .fieldref 8 9), (0, .class_ 10), (0, .nameAndType 11 12), (0, u "com/example/axsis/axsis/input/TextPosition"), (0, u "line"), (0, u "I"), (0, .long 18446744073709551614), (1, .fieldref 8 16), (0, .nameAndType 17 18), (0, u "carriageReturn"), (0, u "J"), (1, .fieldref 8 21), (0, .nameAndType 22 18), (0, u "lineStart"), (5, u "count"), (0, u "(CJ)V"), (0, u "()I"), (0, u "column"), (0, u "(J)I")] 2

def k2c0 : Code := { maxStack := 3, maxLocals := 1, code := prog_37_method_1_code, exceptionTable := #[], attributes := #[] }
def k2m0 : Method := { name := "<init>", desc := "()V", sig := { parameters := [], returnType := none }, accessFlags := 0, code := some k2c0 }
def k2c1 : Code := { maxStack := 6, maxLocals := 4, code := prog_37_method_3_code, exceptionTable := #[], attributes := #[] }
def k2m1 : Method := { name := "count", desc := "(CJ)V", sig := { parameters := [.char, .long], returnType := none }, accessFlags := 0, code := some k2c1 }
def k2c2 : Code := { maxStack := 1, maxLocals := 1, code := prog_37_method_4_code, exceptionTable := #[], attributes := #[] }
def k2m2 : Method := { name := "line", desc := "()I", sig := { parameters := [], returnType := some .int }, accessFlags := 0, code := some k2c2 }
def k2c3 : Code := { maxStack := 4, maxLocals := 3, code := prog_37_method_5_code, exceptionTable := #[], attributes := #[] }
def k2m3 : Method := { name := "column", desc := "(J)I", sig := { parameters := [.long], returnType := some .int }, accessFlags := 0, code := some k2c3 }
/-- com/example/axsis/axsis/input/TextPosition -/
def k2 : Class := { plain "com/example/axsis/axsis/input/TextPosition" (some 0) with
  accessFlags := 32
  interfaces := #[]
  cf := some (fileOf pool2 8 #[] #[{ accessFlags := 0, nameIndex := 5, descriptorIndex := 6, attributes := #[] }, { accessFlags := 0, nameIndex := 28, descriptorIndex := 29, attributes := #[] }, { accessFlags := 0, nameIndex := 11, descriptorIndex := 30, attributes := #[] }, { accessFlags := 0, nameIndex := 31, descriptorIndex := 32, attributes := #[] }] 32 2 #[] #[{ accessFlags := 2, nameIndex := 11, descriptorIndex := 12, attributes := #[] }, { accessFlags := 2, nameIndex := 22, descriptorIndex := 18, attributes := #[] }, { accessFlags := 2, nameIndex := 17, descriptorIndex := 18, attributes := #[] }])
  fields := #[{ name := "line", type := .int, accessFlags := 2, slot := 0, constantValue := 0 }, { name := "lineStart", type := .long, accessFlags := 2, slot := 1, constantValue := 0 }, { name := "carriageReturn", type := .long, accessFlags := 2, slot := 2, constantValue := 0 }]
  methods := #[k2m0, k2m1, k2m2, k2m3]
  instanceTypes := #[.int, .long, .long]
  staticTypes := #[]
  resolved := Array.replicate 35 none
  statics := none }

def pool3 : Array CpInfo := pool [(1, u "java/lang/Cloneable"), (0, .class_ 1), (0, u "java/lang/Object"), (0, .class_ 3)] 3

/-- java/lang/Cloneable -/
def k3 : Class := { plain "java/lang/Cloneable" (some 0) with
  accessFlags := 1537
  interfaces := #[]
  cf := some (fileOf pool3 2 #[] #[] 1537 4 #[] #[])
  fields := #[]
  methods := #[]
  instanceTypes := #[]
  staticTypes := #[]
  resolved := Array.replicate 8 none
  statics := none }

def pool4 : Array CpInfo := pool [(1, u "java/io/Serializable"), (0, .class_ 1), (0, u "java/lang/Object"), (0, .class_ 3)] 3

/-- java/io/Serializable -/
def k4 : Class := { plain "java/io/Serializable" (some 0) with
  accessFlags := 1537
  interfaces := #[]
  cf := some (fileOf pool4 2 #[] #[] 1537 4 #[] #[])
  fields := #[]
  methods := #[]
  instanceTypes := #[]
  staticTypes := #[]
  resolved := Array.replicate 8 none
  statics := none }

/-- the primitive byte -/
def k5 : Class := { plain "byte" none with kind := .primitive 'B', accessFlags := 0x411 }
/-- [B -/
def k6 : Class := { plain "[B" (some 0) with kind := .array 5 .byte, interfaces := #[3, 4], accessFlags := 1041 }

/-- the primitive int -/
def k7 : Class := { plain "int" none with kind := .primitive 'I', accessFlags := 0x411 }
/-- [I -/
def k8 : Class := { plain "[I" (some 0) with kind := .array 7 .int, interfaces := #[3, 4], accessFlags := 1041 }

def heap : Heap := #[]
def classes : Array Class := #[k0, k1, k2, k3, k4, k5, k6, k7, k8]
def interned : List (Array UInt16 × Addr) := []
def slotsUsed : Nat := 0
def theMethod : MethodId := ⟨1, 3⟩
def args0 : Array Value := #[.int 5, .long 7, .int 6, .long 1, .long 2]
def aboutOver (below : List Frame) : State where
  vm := { classes := classes, interned := interned.toArray }
  heap := heap
  slotsUsed := slotsUsed
  threads := #[{ frames := .invoking theMethod args0 :: below }]
def below0 : List Frame := [.native { method := ⟨0, 0⟩, args := #[] }]
def about1 : State := aboutOver below0
def p0 : Program := .bare "" "" ""
def e0 : Env := launch0.env 0 0 0
theorem w_frames : about1.frames = Frame.invoking theMethod args0 :: below0 := rfl
set_option maxRecDepth 65536 in
theorem w_args : argsFit about1.vm theMethod args0 = true := by decide +kernel
set_option maxRecDepth 65536 in
theorem w_heap : heapFits about1 = true := by decide +kernel
set_option maxRecDepth 65536 in
theorem w_runnable : about1.curStatus? = some .runnable := by decide +kernel
set_option maxRecDepth 65536 in
theorem w_alone : about1.alone = true := by decide +kernel
set_option maxRecDepth 65536 in
theorem w_named : about1.methodNamed? x = some theMethod := by decide +kernel
set_option maxRecDepth 65536 in
theorem w_hears : about1.hears theMethod below0 = true := by decide +kernel
set_option maxRecDepth 65536 in
theorem w_ripe : about1.ripe theMethod args0 below0 = true := by decide +kernel
theorem w_running : about1.status = .running := rfl
set_option maxRecDepth 65536 in
theorem w_room : about1.hasRoom e0.platform room_1 = true :=
  launch0.hasRoom_least _ room_1 (by decide +kernel) (by decide +kernel) (by decide +kernel) (by decide +kernel) (by decide +kernel) (by decide +kernel)
theorem allAtoms_all (ts : List Jvm.Cond) (a : Array Jvm.Value) (st : Jvm.State) : (allAtoms ts).before a st = ts.all (fun c => c.before a st) := by
  induction ts with
  | nil => rfl
  | cons c t ih =>
    show (Jvm.Cond.and c (allAtoms t)).before a st = _
    rw [Jvm.Cond.before_and, ih, List.all_cons]
def words1 : List Jvm.Cond := Jvm.Cond.code x code maxLocals ret :: tables_1
/-- a 'code' word, met by the world's own term for the bytes: nothing is compared byte by byte -/
theorem code_word {y : MethodName} {bytes : ByteArray} {mx : Nat} {rt : Option FieldType} {a : Array Value} {s : State} {m : MethodId} {meth : Method} {c : Code} (h1 : s.methodNamed? y = some m) (h2 : s.vm.method? m = some meth) (h3 : meth.code = some c) (h4 : c.code = bytes)
    (h5 : (c.maxLocals == mx && c.exceptionTable.isEmpty && decide (c.maxStack ≤ mostOperands) && decide (meth.sig.returnType = rt) && !meth.locks && decide (parseMethodDescriptor y.desc = some meth.sig)) = true) : (Jvm.Cond.code y bytes mx rt).before a s = true := by
  simp only [Bool.and_eq_true, beq_iff_eq, Bool.not_eq_true', decide_eq_true_eq] at h5
  obtain ⟨⟨⟨⟨⟨g1, g2⟩, g3⟩, g4⟩, g5⟩, g6⟩ := h5
  simp [Cond.before, Cond.holds, Cond.value, h1, h2, h3, h4, g1, g2, g3, g4, g5, g6]
def isCode : Jvm.Cond → Bool
  | .code _ _ _ _ => true
  | _ => false
theorem all_split {L : List Jvm.Cond} {P : Jvm.Cond → Bool} (h1 : L.all (fun c => isCode c || P c) = true) (h2 : ∀ c ∈ L.filter isCode, P c = true) : L.all P = true := by
  refine List.all_eq_true.mpr fun c hc => ?_
  have h := List.all_eq_true.mp h1 c hc
  rcases Bool.eq_false_or_eq_true (isCode c) with hi | hi
  · exact h2 c (List.mem_filter.mpr ⟨hc, hi⟩)
  · simpa [hi] using h
set_option maxRecDepth 65536 in
theorem w_c0 : (Jvm.Cond.code x code maxLocals ret).before args0 about1 = true := code_word (m := ⟨1, 3⟩) (meth := k1m3) (c := k1c3) (by decide +kernel) rfl rfl rfl (by decide +kernel)
set_option maxRecDepth 65536 in
theorem w_c1 : (Jvm.Cond.code ({ cls := "com/example/axsis/axsis/input/TextPositionCountPinLaw", name := "draw", desc := "(I)C" } : Jvm.MethodName) method_2_code (2 : Nat) (Option.some Jvm.ClassFile.FieldType.char)).before args0 about1 = true := code_word (m := ⟨1, 1⟩) (meth := k1m1) (c := k1c1) (by decide +kernel) rfl rfl rfl (by decide +kernel)
set_option maxRecDepth 65536 in
theorem w_c2 : (Jvm.Cond.code ({ cls := "com/example/axsis/axsis/input/TextPosition", name := "<init>", desc := "()V" } : Jvm.MethodName) prog_37_method_1_code (1 : Nat) (Option.none : Option Jvm.ClassFile.FieldType)).before args0 about1 = true := code_word (m := ⟨2, 0⟩) (meth := k2m0) (c := k2c0) (by decide +kernel) rfl rfl rfl (by decide +kernel)
set_option maxRecDepth 65536 in
theorem w_c3 : (Jvm.Cond.code ({ cls := "java/lang/Object", name := "<init>", desc := "()V" } : Jvm.MethodName) object_method_1_code (1 : Nat) (Option.none : Option Jvm.ClassFile.FieldType)).before args0 about1 = true := code_word (m := ⟨0, 0⟩) (meth := k0m0) (c := k0c0) (by decide +kernel) rfl rfl rfl (by decide +kernel)
set_option maxRecDepth 65536 in
theorem w_c4 : (Jvm.Cond.code ({ cls := "com/example/axsis/axsis/input/TextPosition", name := "count", desc := "(CJ)V" } : Jvm.MethodName) prog_37_method_3_code (4 : Nat) (Option.none : Option Jvm.ClassFile.FieldType)).before args0 about1 = true := code_word (m := ⟨2, 1⟩) (meth := k2m1) (c := k2c1) (by decide +kernel) rfl rfl rfl (by decide +kernel)
set_option maxRecDepth 65536 in
theorem w_c5 : (Jvm.Cond.code ({ cls := "com/example/axsis/axsis/input/TextPositionCountPinLaw", name := "ends", desc := "(C)Z" } : Jvm.MethodName) method_3_code (1 : Nat) (Option.some Jvm.ClassFile.FieldType.boolean)).before args0 about1 = true := code_word (m := ⟨1, 2⟩) (meth := k1m2) (c := k1c2) (by decide +kernel) rfl rfl rfl (by decide +kernel)
set_option maxRecDepth 65536 in
theorem w_c6 : (Jvm.Cond.code ({ cls := "com/example/axsis/axsis/input/TextPosition", name := "line", desc := "()I" } : Jvm.MethodName) prog_37_method_4_code (1 : Nat) (Option.some Jvm.ClassFile.FieldType.int)).before args0 about1 = true := code_word (m := ⟨2, 2⟩) (meth := k2m2) (c := k2c2) (by decide +kernel) rfl rfl rfl (by decide +kernel)
set_option maxRecDepth 65536 in
theorem w_c7 : (Jvm.Cond.code ({ cls := "com/example/axsis/axsis/input/TextPosition", name := "column", desc := "(J)I" } : Jvm.MethodName) prog_37_method_5_code (3 : Nat) (Option.some Jvm.ClassFile.FieldType.int)).before args0 about1 = true := code_word (m := ⟨2, 3⟩) (meth := k2m3) (c := k2c3) (by decide +kernel) rfl rfl rfl (by decide +kernel)
def codes1 : List Jvm.Cond := [Jvm.Cond.code x code maxLocals ret, Jvm.Cond.code ({ cls := "com/example/axsis/axsis/input/TextPositionCountPinLaw", name := "draw", desc := "(I)C" } : Jvm.MethodName) method_2_code (2 : Nat) (Option.some Jvm.ClassFile.FieldType.char), Jvm.Cond.code ({ cls := "com/example/axsis/axsis/input/TextPosition", name := "<init>", desc := "()V" } : Jvm.MethodName) prog_37_method_1_code (1 : Nat) (Option.none : Option Jvm.ClassFile.FieldType), Jvm.Cond.code ({ cls := "java/lang/Object", name := "<init>", desc := "()V" } : Jvm.MethodName) object_method_1_code (1 : Nat) (Option.none : Option Jvm.ClassFile.FieldType), Jvm.Cond.code ({ cls := "com/example/axsis/axsis/input/TextPosition", name := "count", desc := "(CJ)V" } : Jvm.MethodName) prog_37_method_3_code (4 : Nat) (Option.none : Option Jvm.ClassFile.FieldType), Jvm.Cond.code ({ cls := "com/example/axsis/axsis/input/TextPositionCountPinLaw", name := "ends", desc := "(C)Z" } : Jvm.MethodName) method_3_code (1 : Nat) (Option.some Jvm.ClassFile.FieldType.boolean), Jvm.Cond.code ({ cls := "com/example/axsis/axsis/input/TextPosition", name := "line", desc := "()I" } : Jvm.MethodName) prog_37_method_4_code (1 : Nat) (Option.some Jvm.ClassFile.FieldType.int), Jvm.Cond.code ({ cls := "com/example/axsis/axsis/input/TextPosition", name := "column", desc := "(J)I" } : Jvm.MethodName) prog_37_method_5_code (3 : Nat) (Option.some Jvm.ClassFile.FieldType.int)]
set_option maxRecDepth 65536 in
theorem codes_eq : words1.filter isCode = codes1 := rfl
theorem w_codes : ∀ c ∈ words1.filter isCode, c.before args0 about1 = true := by
  rw [codes_eq]
  intro c hc
  simp only [codes1, List.mem_cons, List.not_mem_nil, or_false] at hc
  rcases hc with rfl | rfl | rfl | rfl | rfl | rfl | rfl | rfl
  · exact w_c0
  · exact w_c1
  · exact w_c2
  · exact w_c3
  · exact w_c4
  · exact w_c5
  · exact w_c6
  · exact w_c7
set_option maxRecDepth 65536 in
theorem w_t1 : (words1.take 24).all (fun c => isCode c || c.before args0 about1) = true := by decide +kernel
set_option maxRecDepth 65536 in
theorem w_t2 : (words1.drop 24).all (fun c => isCode c || c.before args0 about1) = true := by decide +kernel
theorem w_tables : (allAtoms (Jvm.Cond.code x code maxLocals ret :: tables_1)).before args0 about1 = true := by
  rw [allAtoms_all]
  show words1.all (fun c => c.before args0 about1) = true
  refine all_split ?_ w_codes
  rw [← List.take_append_drop 24 words1, List.all_append, w_t1, w_t2]
  rfl
set_option maxRecDepth 65536 in
theorem w_case : (Jvm.Cond.and given_1 narrow_1).before args0 about1 = true := by decide +kernel
theorem w_applies : (headSpec (Jvm.Cond.code x code maxLocals ret :: tables_1) room_1).applies x e0.platform about1 = true :=
  (Spec.applies_iff w_frames).mpr ⟨w_running, w_runnable, w_alone, w_named, w_hears, w_ripe, w_room, w_tables⟩
theorem atStart : AtStart classFile x code maxLocals ret World_1 tables_1 room_1 Calls_1 rest_1 Pre_1 launch0 p0 e0 about1 theMethod args0 below0 :=
  ⟨lists_1, trivial, launch0.admits_env _ _ _, launch0.least_env, fairChoices_fair.cas, fairChoices_fair.clock, w_frames, w_args, w_heap, w_applies, trivial, trivial, w_case⟩
end start1
theorem witness_1 : WitnessClaimed_1 := ⟨start1.p0, start1.e0, start1.about1, start1.theMethod, start1.args0, start1.below0, start1.atStart⟩
end Jvm.Pilot.@@N@@

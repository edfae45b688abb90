import JvmDerived
import JvmDerived.Pilot.@@N@@Statement
import JvmDerived.Pilot.@@N@@Code
set_option linter.unusedVariables false
set_option linter.unusedSimpArgs false
@@BLOCK:NumsL.lean.txt@@
namespace Jvm.Pilot.@@N@@
open Jvm Jvm.ClassFile Sem Op Lib Jvm.Free Jvm.Stand Jvm.LawKit Jvm.RoadKit Bundle Jvm.Pilot.@@N@@.Jvm.D
def Goes (tb : Tables) (e : Env) (below : List Frame) (G : State → Outcome → Prop) (A : State) : Prop := ∃ s₂ o, Steps tb e below A s₂ ∧ s₂.status = .running ∧ Ended s₂ below o ∧ G s₂ o
theorem go {tb : Tables} {e : Env} {below : List Frame} {G : State → Outcome → Prop} {A B : State} (h : ∀ t, Steps tb e below B t → Steps tb e below A t) (k : Goes tb e below G B) : Goes tb e below G A := by
  obtain ⟨s₂, o, h1, h2⟩ := k; exact ⟨s₂, o, h _ h1, h2⟩
theorem goEnd {tb : Tables} {e : Env} {below : List Frame} {G : State → Outcome → Prop} {A B : State} (h : ∀ t, Steps tb e below B t → Steps tb e below A t) (k : Goes tb e below G B) : ∃ s₂ o, Steps tb e below A s₂ ∧ s₂.status = .running ∧ Ended s₂ below o ∧ G s₂ o := go h k
theorem own_sta_keep {Z : State} {h h' : Heap} {C n d K : String} {v : Value} {a : Addr} (S : Sta Z h C n d v) (E : Exa Z h a K) (Kp : Keep h h' [a]) : Sta Z h' C n d v := by
  obtain ⟨cf, i, k, f, st, cell, h1, h2, h3, h4, h5, h6, h7⟩ := S
  obtain ⟨c', k', e1, -, -, e4, -⟩ := E
  refine ⟨cf, i, k, f, st, cell, h1, h2, h3, h4, Kp.2.1 st cell h5 (fun q => ?_), h6, h7⟩
  have q' : st = a := by simpa using q
  subst q'
  cases h5.symm.trans e1
  rw [e4] at h6; cases h6
abbrev iv (x : Int32) : Slot := .val (.int x)
abbrev jv (x : Int64) : Slot := .val (.long x)
abbrev rv (x : Addr) : Slot := .val (.ref x)
abbrev Go (p : Program) (e : Env) (below : List Frame) (G : State → Outcome → Prop) (m : MethodId) (T : State) (pc : Nat) (L : Array Slot) (S : List Value) : Prop := Goes p.tables e below G (T.setTop (mkF m pc L S))
theorem d1_0 : decode prog_93_method_3_code 0 = .ok (.iload_n 0, 1) := by decide +kernel
theorem d1_1 : decode prog_93_method_3_code 1 = .ok (.bipush 9, 2) := by decide +kernel
theorem d1_3 : decode prog_93_method_3_code 3 = .ok (.if_icmp .eq 51, 3) := by decide +kernel
theorem d1_54 : decode prog_93_method_3_code 54 = .ok (.iconst 1, 1) := by decide +kernel
theorem d1_55 : decode prog_93_method_3_code 55 = .ok (.goto 4, 3) := by decide +kernel
theorem d1_59 : decode prog_93_method_3_code 59 = .ok (.ireturn, 1) := by decide +kernel
theorem d1_6 : decode prog_93_method_3_code 6 = .ok (.iload_n 0, 1) := by decide +kernel
theorem d1_7 : decode prog_93_method_3_code 7 = .ok (.bipush 10, 2) := by decide +kernel
theorem d1_9 : decode prog_93_method_3_code 9 = .ok (.if_icmp .eq 45, 3) := by decide +kernel
theorem d1_12 : decode prog_93_method_3_code 12 = .ok (.iload_n 0, 1) := by decide +kernel
theorem d1_13 : decode prog_93_method_3_code 13 = .ok (.bipush 13, 2) := by decide +kernel
theorem d1_15 : decode prog_93_method_3_code 15 = .ok (.if_icmp .eq 39, 3) := by decide +kernel
theorem d1_18 : decode prog_93_method_3_code 18 = .ok (.iload_n 0, 1) := by decide +kernel
theorem d1_19 : decode prog_93_method_3_code 19 = .ok (.bipush 32, 2) := by decide +kernel
theorem d1_21 : decode prog_93_method_3_code 21 = .ok (.if_icmp .lt 9, 3) := by decide +kernel
theorem d1_30 : decode prog_93_method_3_code 30 = .ok (.iload_n 0, 1) := by decide +kernel
theorem d1_31 : decode prog_93_method_3_code 31 = .ok (.ldc 8, 2) := by decide +kernel
theorem d1_33 : decode prog_93_method_3_code 33 = .ok (.if_icmp .lt 9, 3) := by decide +kernel
theorem d1_42 : decode prog_93_method_3_code 42 = .ok (.iload_n 0, 1) := by decide +kernel
theorem d1_43 : decode prog_93_method_3_code 43 = .ok (.ldc 10, 2) := by decide +kernel
theorem d1_45 : decode prog_93_method_3_code 45 = .ok (.if_icmp .lt 13, 3) := by decide +kernel
theorem d1_58 : decode prog_93_method_3_code 58 = .ok (.iconst 0, 1) := by decide +kernel
theorem d1_48 : decode prog_93_method_3_code 48 = .ok (.iload_n 0, 1) := by decide +kernel
theorem d1_49 : decode prog_93_method_3_code 49 = .ok (.ldc 11, 2) := by decide +kernel
theorem d1_51 : decode prog_93_method_3_code 51 = .ok (.if_icmp .gt 7, 3) := by decide +kernel
theorem d1_36 : decode prog_93_method_3_code 36 = .ok (.iload_n 0, 1) := by decide +kernel
theorem d1_37 : decode prog_93_method_3_code 37 = .ok (.ldc 9, 2) := by decide +kernel
theorem d1_39 : decode prog_93_method_3_code 39 = .ok (.if_icmp .le 15, 3) := by decide +kernel
theorem d1_24 : decode prog_93_method_3_code 24 = .ok (.iload_n 0, 1) := by decide +kernel
theorem d1_25 : decode prog_93_method_3_code 25 = .ok (.ldc 7, 2) := by decide +kernel
theorem d1_27 : decode prog_93_method_3_code 27 = .ok (.if_icmp .le 27, 3) := by decide +kernel
def own_isChar (p0 : Int32) : Int32 := (if p0 = (9 : Int32) then (1 : Int32) else (if p0 = (10 : Int32) then (1 : Int32) else (if p0 = (13 : Int32) then (1 : Int32) else (if p0 < (32 : Int32) then (if p0 < (57344 : Int32) then (if p0 < (65536 : Int32) then (0 : Int32) else (if (1114111 : Int32) < p0 then (0 : Int32) else (1 : Int32))) else (if (65533 : Int32) < p0 then (if p0 < (65536 : Int32) then (0 : Int32) else (if (1114111 : Int32) < p0 then (0 : Int32) else (1 : Int32))) else (1 : Int32))) else (if (55295 : Int32) < p0 then (if p0 < (57344 : Int32) then (if p0 < (65536 : Int32) then (0 : Int32) else (if (1114111 : Int32) < p0 then (0 : Int32) else (1 : Int32))) else (if (65533 : Int32) < p0 then (if p0 < (65536 : Int32) then (0 : Int32) else (if (1114111 : Int32) < p0 then (0 : Int32) else (1 : Int32))) else (1 : Int32))) else (1 : Int32))))))
theorem pn_1 : plainName "com/example/axsis/axsis/tree/XmlSyntax" = true := by first | (simp [plainName, overriddenIn]; done) | decide +kernel
theorem ef_1 (m : MethodId) (p0 : Int32) : entryFrame m #[(.int p0)] 1 = mkF m 0 #[.val (.int p0)] [] := by first | (simp [entryFrame, mkF, argsToLocals, Value.category]; done) | rfl
def Q1 (Z : State) (p0 : Int32) (h0 : Heap) (n0 : Nat) (v : Option Value) (h : Heap) (L : List Loc) : Prop := v = some (.int (own_isChar p0)) ∧ Fr n0 L ∧ h = h0
set_option maxRecDepth 65536 in
set_option maxHeartbeats 40000000 in
theorem rm1 (l : Launch) (Z : State) (a0 : Array Value) (hw : ∀ d ∈ tables_1, d.before a0 Z = true) (ws : List Jvm.Cond) (p0 : Int32) (h0 : Heap) (n0 : Nat) (Z0 : n0 ≤ h0.size)  :
    MetFree l (⟨"com/example/axsis/axsis/tree/XmlSyntax", "isChar", "(I)Z"⟩ : MethodName) (head1 (Jvm.Cond.code (⟨"com/example/axsis/axsis/tree/XmlSyntax", "isChar", "(I)Z"⟩ : MethodName) prog_93_method_3_code 1 (some .boolean) :: ws) ({ frames := 0, cells := 0, slots := 0, locals := 0 } : Room)) (fun a U => a = #[(.int p0)] ∧ Z.Warmed39 U.vm ∧ U.heap = h0) (fun _ _ _ _ _ => True) (fun _ U o U' => ∃ v L, o = .returned v ∧ Q1 Z p0 h0 n0 v U'.heap L ∧ FrameEnd U o U' L ({ frames := 0, cells := 0, slots := 0, locals := 0 } : Room).cells ({ frames := 0, cells := 0, slots := 0, locals := 0 } : Room).slots) := by
  refine MetFree.of_bodySF (plainFor_of_name pn_1) hisR ?_
  intro p e s m args below meth c s₁ Bd hml0 hP hK
  obtain ⟨rfl, hZ, hh⟩ := hP
  have hx := Bd.exec
  have hby := Bd.bytes
  have hml : c.maxLocals = 1 := hml0
  have hown : s.vm.findClass "com/example/axsis/axsis/tree/XmlSyntax" = some m.cls := findClass_of_methodNamed Bd.named
  have hnm := (name_of_methodNamed Bd.named Bd.method).1
  have X0 : Stand p l e ({ frames := 0, cells := 0, slots := 0, locals := 0 } : Room) s m #[(.int p0)] below meth c s₁ [] 0 0 := Stand.of_body Bd
  have e0 : s₁.heap = h0 := by rw [← hh, Bd.state]; rfl
  have N0 := Fr.nil n0
  have K0 := Keep.refl h0 []
  suffices hgo : Goes p.tables e below (fun s₂ o => ∃ v L, o = .returned v ∧ Q1 Z p0 h0 n0 v s₂.heap L ∧ FrameEnd s o s₂ L ({ frames := 0, cells := 0, slots := 0, locals := 0 } : Room).cells ({ frames := 0, cells := 0, slots := 0, locals := 0 } : Room).slots) (s₁.setTop (mkF m 0 #[.val (.int p0)] [])) from goEnd (fun t k => castTop (ef_1 m p0) k) hgo
  refine go (fun t kt => XS.iloadN X0.here hx rfl (hb hby d1_0) rfl kt) ?_
  show Goes p.tables e below _ (s₁.setTop (mkF m 1 #[.val (.int p0)] [(.int p0)]))
  refine go (fun t kt => XS.bipush X0.here hx rfl (hb hby d1_1) kt) ?_
  show Goes p.tables e below _ (s₁.setTop (mkF m 3 #[.val (.int p0)] [(.int (9 : Int32)), (.int p0)]))
  by_cases hc1 : p0 = (9 : Int32)
  ·
    refine go (fun t kt => XS.icmpYes X0.here hx rfl (pc0 := 3) (pc' := 54) rfl (hb hby d1_3) rfl (teq hc1).1 (by decide) (by decide) kt) ?_
    show Goes p.tables e below _ (s₁.setTop (mkF m 54 #[.val (.int p0)] []))
    refine go (fun t kt => XS.iconst X0.here hx rfl (hb hby d1_54) kt) ?_
    show Goes p.tables e below _ (s₁.setTop (mkF m 55 #[.val (.int p0)] [(.int (1 : Int32))]))
    refine go (fun t kt => XS.goto X0.here hx rfl (pc0 := 55) (pc' := 59) rfl (hb hby d1_55) (by decide) (by decide) kt) ?_
    show Goes p.tables e below _ (s₁.setTop (mkF m 59 #[.val (.int p0)] [(.int (1 : Int32))]))
    obtain ⟨fs, hr, hrun, hended, hW, hsame⟩ := X0.leave (v := some (.int (1 : Int32))) (fun h => by rw [Bd.returns] at h; cases h)
    refine ⟨_, _, retN X0 hx (t := .boolean) Bd.returns (by simp) (hb hby d1_59) hr, hrun, hended, _, _, rfl, ?_, ⟨_, rfl⟩, hW, hsame.mono (by decide) (by decide)⟩
    show Q1 Z p0 h0 n0 _ s₁.heap _
    rw [e0]
    exact ⟨(by unfold own_isChar; rw [if_pos hc1]), N0, rfl⟩
  ·
    refine go (fun t kt => XS.icmpNo X0.here hx rfl (hb hby d1_3) rfl (feq hc1).1 kt) ?_
    show Goes p.tables e below _ (s₁.setTop (mkF m 6 #[.val (.int p0)] []))
    refine go (fun t kt => XS.iloadN X0.here hx rfl (hb hby d1_6) rfl kt) ?_
    show Goes p.tables e below _ (s₁.setTop (mkF m 7 #[.val (.int p0)] [(.int p0)]))
    refine go (fun t kt => XS.bipush X0.here hx rfl (hb hby d1_7) kt) ?_
    show Goes p.tables e below _ (s₁.setTop (mkF m 9 #[.val (.int p0)] [(.int (10 : Int32)), (.int p0)]))
    by_cases hc3 : p0 = (10 : Int32)
    ·
      refine go (fun t kt => XS.icmpYes X0.here hx rfl (pc0 := 9) (pc' := 54) rfl (hb hby d1_9) rfl (teq hc3).1 (by decide) (by decide) kt) ?_
      show Goes p.tables e below _ (s₁.setTop (mkF m 54 #[.val (.int p0)] []))
      refine go (fun t kt => XS.iconst X0.here hx rfl (hb hby d1_54) kt) ?_
      show Goes p.tables e below _ (s₁.setTop (mkF m 55 #[.val (.int p0)] [(.int (1 : Int32))]))
      refine go (fun t kt => XS.goto X0.here hx rfl (pc0 := 55) (pc' := 59) rfl (hb hby d1_55) (by decide) (by decide) kt) ?_
      show Goes p.tables e below _ (s₁.setTop (mkF m 59 #[.val (.int p0)] [(.int (1 : Int32))]))
      obtain ⟨fs, hr, hrun, hended, hW, hsame⟩ := X0.leave (v := some (.int (1 : Int32))) (fun h => by rw [Bd.returns] at h; cases h)
      refine ⟨_, _, retN X0 hx (t := .boolean) Bd.returns (by simp) (hb hby d1_59) hr, hrun, hended, _, _, rfl, ?_, ⟨_, rfl⟩, hW, hsame.mono (by decide) (by decide)⟩
      show Q1 Z p0 h0 n0 _ s₁.heap _
      rw [e0]
      exact ⟨(by unfold own_isChar; rw [if_neg hc1, if_pos hc3]), N0, rfl⟩
    ·
      refine go (fun t kt => XS.icmpNo X0.here hx rfl (hb hby d1_9) rfl (feq hc3).1 kt) ?_
      show Goes p.tables e below _ (s₁.setTop (mkF m 12 #[.val (.int p0)] []))
      refine go (fun t kt => XS.iloadN X0.here hx rfl (hb hby d1_12) rfl kt) ?_
      show Goes p.tables e below _ (s₁.setTop (mkF m 13 #[.val (.int p0)] [(.int p0)]))
      refine go (fun t kt => XS.bipush X0.here hx rfl (hb hby d1_13) kt) ?_
      show Goes p.tables e below _ (s₁.setTop (mkF m 15 #[.val (.int p0)] [(.int (13 : Int32)), (.int p0)]))
      by_cases hc5 : p0 = (13 : Int32)
      ·
        refine go (fun t kt => XS.icmpYes X0.here hx rfl (pc0 := 15) (pc' := 54) rfl (hb hby d1_15) rfl (teq hc5).1 (by decide) (by decide) kt) ?_
        show Goes p.tables e below _ (s₁.setTop (mkF m 54 #[.val (.int p0)] []))
        refine go (fun t kt => XS.iconst X0.here hx rfl (hb hby d1_54) kt) ?_
        show Goes p.tables e below _ (s₁.setTop (mkF m 55 #[.val (.int p0)] [(.int (1 : Int32))]))
        refine go (fun t kt => XS.goto X0.here hx rfl (pc0 := 55) (pc' := 59) rfl (hb hby d1_55) (by decide) (by decide) kt) ?_
        show Goes p.tables e below _ (s₁.setTop (mkF m 59 #[.val (.int p0)] [(.int (1 : Int32))]))
        obtain ⟨fs, hr, hrun, hended, hW, hsame⟩ := X0.leave (v := some (.int (1 : Int32))) (fun h => by rw [Bd.returns] at h; cases h)
        refine ⟨_, _, retN X0 hx (t := .boolean) Bd.returns (by simp) (hb hby d1_59) hr, hrun, hended, _, _, rfl, ?_, ⟨_, rfl⟩, hW, hsame.mono (by decide) (by decide)⟩
        show Q1 Z p0 h0 n0 _ s₁.heap _
        rw [e0]
        exact ⟨(by unfold own_isChar; rw [if_neg hc1, if_neg hc3, if_pos hc5]), N0, rfl⟩
      ·
        refine go (fun t kt => XS.icmpNo X0.here hx rfl (hb hby d1_15) rfl (feq hc5).1 kt) ?_
        show Goes p.tables e below _ (s₁.setTop (mkF m 18 #[.val (.int p0)] []))
        refine go (fun t kt => XS.iloadN X0.here hx rfl (hb hby d1_18) rfl kt) ?_
        show Goes p.tables e below _ (s₁.setTop (mkF m 19 #[.val (.int p0)] [(.int p0)]))
        refine go (fun t kt => XS.bipush X0.here hx rfl (hb hby d1_19) kt) ?_
        show Goes p.tables e below _ (s₁.setTop (mkF m 21 #[.val (.int p0)] [(.int (32 : Int32)), (.int p0)]))
        by_cases hc7 : p0 < (32 : Int32)
        ·
          refine go (fun t kt => XS.icmpYes X0.here hx rfl (pc0 := 21) (pc' := 30) rfl (hb hby d1_21) rfl (tlt hc7).1 (by decide) (by decide) kt) ?_
          show Goes p.tables e below _ (s₁.setTop (mkF m 30 #[.val (.int p0)] []))
          refine go (fun t kt => XS.iloadN X0.here hx rfl (hb hby d1_30) rfl kt) ?_
          show Goes p.tables e below _ (s₁.setTop (mkF m 31 #[.val (.int p0)] [(.int p0)]))
          refine go (X0.ldcInt hx hown (mvT hZ (hw _ (List.mem_of_getElem? (i := 21) rfl))) (g := (mkF m 31 #[.val (.int p0)] [(.int p0)])) rfl (hb hby d1_31)) ?_
          show Goes p.tables e below _ (s₁.setTop (mkF m 33 #[.val (.int p0)] [(.int (57344 : Int32)), (.int p0)]))
          by_cases hc8 : p0 < (57344 : Int32)
          ·
            refine go (fun t kt => XS.icmpYes X0.here hx rfl (pc0 := 33) (pc' := 42) rfl (hb hby d1_33) rfl (tlt hc8).1 (by decide) (by decide) kt) ?_
            show Goes p.tables e below _ (s₁.setTop (mkF m 42 #[.val (.int p0)] []))
            refine go (fun t kt => XS.iloadN X0.here hx rfl (hb hby d1_42) rfl kt) ?_
            show Goes p.tables e below _ (s₁.setTop (mkF m 43 #[.val (.int p0)] [(.int p0)]))
            refine go (X0.ldcInt hx hown (mvT hZ (hw _ (List.mem_of_getElem? (i := 22) rfl))) (g := (mkF m 43 #[.val (.int p0)] [(.int p0)])) rfl (hb hby d1_43)) ?_
            show Goes p.tables e below _ (s₁.setTop (mkF m 45 #[.val (.int p0)] [(.int (65536 : Int32)), (.int p0)]))
            by_cases hc9 : p0 < (65536 : Int32)
            ·
              refine go (fun t kt => XS.icmpYes X0.here hx rfl (pc0 := 45) (pc' := 58) rfl (hb hby d1_45) rfl (tlt hc9).1 (by decide) (by decide) kt) ?_
              show Goes p.tables e below _ (s₁.setTop (mkF m 58 #[.val (.int p0)] []))
              refine go (fun t kt => XS.iconst X0.here hx rfl (hb hby d1_58) kt) ?_
              show Goes p.tables e below _ (s₁.setTop (mkF m 59 #[.val (.int p0)] [(.int (0 : Int32))]))
              obtain ⟨fs, hr, hrun, hended, hW, hsame⟩ := X0.leave (v := some (.int (0 : Int32))) (fun h => by rw [Bd.returns] at h; cases h)
              refine ⟨_, _, retN X0 hx (t := .boolean) Bd.returns (by simp) (hb hby d1_59) hr, hrun, hended, _, _, rfl, ?_, ⟨_, rfl⟩, hW, hsame.mono (by decide) (by decide)⟩
              show Q1 Z p0 h0 n0 _ s₁.heap _
              rw [e0]
              exact ⟨(by unfold own_isChar; rw [if_neg hc1, if_neg hc3, if_neg hc5, if_pos hc7, if_pos hc8, if_pos hc9]), N0, rfl⟩
            ·
              refine go (fun t kt => XS.icmpNo X0.here hx rfl (hb hby d1_45) rfl (flt hc9).1 kt) ?_
              show Goes p.tables e below _ (s₁.setTop (mkF m 48 #[.val (.int p0)] []))
              refine go (fun t kt => XS.iloadN X0.here hx rfl (hb hby d1_48) rfl kt) ?_
              show Goes p.tables e below _ (s₁.setTop (mkF m 49 #[.val (.int p0)] [(.int p0)]))
              refine go (X0.ldcInt hx hown (mvT hZ (hw _ (List.mem_of_getElem? (i := 25) rfl))) (g := (mkF m 49 #[.val (.int p0)] [(.int p0)])) rfl (hb hby d1_49)) ?_
              show Goes p.tables e below _ (s₁.setTop (mkF m 51 #[.val (.int p0)] [(.int (1114111 : Int32)), (.int p0)]))
              by_cases hc11 : (1114111 : Int32) < p0
              ·
                refine go (fun t kt => XS.icmpYes X0.here hx rfl (pc0 := 51) (pc' := 58) rfl (hb hby d1_51) rfl (tlt hc11).2.2.1 (by decide) (by decide) kt) ?_
                show Goes p.tables e below _ (s₁.setTop (mkF m 58 #[.val (.int p0)] []))
                refine go (fun t kt => XS.iconst X0.here hx rfl (hb hby d1_58) kt) ?_
                show Goes p.tables e below _ (s₁.setTop (mkF m 59 #[.val (.int p0)] [(.int (0 : Int32))]))
                obtain ⟨fs, hr, hrun, hended, hW, hsame⟩ := X0.leave (v := some (.int (0 : Int32))) (fun h => by rw [Bd.returns] at h; cases h)
                refine ⟨_, _, retN X0 hx (t := .boolean) Bd.returns (by simp) (hb hby d1_59) hr, hrun, hended, _, _, rfl, ?_, ⟨_, rfl⟩, hW, hsame.mono (by decide) (by decide)⟩
                show Q1 Z p0 h0 n0 _ s₁.heap _
                rw [e0]
                exact ⟨(by unfold own_isChar; rw [if_neg hc1, if_neg hc3, if_neg hc5, if_pos hc7, if_pos hc8, if_neg hc9, if_pos hc11]), N0, rfl⟩
              ·
                refine go (fun t kt => XS.icmpNo X0.here hx rfl (hb hby d1_51) rfl (flt hc11).2.2.1 kt) ?_
                show Goes p.tables e below _ (s₁.setTop (mkF m 54 #[.val (.int p0)] []))
                refine go (fun t kt => XS.iconst X0.here hx rfl (hb hby d1_54) kt) ?_
                show Goes p.tables e below _ (s₁.setTop (mkF m 55 #[.val (.int p0)] [(.int (1 : Int32))]))
                refine go (fun t kt => XS.goto X0.here hx rfl (pc0 := 55) (pc' := 59) rfl (hb hby d1_55) (by decide) (by decide) kt) ?_
                show Goes p.tables e below _ (s₁.setTop (mkF m 59 #[.val (.int p0)] [(.int (1 : Int32))]))
                obtain ⟨fs, hr, hrun, hended, hW, hsame⟩ := X0.leave (v := some (.int (1 : Int32))) (fun h => by rw [Bd.returns] at h; cases h)
                refine ⟨_, _, retN X0 hx (t := .boolean) Bd.returns (by simp) (hb hby d1_59) hr, hrun, hended, _, _, rfl, ?_, ⟨_, rfl⟩, hW, hsame.mono (by decide) (by decide)⟩
                show Q1 Z p0 h0 n0 _ s₁.heap _
                rw [e0]
                exact ⟨(by unfold own_isChar; rw [if_neg hc1, if_neg hc3, if_neg hc5, if_pos hc7, if_pos hc8, if_neg hc9, if_neg hc11]), N0, rfl⟩
          ·
            refine go (fun t kt => XS.icmpNo X0.here hx rfl (hb hby d1_33) rfl (flt hc8).1 kt) ?_
            show Goes p.tables e below _ (s₁.setTop (mkF m 36 #[.val (.int p0)] []))
            refine go (fun t kt => XS.iloadN X0.here hx rfl (hb hby d1_36) rfl kt) ?_
            show Goes p.tables e below _ (s₁.setTop (mkF m 37 #[.val (.int p0)] [(.int p0)]))
            refine go (X0.ldcInt hx hown (mvT hZ (hw _ (List.mem_of_getElem? (i := 24) rfl))) (g := (mkF m 37 #[.val (.int p0)] [(.int p0)])) rfl (hb hby d1_37)) ?_
            show Goes p.tables e below _ (s₁.setTop (mkF m 39 #[.val (.int p0)] [(.int (65533 : Int32)), (.int p0)]))
            by_cases hc14 : (65533 : Int32) < p0
            ·
              refine go (fun t kt => XS.icmpNo X0.here hx rfl (hb hby d1_39) rfl (tlt hc14).2.2.2 kt) ?_
              show Goes p.tables e below _ (s₁.setTop (mkF m 42 #[.val (.int p0)] []))
              refine go (fun t kt => XS.iloadN X0.here hx rfl (hb hby d1_42) rfl kt) ?_
              show Goes p.tables e below _ (s₁.setTop (mkF m 43 #[.val (.int p0)] [(.int p0)]))
              refine go (X0.ldcInt hx hown (mvT hZ (hw _ (List.mem_of_getElem? (i := 22) rfl))) (g := (mkF m 43 #[.val (.int p0)] [(.int p0)])) rfl (hb hby d1_43)) ?_
              show Goes p.tables e below _ (s₁.setTop (mkF m 45 #[.val (.int p0)] [(.int (65536 : Int32)), (.int p0)]))
              by_cases hc15 : p0 < (65536 : Int32)
              ·
                refine go (fun t kt => XS.icmpYes X0.here hx rfl (pc0 := 45) (pc' := 58) rfl (hb hby d1_45) rfl (tlt hc15).1 (by decide) (by decide) kt) ?_
                show Goes p.tables e below _ (s₁.setTop (mkF m 58 #[.val (.int p0)] []))
                refine go (fun t kt => XS.iconst X0.here hx rfl (hb hby d1_58) kt) ?_
                show Goes p.tables e below _ (s₁.setTop (mkF m 59 #[.val (.int p0)] [(.int (0 : Int32))]))
                obtain ⟨fs, hr, hrun, hended, hW, hsame⟩ := X0.leave (v := some (.int (0 : Int32))) (fun h => by rw [Bd.returns] at h; cases h)
                refine ⟨_, _, retN X0 hx (t := .boolean) Bd.returns (by simp) (hb hby d1_59) hr, hrun, hended, _, _, rfl, ?_, ⟨_, rfl⟩, hW, hsame.mono (by decide) (by decide)⟩
                show Q1 Z p0 h0 n0 _ s₁.heap _
                rw [e0]
                exact ⟨(by unfold own_isChar; rw [if_neg hc1, if_neg hc3, if_neg hc5, if_pos hc7, if_neg hc8, if_pos hc14, if_pos hc15]), N0, rfl⟩
              ·
                refine go (fun t kt => XS.icmpNo X0.here hx rfl (hb hby d1_45) rfl (flt hc15).1 kt) ?_
                show Goes p.tables e below _ (s₁.setTop (mkF m 48 #[.val (.int p0)] []))
                refine go (fun t kt => XS.iloadN X0.here hx rfl (hb hby d1_48) rfl kt) ?_
                show Goes p.tables e below _ (s₁.setTop (mkF m 49 #[.val (.int p0)] [(.int p0)]))
                refine go (X0.ldcInt hx hown (mvT hZ (hw _ (List.mem_of_getElem? (i := 25) rfl))) (g := (mkF m 49 #[.val (.int p0)] [(.int p0)])) rfl (hb hby d1_49)) ?_
                show Goes p.tables e below _ (s₁.setTop (mkF m 51 #[.val (.int p0)] [(.int (1114111 : Int32)), (.int p0)]))
                by_cases hc17 : (1114111 : Int32) < p0
                ·
                  refine go (fun t kt => XS.icmpYes X0.here hx rfl (pc0 := 51) (pc' := 58) rfl (hb hby d1_51) rfl (tlt hc17).2.2.1 (by decide) (by decide) kt) ?_
                  show Goes p.tables e below _ (s₁.setTop (mkF m 58 #[.val (.int p0)] []))
                  refine go (fun t kt => XS.iconst X0.here hx rfl (hb hby d1_58) kt) ?_
                  show Goes p.tables e below _ (s₁.setTop (mkF m 59 #[.val (.int p0)] [(.int (0 : Int32))]))
                  obtain ⟨fs, hr, hrun, hended, hW, hsame⟩ := X0.leave (v := some (.int (0 : Int32))) (fun h => by rw [Bd.returns] at h; cases h)
                  refine ⟨_, _, retN X0 hx (t := .boolean) Bd.returns (by simp) (hb hby d1_59) hr, hrun, hended, _, _, rfl, ?_, ⟨_, rfl⟩, hW, hsame.mono (by decide) (by decide)⟩
                  show Q1 Z p0 h0 n0 _ s₁.heap _
                  rw [e0]
                  exact ⟨(by unfold own_isChar; rw [if_neg hc1, if_neg hc3, if_neg hc5, if_pos hc7, if_neg hc8, if_pos hc14, if_neg hc15, if_pos hc17]), N0, rfl⟩
                ·
                  refine go (fun t kt => XS.icmpNo X0.here hx rfl (hb hby d1_51) rfl (flt hc17).2.2.1 kt) ?_
                  show Goes p.tables e below _ (s₁.setTop (mkF m 54 #[.val (.int p0)] []))
                  refine go (fun t kt => XS.iconst X0.here hx rfl (hb hby d1_54) kt) ?_
                  show Goes p.tables e below _ (s₁.setTop (mkF m 55 #[.val (.int p0)] [(.int (1 : Int32))]))
                  refine go (fun t kt => XS.goto X0.here hx rfl (pc0 := 55) (pc' := 59) rfl (hb hby d1_55) (by decide) (by decide) kt) ?_
                  show Goes p.tables e below _ (s₁.setTop (mkF m 59 #[.val (.int p0)] [(.int (1 : Int32))]))
                  obtain ⟨fs, hr, hrun, hended, hW, hsame⟩ := X0.leave (v := some (.int (1 : Int32))) (fun h => by rw [Bd.returns] at h; cases h)
                  refine ⟨_, _, retN X0 hx (t := .boolean) Bd.returns (by simp) (hb hby d1_59) hr, hrun, hended, _, _, rfl, ?_, ⟨_, rfl⟩, hW, hsame.mono (by decide) (by decide)⟩
                  show Q1 Z p0 h0 n0 _ s₁.heap _
                  rw [e0]
                  exact ⟨(by unfold own_isChar; rw [if_neg hc1, if_neg hc3, if_neg hc5, if_pos hc7, if_neg hc8, if_pos hc14, if_neg hc15, if_neg hc17]), N0, rfl⟩
            ·
              refine go (fun t kt => XS.icmpYes X0.here hx rfl (pc0 := 39) (pc' := 54) rfl (hb hby d1_39) rfl (flt hc14).2.2.2 (by decide) (by decide) kt) ?_
              show Goes p.tables e below _ (s₁.setTop (mkF m 54 #[.val (.int p0)] []))
              refine go (fun t kt => XS.iconst X0.here hx rfl (hb hby d1_54) kt) ?_
              show Goes p.tables e below _ (s₁.setTop (mkF m 55 #[.val (.int p0)] [(.int (1 : Int32))]))
              refine go (fun t kt => XS.goto X0.here hx rfl (pc0 := 55) (pc' := 59) rfl (hb hby d1_55) (by decide) (by decide) kt) ?_
              show Goes p.tables e below _ (s₁.setTop (mkF m 59 #[.val (.int p0)] [(.int (1 : Int32))]))
              obtain ⟨fs, hr, hrun, hended, hW, hsame⟩ := X0.leave (v := some (.int (1 : Int32))) (fun h => by rw [Bd.returns] at h; cases h)
              refine ⟨_, _, retN X0 hx (t := .boolean) Bd.returns (by simp) (hb hby d1_59) hr, hrun, hended, _, _, rfl, ?_, ⟨_, rfl⟩, hW, hsame.mono (by decide) (by decide)⟩
              show Q1 Z p0 h0 n0 _ s₁.heap _
              rw [e0]
              exact ⟨(by unfold own_isChar; rw [if_neg hc1, if_neg hc3, if_neg hc5, if_pos hc7, if_neg hc8, if_neg hc14]), N0, rfl⟩
        ·
          refine go (fun t kt => XS.icmpNo X0.here hx rfl (hb hby d1_21) rfl (flt hc7).1 kt) ?_
          show Goes p.tables e below _ (s₁.setTop (mkF m 24 #[.val (.int p0)] []))
          refine go (fun t kt => XS.iloadN X0.here hx rfl (hb hby d1_24) rfl kt) ?_
          show Goes p.tables e below _ (s₁.setTop (mkF m 25 #[.val (.int p0)] [(.int p0)]))
          refine go (X0.ldcInt hx hown (mvT hZ (hw _ (List.mem_of_getElem? (i := 23) rfl))) (g := (mkF m 25 #[.val (.int p0)] [(.int p0)])) rfl (hb hby d1_25)) ?_
          show Goes p.tables e below _ (s₁.setTop (mkF m 27 #[.val (.int p0)] [(.int (55295 : Int32)), (.int p0)]))
          by_cases hc21 : (55295 : Int32) < p0
          ·
            refine go (fun t kt => XS.icmpNo X0.here hx rfl (hb hby d1_27) rfl (tlt hc21).2.2.2 kt) ?_
            show Goes p.tables e below _ (s₁.setTop (mkF m 30 #[.val (.int p0)] []))
            refine go (fun t kt => XS.iloadN X0.here hx rfl (hb hby d1_30) rfl kt) ?_
            show Goes p.tables e below _ (s₁.setTop (mkF m 31 #[.val (.int p0)] [(.int p0)]))
            refine go (X0.ldcInt hx hown (mvT hZ (hw _ (List.mem_of_getElem? (i := 21) rfl))) (g := (mkF m 31 #[.val (.int p0)] [(.int p0)])) rfl (hb hby d1_31)) ?_
            show Goes p.tables e below _ (s₁.setTop (mkF m 33 #[.val (.int p0)] [(.int (57344 : Int32)), (.int p0)]))
            by_cases hc22 : p0 < (57344 : Int32)
            ·
              refine go (fun t kt => XS.icmpYes X0.here hx rfl (pc0 := 33) (pc' := 42) rfl (hb hby d1_33) rfl (tlt hc22).1 (by decide) (by decide) kt) ?_
              show Goes p.tables e below _ (s₁.setTop (mkF m 42 #[.val (.int p0)] []))
              refine go (fun t kt => XS.iloadN X0.here hx rfl (hb hby d1_42) rfl kt) ?_
              show Goes p.tables e below _ (s₁.setTop (mkF m 43 #[.val (.int p0)] [(.int p0)]))
              refine go (X0.ldcInt hx hown (mvT hZ (hw _ (List.mem_of_getElem? (i := 22) rfl))) (g := (mkF m 43 #[.val (.int p0)] [(.int p0)])) rfl (hb hby d1_43)) ?_
              show Goes p.tables e below _ (s₁.setTop (mkF m 45 #[.val (.int p0)] [(.int (65536 : Int32)), (.int p0)]))
              by_cases hc23 : p0 < (65536 : Int32)
              ·
                refine go (fun t kt => XS.icmpYes X0.here hx rfl (pc0 := 45) (pc' := 58) rfl (hb hby d1_45) rfl (tlt hc23).1 (by decide) (by decide) kt) ?_
                show Goes p.tables e below _ (s₁.setTop (mkF m 58 #[.val (.int p0)] []))
                refine go (fun t kt => XS.iconst X0.here hx rfl (hb hby d1_58) kt) ?_
                show Goes p.tables e below _ (s₁.setTop (mkF m 59 #[.val (.int p0)] [(.int (0 : Int32))]))
                obtain ⟨fs, hr, hrun, hended, hW, hsame⟩ := X0.leave (v := some (.int (0 : Int32))) (fun h => by rw [Bd.returns] at h; cases h)
                refine ⟨_, _, retN X0 hx (t := .boolean) Bd.returns (by simp) (hb hby d1_59) hr, hrun, hended, _, _, rfl, ?_, ⟨_, rfl⟩, hW, hsame.mono (by decide) (by decide)⟩
                show Q1 Z p0 h0 n0 _ s₁.heap _
                rw [e0]
                exact ⟨(by unfold own_isChar; rw [if_neg hc1, if_neg hc3, if_neg hc5, if_neg hc7, if_pos hc21, if_pos hc22, if_pos hc23]), N0, rfl⟩
              ·
                refine go (fun t kt => XS.icmpNo X0.here hx rfl (hb hby d1_45) rfl (flt hc23).1 kt) ?_
                show Goes p.tables e below _ (s₁.setTop (mkF m 48 #[.val (.int p0)] []))
                refine go (fun t kt => XS.iloadN X0.here hx rfl (hb hby d1_48) rfl kt) ?_
                show Goes p.tables e below _ (s₁.setTop (mkF m 49 #[.val (.int p0)] [(.int p0)]))
                refine go (X0.ldcInt hx hown (mvT hZ (hw _ (List.mem_of_getElem? (i := 25) rfl))) (g := (mkF m 49 #[.val (.int p0)] [(.int p0)])) rfl (hb hby d1_49)) ?_
                show Goes p.tables e below _ (s₁.setTop (mkF m 51 #[.val (.int p0)] [(.int (1114111 : Int32)), (.int p0)]))
                by_cases hc25 : (1114111 : Int32) < p0
                ·
                  refine go (fun t kt => XS.icmpYes X0.here hx rfl (pc0 := 51) (pc' := 58) rfl (hb hby d1_51) rfl (tlt hc25).2.2.1 (by decide) (by decide) kt) ?_
                  show Goes p.tables e below _ (s₁.setTop (mkF m 58 #[.val (.int p0)] []))
                  refine go (fun t kt => XS.iconst X0.here hx rfl (hb hby d1_58) kt) ?_
                  show Goes p.tables e below _ (s₁.setTop (mkF m 59 #[.val (.int p0)] [(.int (0 : Int32))]))
                  obtain ⟨fs, hr, hrun, hended, hW, hsame⟩ := X0.leave (v := some (.int (0 : Int32))) (fun h => by rw [Bd.returns] at h; cases h)
                  refine ⟨_, _, retN X0 hx (t := .boolean) Bd.returns (by simp) (hb hby d1_59) hr, hrun, hended, _, _, rfl, ?_, ⟨_, rfl⟩, hW, hsame.mono (by decide) (by decide)⟩
                  show Q1 Z p0 h0 n0 _ s₁.heap _
                  rw [e0]
                  exact ⟨(by unfold own_isChar; rw [if_neg hc1, if_neg hc3, if_neg hc5, if_neg hc7, if_pos hc21, if_pos hc22, if_neg hc23, if_pos hc25]), N0, rfl⟩
                ·
                  refine go (fun t kt => XS.icmpNo X0.here hx rfl (hb hby d1_51) rfl (flt hc25).2.2.1 kt) ?_
                  show Goes p.tables e below _ (s₁.setTop (mkF m 54 #[.val (.int p0)] []))
                  refine go (fun t kt => XS.iconst X0.here hx rfl (hb hby d1_54) kt) ?_
                  show Goes p.tables e below _ (s₁.setTop (mkF m 55 #[.val (.int p0)] [(.int (1 : Int32))]))
                  refine go (fun t kt => XS.goto X0.here hx rfl (pc0 := 55) (pc' := 59) rfl (hb hby d1_55) (by decide) (by decide) kt) ?_
                  show Goes p.tables e below _ (s₁.setTop (mkF m 59 #[.val (.int p0)] [(.int (1 : Int32))]))
                  obtain ⟨fs, hr, hrun, hended, hW, hsame⟩ := X0.leave (v := some (.int (1 : Int32))) (fun h => by rw [Bd.returns] at h; cases h)
                  refine ⟨_, _, retN X0 hx (t := .boolean) Bd.returns (by simp) (hb hby d1_59) hr, hrun, hended, _, _, rfl, ?_, ⟨_, rfl⟩, hW, hsame.mono (by decide) (by decide)⟩
                  show Q1 Z p0 h0 n0 _ s₁.heap _
                  rw [e0]
                  exact ⟨(by unfold own_isChar; rw [if_neg hc1, if_neg hc3, if_neg hc5, if_neg hc7, if_pos hc21, if_pos hc22, if_neg hc23, if_neg hc25]), N0, rfl⟩
            ·
              refine go (fun t kt => XS.icmpNo X0.here hx rfl (hb hby d1_33) rfl (flt hc22).1 kt) ?_
              show Goes p.tables e below _ (s₁.setTop (mkF m 36 #[.val (.int p0)] []))
              refine go (fun t kt => XS.iloadN X0.here hx rfl (hb hby d1_36) rfl kt) ?_
              show Goes p.tables e below _ (s₁.setTop (mkF m 37 #[.val (.int p0)] [(.int p0)]))
              refine go (X0.ldcInt hx hown (mvT hZ (hw _ (List.mem_of_getElem? (i := 24) rfl))) (g := (mkF m 37 #[.val (.int p0)] [(.int p0)])) rfl (hb hby d1_37)) ?_
              show Goes p.tables e below _ (s₁.setTop (mkF m 39 #[.val (.int p0)] [(.int (65533 : Int32)), (.int p0)]))
              by_cases hc28 : (65533 : Int32) < p0
              ·
                refine go (fun t kt => XS.icmpNo X0.here hx rfl (hb hby d1_39) rfl (tlt hc28).2.2.2 kt) ?_
                show Goes p.tables e below _ (s₁.setTop (mkF m 42 #[.val (.int p0)] []))
                refine go (fun t kt => XS.iloadN X0.here hx rfl (hb hby d1_42) rfl kt) ?_
                show Goes p.tables e below _ (s₁.setTop (mkF m 43 #[.val (.int p0)] [(.int p0)]))
                refine go (X0.ldcInt hx hown (mvT hZ (hw _ (List.mem_of_getElem? (i := 22) rfl))) (g := (mkF m 43 #[.val (.int p0)] [(.int p0)])) rfl (hb hby d1_43)) ?_
                show Goes p.tables e below _ (s₁.setTop (mkF m 45 #[.val (.int p0)] [(.int (65536 : Int32)), (.int p0)]))
                by_cases hc29 : p0 < (65536 : Int32)
                ·
                  refine go (fun t kt => XS.icmpYes X0.here hx rfl (pc0 := 45) (pc' := 58) rfl (hb hby d1_45) rfl (tlt hc29).1 (by decide) (by decide) kt) ?_
                  show Goes p.tables e below _ (s₁.setTop (mkF m 58 #[.val (.int p0)] []))
                  refine go (fun t kt => XS.iconst X0.here hx rfl (hb hby d1_58) kt) ?_
                  show Goes p.tables e below _ (s₁.setTop (mkF m 59 #[.val (.int p0)] [(.int (0 : Int32))]))
                  obtain ⟨fs, hr, hrun, hended, hW, hsame⟩ := X0.leave (v := some (.int (0 : Int32))) (fun h => by rw [Bd.returns] at h; cases h)
                  refine ⟨_, _, retN X0 hx (t := .boolean) Bd.returns (by simp) (hb hby d1_59) hr, hrun, hended, _, _, rfl, ?_, ⟨_, rfl⟩, hW, hsame.mono (by decide) (by decide)⟩
                  show Q1 Z p0 h0 n0 _ s₁.heap _
                  rw [e0]
                  exact ⟨(by unfold own_isChar; rw [if_neg hc1, if_neg hc3, if_neg hc5, if_neg hc7, if_pos hc21, if_neg hc22, if_pos hc28, if_pos hc29]), N0, rfl⟩
                ·
                  refine go (fun t kt => XS.icmpNo X0.here hx rfl (hb hby d1_45) rfl (flt hc29).1 kt) ?_
                  show Goes p.tables e below _ (s₁.setTop (mkF m 48 #[.val (.int p0)] []))
                  refine go (fun t kt => XS.iloadN X0.here hx rfl (hb hby d1_48) rfl kt) ?_
                  show Goes p.tables e below _ (s₁.setTop (mkF m 49 #[.val (.int p0)] [(.int p0)]))
                  refine go (X0.ldcInt hx hown (mvT hZ (hw _ (List.mem_of_getElem? (i := 25) rfl))) (g := (mkF m 49 #[.val (.int p0)] [(.int p0)])) rfl (hb hby d1_49)) ?_
                  show Goes p.tables e below _ (s₁.setTop (mkF m 51 #[.val (.int p0)] [(.int (1114111 : Int32)), (.int p0)]))
                  by_cases hc31 : (1114111 : Int32) < p0
                  ·
                    refine go (fun t kt => XS.icmpYes X0.here hx rfl (pc0 := 51) (pc' := 58) rfl (hb hby d1_51) rfl (tlt hc31).2.2.1 (by decide) (by decide) kt) ?_
                    show Goes p.tables e below _ (s₁.setTop (mkF m 58 #[.val (.int p0)] []))
                    refine go (fun t kt => XS.iconst X0.here hx rfl (hb hby d1_58) kt) ?_
                    show Goes p.tables e below _ (s₁.setTop (mkF m 59 #[.val (.int p0)] [(.int (0 : Int32))]))
                    obtain ⟨fs, hr, hrun, hended, hW, hsame⟩ := X0.leave (v := some (.int (0 : Int32))) (fun h => by rw [Bd.returns] at h; cases h)
                    refine ⟨_, _, retN X0 hx (t := .boolean) Bd.returns (by simp) (hb hby d1_59) hr, hrun, hended, _, _, rfl, ?_, ⟨_, rfl⟩, hW, hsame.mono (by decide) (by decide)⟩
                    show Q1 Z p0 h0 n0 _ s₁.heap _
                    rw [e0]
                    exact ⟨(by unfold own_isChar; rw [if_neg hc1, if_neg hc3, if_neg hc5, if_neg hc7, if_pos hc21, if_neg hc22, if_pos hc28, if_neg hc29, if_pos hc31]), N0, rfl⟩
                  ·
                    refine go (fun t kt => XS.icmpNo X0.here hx rfl (hb hby d1_51) rfl (flt hc31).2.2.1 kt) ?_
                    show Goes p.tables e below _ (s₁.setTop (mkF m 54 #[.val (.int p0)] []))
                    refine go (fun t kt => XS.iconst X0.here hx rfl (hb hby d1_54) kt) ?_
                    show Goes p.tables e below _ (s₁.setTop (mkF m 55 #[.val (.int p0)] [(.int (1 : Int32))]))
                    refine go (fun t kt => XS.goto X0.here hx rfl (pc0 := 55) (pc' := 59) rfl (hb hby d1_55) (by decide) (by decide) kt) ?_
                    show Goes p.tables e below _ (s₁.setTop (mkF m 59 #[.val (.int p0)] [(.int (1 : Int32))]))
                    obtain ⟨fs, hr, hrun, hended, hW, hsame⟩ := X0.leave (v := some (.int (1 : Int32))) (fun h => by rw [Bd.returns] at h; cases h)
                    refine ⟨_, _, retN X0 hx (t := .boolean) Bd.returns (by simp) (hb hby d1_59) hr, hrun, hended, _, _, rfl, ?_, ⟨_, rfl⟩, hW, hsame.mono (by decide) (by decide)⟩
                    show Q1 Z p0 h0 n0 _ s₁.heap _
                    rw [e0]
                    exact ⟨(by unfold own_isChar; rw [if_neg hc1, if_neg hc3, if_neg hc5, if_neg hc7, if_pos hc21, if_neg hc22, if_pos hc28, if_neg hc29, if_neg hc31]), N0, rfl⟩
              ·
                refine go (fun t kt => XS.icmpYes X0.here hx rfl (pc0 := 39) (pc' := 54) rfl (hb hby d1_39) rfl (flt hc28).2.2.2 (by decide) (by decide) kt) ?_
                show Goes p.tables e below _ (s₁.setTop (mkF m 54 #[.val (.int p0)] []))
                refine go (fun t kt => XS.iconst X0.here hx rfl (hb hby d1_54) kt) ?_
                show Goes p.tables e below _ (s₁.setTop (mkF m 55 #[.val (.int p0)] [(.int (1 : Int32))]))
                refine go (fun t kt => XS.goto X0.here hx rfl (pc0 := 55) (pc' := 59) rfl (hb hby d1_55) (by decide) (by decide) kt) ?_
                show Goes p.tables e below _ (s₁.setTop (mkF m 59 #[.val (.int p0)] [(.int (1 : Int32))]))
                obtain ⟨fs, hr, hrun, hended, hW, hsame⟩ := X0.leave (v := some (.int (1 : Int32))) (fun h => by rw [Bd.returns] at h; cases h)
                refine ⟨_, _, retN X0 hx (t := .boolean) Bd.returns (by simp) (hb hby d1_59) hr, hrun, hended, _, _, rfl, ?_, ⟨_, rfl⟩, hW, hsame.mono (by decide) (by decide)⟩
                show Q1 Z p0 h0 n0 _ s₁.heap _
                rw [e0]
                exact ⟨(by unfold own_isChar; rw [if_neg hc1, if_neg hc3, if_neg hc5, if_neg hc7, if_pos hc21, if_neg hc22, if_neg hc28]), N0, rfl⟩
          ·
            refine go (fun t kt => XS.icmpYes X0.here hx rfl (pc0 := 27) (pc' := 54) rfl (hb hby d1_27) rfl (flt hc21).2.2.2 (by decide) (by decide) kt) ?_
            show Goes p.tables e below _ (s₁.setTop (mkF m 54 #[.val (.int p0)] []))
            refine go (fun t kt => XS.iconst X0.here hx rfl (hb hby d1_54) kt) ?_
            show Goes p.tables e below _ (s₁.setTop (mkF m 55 #[.val (.int p0)] [(.int (1 : Int32))]))
            refine go (fun t kt => XS.goto X0.here hx rfl (pc0 := 55) (pc' := 59) rfl (hb hby d1_55) (by decide) (by decide) kt) ?_
            show Goes p.tables e below _ (s₁.setTop (mkF m 59 #[.val (.int p0)] [(.int (1 : Int32))]))
            obtain ⟨fs, hr, hrun, hended, hW, hsame⟩ := X0.leave (v := some (.int (1 : Int32))) (fun h => by rw [Bd.returns] at h; cases h)
            refine ⟨_, _, retN X0 hx (t := .boolean) Bd.returns (by simp) (hb hby d1_59) hr, hrun, hended, _, _, rfl, ?_, ⟨_, rfl⟩, hW, hsame.mono (by decide) (by decide)⟩
            show Q1 Z p0 h0 n0 _ s₁.heap _
            rw [e0]
            exact ⟨(by unfold own_isChar; rw [if_neg hc1, if_neg hc3, if_neg hc5, if_neg hc7, if_neg hc21]), N0, rfl⟩
theorem d2_0 : decode method_3_code 0 = .ok (.iload_n 0, 1) := by decide +kernel
theorem d2_1 : decode method_3_code 1 = .ok (.ifCond .lt 13, 3) := by decide +kernel
theorem d2_14 : decode method_3_code 14 = .ok (.iconst 0, 1) := by decide +kernel
theorem d2_4 : decode method_3_code 4 = .ok (.iload_n 0, 1) := by decide +kernel
theorem d2_5 : decode method_3_code 5 = .ok (.ldc 14, 2) := by decide +kernel
theorem d2_7 : decode method_3_code 7 = .ok (.if_icmp .gt 7, 3) := by decide +kernel
theorem d2_10 : decode method_3_code 10 = .ok (.iconst 1, 1) := by decide +kernel
theorem d2_11 : decode method_3_code 11 = .ok (.goto 4, 3) := by decide +kernel
theorem d2_15 : decode method_3_code 15 = .ok (.istore_n 1, 1) := by decide +kernel
theorem d2_16 : decode method_3_code 16 = .ok (.iload_n 0, 1) := by decide +kernel
theorem d2_17 : decode method_3_code 17 = .ok (.bipush 32, 2) := by decide +kernel
theorem d2_19 : decode method_3_code 19 = .ok (.if_icmp .ge 25, 3) := by decide +kernel
theorem d2_22 : decode method_3_code 22 = .ok (.iload_n 0, 1) := by decide +kernel
theorem d2_23 : decode method_3_code 23 = .ok (.bipush 9, 2) := by decide +kernel
theorem d2_25 : decode method_3_code 25 = .ok (.if_icmp .eq 19, 3) := by decide +kernel
theorem d2_44 : decode method_3_code 44 = .ok (.iconst 0, 1) := by decide +kernel
theorem d2_28 : decode method_3_code 28 = .ok (.iload_n 0, 1) := by decide +kernel
theorem d2_29 : decode method_3_code 29 = .ok (.bipush 10, 2) := by decide +kernel
theorem d2_31 : decode method_3_code 31 = .ok (.if_icmp .eq 13, 3) := by decide +kernel
theorem d2_34 : decode method_3_code 34 = .ok (.iload_n 0, 1) := by decide +kernel
theorem d2_35 : decode method_3_code 35 = .ok (.bipush 13, 2) := by decide +kernel
theorem d2_37 : decode method_3_code 37 = .ok (.if_icmp .eq 7, 3) := by decide +kernel
theorem d2_40 : decode method_3_code 40 = .ok (.iconst 1, 1) := by decide +kernel
theorem d2_41 : decode method_3_code 41 = .ok (.goto 4, 3) := by decide +kernel
theorem d2_45 : decode method_3_code 45 = .ok (.istore_n 2, 1) := by decide +kernel
theorem d2_46 : decode method_3_code 46 = .ok (.iload_n 0, 1) := by decide +kernel
theorem d2_47 : decode method_3_code 47 = .ok (.ldc 8, 2) := by decide +kernel
theorem d2_49 : decode method_3_code 49 = .ok (.if_icmp .lt 13, 3) := by decide +kernel
theorem d2_62 : decode method_3_code 62 = .ok (.iconst 0, 1) := by decide +kernel
theorem d2_52 : decode method_3_code 52 = .ok (.iload_n 0, 1) := by decide +kernel
theorem d2_53 : decode method_3_code 53 = .ok (.ldc 9, 2) := by decide +kernel
theorem d2_55 : decode method_3_code 55 = .ok (.if_icmp .gt 7, 3) := by decide +kernel
theorem d2_58 : decode method_3_code 58 = .ok (.iconst 1, 1) := by decide +kernel
theorem d2_59 : decode method_3_code 59 = .ok (.goto 4, 3) := by decide +kernel
theorem d2_63 : decode method_3_code 63 = .ok (.istore_n 3, 1) := by decide +kernel
theorem d2_64 : decode method_3_code 64 = .ok (.iload_n 0, 1) := by decide +kernel
theorem d2_65 : decode method_3_code 65 = .ok (.ldc 12, 2) := by decide +kernel
theorem d2_67 : decode method_3_code 67 = .ok (.if_icmp .eq 9, 3) := by decide +kernel
theorem d2_76 : decode method_3_code 76 = .ok (.iconst 1, 1) := by decide +kernel
theorem d2_77 : decode method_3_code 77 = .ok (.goto 4, 3) := by decide +kernel
theorem d2_70 : decode method_3_code 70 = .ok (.iload_n 0, 1) := by decide +kernel
theorem d2_71 : decode method_3_code 71 = .ok (.ldc 31, 2) := by decide +kernel
theorem d2_73 : decode method_3_code 73 = .ok (.if_icmp .ne 7, 3) := by decide +kernel
theorem d2_80 : decode method_3_code 80 = .ok (.iconst 0, 1) := by decide +kernel
theorem d2_81 : decode method_3_code 81 = .ok (.istore 4, 2) := by decide +kernel
theorem d2_83 : decode method_3_code 83 = .ok (.iload_n 1, 1) := by decide +kernel
theorem d2_84 : decode method_3_code 84 = .ok (.ifCond .eq 20, 3) := by decide +kernel
theorem d2_104 : decode method_3_code 104 = .ok (.iconst 0, 1) := by decide +kernel
theorem d2_105 : decode method_3_code 105 = .ok (.ireturn, 1) := by decide +kernel
theorem d2_87 : decode method_3_code 87 = .ok (.iload_n 2, 1) := by decide +kernel
theorem d2_88 : decode method_3_code 88 = .ok (.ifCond .ne 16, 3) := by decide +kernel
theorem d2_91 : decode method_3_code 91 = .ok (.iload_n 3, 1) := by decide +kernel
theorem d2_92 : decode method_3_code 92 = .ok (.ifCond .ne 12, 3) := by decide +kernel
theorem d2_95 : decode method_3_code 95 = .ok (.iload 4, 2) := by decide +kernel
theorem d2_97 : decode method_3_code 97 = .ok (.ifCond .ne 7, 3) := by decide +kernel
theorem d2_100 : decode method_3_code 100 = .ok (.iconst 1, 1) := by decide +kernel
theorem d2_101 : decode method_3_code 101 = .ok (.goto 4, 3) := by decide +kernel
def own_exp (p0 : Int32) : Int32 := (if (if p0 < (0 : Int32) then (0 : Int32) else (if (1114111 : Int32) < p0 then (0 : Int32) else (1 : Int32))) = (0 : Int32) then (0 : Int32) else (if (if p0 < (32 : Int32) then (if p0 = (9 : Int32) then (0 : Int32) else (if p0 = (10 : Int32) then (0 : Int32) else (if p0 = (13 : Int32) then (0 : Int32) else (1 : Int32)))) else (0 : Int32)) = (0 : Int32) then (if (if p0 < (55296 : Int32) then (0 : Int32) else (if (57343 : Int32) < p0 then (0 : Int32) else (1 : Int32))) = (0 : Int32) then (if (if p0 = (65534 : Int32) then (1 : Int32) else (if p0 = (65535 : Int32) then (1 : Int32) else (0 : Int32))) = (0 : Int32) then (1 : Int32) else (0 : Int32)) else (0 : Int32)) else (0 : Int32)))
theorem pn_0 : plainName "com/example/axsis/axsis/tree/XmlSyntaxIsCharPinLaw" = true := by first | (simp [plainName, overriddenIn]; done) | decide +kernel
theorem ef_2 (m : MethodId) (p0 : Int32) : entryFrame m #[(.int p0)] 5 = mkF m 0 #[.val (.int p0), .unset, .unset, .unset, .unset] [] := by first | (simp [entryFrame, mkF, argsToLocals, Value.category]; done) | rfl
def Q2 (Z : State) (p0 : Int32) (h0 : Heap) (n0 : Nat) (v : Option Value) (h : Heap) (L : List Loc) : Prop := v = some (.int (own_exp p0)) ∧ Fr n0 L ∧ h = h0
set_option maxRecDepth 65536 in
set_option maxHeartbeats 40000000 in
theorem rm2 (l : Launch) (Z : State) (a0 : Array Value) (hw : ∀ d ∈ tables_1, d.before a0 Z = true) (ws : List Jvm.Cond) (p0 : Int32) (h0 : Heap) (n0 : Nat) (Z0 : n0 ≤ h0.size)  :
    MetFree l (⟨"com/example/axsis/axsis/tree/XmlSyntaxIsCharPinLaw", "expected", "(I)Z"⟩ : MethodName) (head1 (Jvm.Cond.code (⟨"com/example/axsis/axsis/tree/XmlSyntaxIsCharPinLaw", "expected", "(I)Z"⟩ : MethodName) method_3_code 5 (some .boolean) :: ws) ({ frames := 0, cells := 0, slots := 0, locals := 0 } : Room)) (fun a U => a = #[(.int p0)] ∧ Z.Warmed39 U.vm ∧ U.heap = h0) (fun _ _ _ _ _ => True) (fun _ U o U' => ∃ v L, o = .returned v ∧ Q2 Z p0 h0 n0 v U'.heap L ∧ FrameEnd U o U' L ({ frames := 0, cells := 0, slots := 0, locals := 0 } : Room).cells ({ frames := 0, cells := 0, slots := 0, locals := 0 } : Room).slots) := by
  refine MetFree.of_bodySF (plainFor_of_name pn_0) hisR ?_
  intro p e s m args below meth c s₁ Bd hml0 hP hK
  obtain ⟨rfl, hZ, hh⟩ := hP
  have hx := Bd.exec
  have hby := Bd.bytes
  have hml : c.maxLocals = 5 := hml0
  have hown : s.vm.findClass "com/example/axsis/axsis/tree/XmlSyntaxIsCharPinLaw" = some m.cls := findClass_of_methodNamed Bd.named
  have hnm := (name_of_methodNamed Bd.named Bd.method).1
  have X0 : Stand p l e ({ frames := 0, cells := 0, slots := 0, locals := 0 } : Room) s m #[(.int p0)] below meth c s₁ [] 0 0 := Stand.of_body Bd
  have e0 : s₁.heap = h0 := by rw [← hh, Bd.state]; rfl
  have N0 := Fr.nil n0
  have K0 := Keep.refl h0 []
  suffices hgo : Goes p.tables e below (fun s₂ o => ∃ v L, o = .returned v ∧ Q2 Z p0 h0 n0 v s₂.heap L ∧ FrameEnd s o s₂ L ({ frames := 0, cells := 0, slots := 0, locals := 0 } : Room).cells ({ frames := 0, cells := 0, slots := 0, locals := 0 } : Room).slots) (s₁.setTop (mkF m 0 #[.val (.int p0), .unset, .unset, .unset, .unset] [])) from goEnd (fun t k => castTop (ef_2 m p0) k) hgo
  refine go (fun t kt => XS.iloadN X0.here hx rfl (hb hby d2_0) rfl kt) ?_
  show Goes p.tables e below _ (s₁.setTop (mkF m 1 #[.val (.int p0), .unset, .unset, .unset, .unset] [(.int p0)]))
  suffices KK : ∀ (m1 : Int32), m1 = (if p0 < (0 : Int32) then (0 : Int32) else (if (1114111 : Int32) < p0 then (0 : Int32) else (1 : Int32))) → Goes p.tables e below (fun s₂ o => ∃ v L, o = .returned v ∧ Q2 Z p0 h0 n0 v s₂.heap L ∧ FrameEnd s o s₂ L ({ frames := 0, cells := 0, slots := 0, locals := 0 } : Room).cells ({ frames := 0, cells := 0, slots := 0, locals := 0 } : Room).slots) (s₁.setTop (mkF m 15 #[.val (.int p0), .unset, .unset, .unset, .unset] [(.int m1)])) by
    by_cases hc2 : p0 < (0 : Int32)
    ·
      refine go (fun t kt => XS.ifYes X0.here hx rfl (pc0 := 1) (pc' := 14) rfl (hb hby d2_1) rfl ((if0 _ _).trans (tlt hc2).1) (by decide) (by decide) kt) ?_
      show Goes p.tables e below _ (s₁.setTop (mkF m 14 #[.val (.int p0), .unset, .unset, .unset, .unset] []))
      refine go (fun t kt => XS.iconst X0.here hx rfl (hb hby d2_14) kt) ?_
      show Goes p.tables e below _ (s₁.setTop (mkF m 15 #[.val (.int p0), .unset, .unset, .unset, .unset] [(.int (0 : Int32))]))
      exact KK _ (by rw [if_pos hc2])
    ·
      refine go (fun t kt => XS.ifNo X0.here hx rfl (hb hby d2_1) rfl ((if0 _ _).trans (flt hc2).1) kt) ?_
      show Goes p.tables e below _ (s₁.setTop (mkF m 4 #[.val (.int p0), .unset, .unset, .unset, .unset] []))
      refine go (fun t kt => XS.iloadN X0.here hx rfl (hb hby d2_4) rfl kt) ?_
      show Goes p.tables e below _ (s₁.setTop (mkF m 5 #[.val (.int p0), .unset, .unset, .unset, .unset] [(.int p0)]))
      refine go (X0.ldcInt hx hown (mvT hZ (hw _ (List.mem_of_getElem? (i := 8) rfl))) (g := (mkF m 5 #[.val (.int p0), .unset, .unset, .unset, .unset] [(.int p0)])) rfl (hb hby d2_5)) ?_
      show Goes p.tables e below _ (s₁.setTop (mkF m 7 #[.val (.int p0), .unset, .unset, .unset, .unset] [(.int (1114111 : Int32)), (.int p0)]))
      by_cases hc3 : (1114111 : Int32) < p0
      ·
        refine go (fun t kt => XS.icmpYes X0.here hx rfl (pc0 := 7) (pc' := 14) rfl (hb hby d2_7) rfl (tlt hc3).2.2.1 (by decide) (by decide) kt) ?_
        show Goes p.tables e below _ (s₁.setTop (mkF m 14 #[.val (.int p0), .unset, .unset, .unset, .unset] []))
        refine go (fun t kt => XS.iconst X0.here hx rfl (hb hby d2_14) kt) ?_
        show Goes p.tables e below _ (s₁.setTop (mkF m 15 #[.val (.int p0), .unset, .unset, .unset, .unset] [(.int (0 : Int32))]))
        exact KK _ (by rw [if_neg hc2, if_pos hc3])
      ·
        refine go (fun t kt => XS.icmpNo X0.here hx rfl (hb hby d2_7) rfl (flt hc3).2.2.1 kt) ?_
        show Goes p.tables e below _ (s₁.setTop (mkF m 10 #[.val (.int p0), .unset, .unset, .unset, .unset] []))
        refine go (fun t kt => XS.iconst X0.here hx rfl (hb hby d2_10) kt) ?_
        show Goes p.tables e below _ (s₁.setTop (mkF m 11 #[.val (.int p0), .unset, .unset, .unset, .unset] [(.int (1 : Int32))]))
        refine go (fun t kt => XS.goto X0.here hx rfl (pc0 := 11) (pc' := 15) rfl (hb hby d2_11) (by decide) (by decide) kt) ?_
        show Goes p.tables e below _ (s₁.setTop (mkF m 15 #[.val (.int p0), .unset, .unset, .unset, .unset] [(.int (1 : Int32))]))
        exact KK _ (by rw [if_neg hc2, if_neg hc3])
  intro m1 hm1
  show Goes p.tables e below _ (s₁.setTop (mkF m 15 #[.val (.int p0), .unset, .unset, .unset, .unset] [(.int m1)]))
  refine go (fun t kt => XS.istoreN X0.here hx rfl (hb hby d2_15) rfl (l' := #[.val (.int p0), .val (.int m1), .unset, .unset, .unset]) rfl kt) ?_
  show Goes p.tables e below _ (s₁.setTop (mkF m 16 #[.val (.int p0), .val (.int m1), .unset, .unset, .unset] []))
  refine go (fun t kt => XS.iloadN X0.here hx rfl (hb hby d2_16) rfl kt) ?_
  show Goes p.tables e below _ (s₁.setTop (mkF m 17 #[.val (.int p0), .val (.int m1), .unset, .unset, .unset] [(.int p0)]))
  refine go (fun t kt => XS.bipush X0.here hx rfl (hb hby d2_17) kt) ?_
  show Goes p.tables e below _ (s₁.setTop (mkF m 19 #[.val (.int p0), .val (.int m1), .unset, .unset, .unset] [(.int (32 : Int32)), (.int p0)]))
  suffices KK : ∀ (m4 : Int32), m4 = (if p0 < (32 : Int32) then (if p0 = (9 : Int32) then (0 : Int32) else (if p0 = (10 : Int32) then (0 : Int32) else (if p0 = (13 : Int32) then (0 : Int32) else (1 : Int32)))) else (0 : Int32)) → Goes p.tables e below (fun s₂ o => ∃ v L, o = .returned v ∧ Q2 Z p0 h0 n0 v s₂.heap L ∧ FrameEnd s o s₂ L ({ frames := 0, cells := 0, slots := 0, locals := 0 } : Room).cells ({ frames := 0, cells := 0, slots := 0, locals := 0 } : Room).slots) (s₁.setTop (mkF m 45 #[.val (.int p0), .val (.int m1), .unset, .unset, .unset] [(.int m4)])) by
    by_cases hc5 : p0 < (32 : Int32)
    ·
      refine go (fun t kt => XS.icmpNo X0.here hx rfl (hb hby d2_19) rfl (tlt hc5).2.1 kt) ?_
      show Goes p.tables e below _ (s₁.setTop (mkF m 22 #[.val (.int p0), .val (.int m1), .unset, .unset, .unset] []))
      refine go (fun t kt => XS.iloadN X0.here hx rfl (hb hby d2_22) rfl kt) ?_
      show Goes p.tables e below _ (s₁.setTop (mkF m 23 #[.val (.int p0), .val (.int m1), .unset, .unset, .unset] [(.int p0)]))
      refine go (fun t kt => XS.bipush X0.here hx rfl (hb hby d2_23) kt) ?_
      show Goes p.tables e below _ (s₁.setTop (mkF m 25 #[.val (.int p0), .val (.int m1), .unset, .unset, .unset] [(.int (9 : Int32)), (.int p0)]))
      by_cases hc6 : p0 = (9 : Int32)
      ·
        refine go (fun t kt => XS.icmpYes X0.here hx rfl (pc0 := 25) (pc' := 44) rfl (hb hby d2_25) rfl (teq hc6).1 (by decide) (by decide) kt) ?_
        show Goes p.tables e below _ (s₁.setTop (mkF m 44 #[.val (.int p0), .val (.int m1), .unset, .unset, .unset] []))
        refine go (fun t kt => XS.iconst X0.here hx rfl (hb hby d2_44) kt) ?_
        show Goes p.tables e below _ (s₁.setTop (mkF m 45 #[.val (.int p0), .val (.int m1), .unset, .unset, .unset] [(.int (0 : Int32))]))
        exact KK _ (by rw [if_pos hc5, if_pos hc6])
      ·
        refine go (fun t kt => XS.icmpNo X0.here hx rfl (hb hby d2_25) rfl (feq hc6).1 kt) ?_
        show Goes p.tables e below _ (s₁.setTop (mkF m 28 #[.val (.int p0), .val (.int m1), .unset, .unset, .unset] []))
        refine go (fun t kt => XS.iloadN X0.here hx rfl (hb hby d2_28) rfl kt) ?_
        show Goes p.tables e below _ (s₁.setTop (mkF m 29 #[.val (.int p0), .val (.int m1), .unset, .unset, .unset] [(.int p0)]))
        refine go (fun t kt => XS.bipush X0.here hx rfl (hb hby d2_29) kt) ?_
        show Goes p.tables e below _ (s₁.setTop (mkF m 31 #[.val (.int p0), .val (.int m1), .unset, .unset, .unset] [(.int (10 : Int32)), (.int p0)]))
        by_cases hc7 : p0 = (10 : Int32)
        ·
          refine go (fun t kt => XS.icmpYes X0.here hx rfl (pc0 := 31) (pc' := 44) rfl (hb hby d2_31) rfl (teq hc7).1 (by decide) (by decide) kt) ?_
          show Goes p.tables e below _ (s₁.setTop (mkF m 44 #[.val (.int p0), .val (.int m1), .unset, .unset, .unset] []))
          refine go (fun t kt => XS.iconst X0.here hx rfl (hb hby d2_44) kt) ?_
          show Goes p.tables e below _ (s₁.setTop (mkF m 45 #[.val (.int p0), .val (.int m1), .unset, .unset, .unset] [(.int (0 : Int32))]))
          exact KK _ (by rw [if_pos hc5, if_neg hc6, if_pos hc7])
        ·
          refine go (fun t kt => XS.icmpNo X0.here hx rfl (hb hby d2_31) rfl (feq hc7).1 kt) ?_
          show Goes p.tables e below _ (s₁.setTop (mkF m 34 #[.val (.int p0), .val (.int m1), .unset, .unset, .unset] []))
          refine go (fun t kt => XS.iloadN X0.here hx rfl (hb hby d2_34) rfl kt) ?_
          show Goes p.tables e below _ (s₁.setTop (mkF m 35 #[.val (.int p0), .val (.int m1), .unset, .unset, .unset] [(.int p0)]))
          refine go (fun t kt => XS.bipush X0.here hx rfl (hb hby d2_35) kt) ?_
          show Goes p.tables e below _ (s₁.setTop (mkF m 37 #[.val (.int p0), .val (.int m1), .unset, .unset, .unset] [(.int (13 : Int32)), (.int p0)]))
          by_cases hc8 : p0 = (13 : Int32)
          ·
            refine go (fun t kt => XS.icmpYes X0.here hx rfl (pc0 := 37) (pc' := 44) rfl (hb hby d2_37) rfl (teq hc8).1 (by decide) (by decide) kt) ?_
            show Goes p.tables e below _ (s₁.setTop (mkF m 44 #[.val (.int p0), .val (.int m1), .unset, .unset, .unset] []))
            refine go (fun t kt => XS.iconst X0.here hx rfl (hb hby d2_44) kt) ?_
            show Goes p.tables e below _ (s₁.setTop (mkF m 45 #[.val (.int p0), .val (.int m1), .unset, .unset, .unset] [(.int (0 : Int32))]))
            exact KK _ (by rw [if_pos hc5, if_neg hc6, if_neg hc7, if_pos hc8])
          ·
            refine go (fun t kt => XS.icmpNo X0.here hx rfl (hb hby d2_37) rfl (feq hc8).1 kt) ?_
            show Goes p.tables e below _ (s₁.setTop (mkF m 40 #[.val (.int p0), .val (.int m1), .unset, .unset, .unset] []))
            refine go (fun t kt => XS.iconst X0.here hx rfl (hb hby d2_40) kt) ?_
            show Goes p.tables e below _ (s₁.setTop (mkF m 41 #[.val (.int p0), .val (.int m1), .unset, .unset, .unset] [(.int (1 : Int32))]))
            refine go (fun t kt => XS.goto X0.here hx rfl (pc0 := 41) (pc' := 45) rfl (hb hby d2_41) (by decide) (by decide) kt) ?_
            show Goes p.tables e below _ (s₁.setTop (mkF m 45 #[.val (.int p0), .val (.int m1), .unset, .unset, .unset] [(.int (1 : Int32))]))
            exact KK _ (by rw [if_pos hc5, if_neg hc6, if_neg hc7, if_neg hc8])
    ·
      refine go (fun t kt => XS.icmpYes X0.here hx rfl (pc0 := 19) (pc' := 44) rfl (hb hby d2_19) rfl (flt hc5).2.1 (by decide) (by decide) kt) ?_
      show Goes p.tables e below _ (s₁.setTop (mkF m 44 #[.val (.int p0), .val (.int m1), .unset, .unset, .unset] []))
      refine go (fun t kt => XS.iconst X0.here hx rfl (hb hby d2_44) kt) ?_
      show Goes p.tables e below _ (s₁.setTop (mkF m 45 #[.val (.int p0), .val (.int m1), .unset, .unset, .unset] [(.int (0 : Int32))]))
      exact KK _ (by rw [if_neg hc5])
  intro m4 hm4
  show Goes p.tables e below _ (s₁.setTop (mkF m 45 #[.val (.int p0), .val (.int m1), .unset, .unset, .unset] [(.int m4)]))
  refine go (fun t kt => XS.istoreN X0.here hx rfl (hb hby d2_45) rfl (l' := #[.val (.int p0), .val (.int m1), .val (.int m4), .unset, .unset]) rfl kt) ?_
  show Goes p.tables e below _ (s₁.setTop (mkF m 46 #[.val (.int p0), .val (.int m1), .val (.int m4), .unset, .unset] []))
  refine go (fun t kt => XS.iloadN X0.here hx rfl (hb hby d2_46) rfl kt) ?_
  show Goes p.tables e below _ (s₁.setTop (mkF m 47 #[.val (.int p0), .val (.int m1), .val (.int m4), .unset, .unset] [(.int p0)]))
  refine go (X0.ldcInt hx hown (mvT hZ (hw _ (List.mem_of_getElem? (i := 2) rfl))) (g := (mkF m 47 #[.val (.int p0), .val (.int m1), .val (.int m4), .unset, .unset] [(.int p0)])) rfl (hb hby d2_47)) ?_
  show Goes p.tables e below _ (s₁.setTop (mkF m 49 #[.val (.int p0), .val (.int m1), .val (.int m4), .unset, .unset] [(.int (55296 : Int32)), (.int p0)]))
  suffices KK : ∀ (m9 : Int32), m9 = (if p0 < (55296 : Int32) then (0 : Int32) else (if (57343 : Int32) < p0 then (0 : Int32) else (1 : Int32))) → Goes p.tables e below (fun s₂ o => ∃ v L, o = .returned v ∧ Q2 Z p0 h0 n0 v s₂.heap L ∧ FrameEnd s o s₂ L ({ frames := 0, cells := 0, slots := 0, locals := 0 } : Room).cells ({ frames := 0, cells := 0, slots := 0, locals := 0 } : Room).slots) (s₁.setTop (mkF m 63 #[.val (.int p0), .val (.int m1), .val (.int m4), .unset, .unset] [(.int m9)])) by
    by_cases hc10 : p0 < (55296 : Int32)
    ·
      refine go (fun t kt => XS.icmpYes X0.here hx rfl (pc0 := 49) (pc' := 62) rfl (hb hby d2_49) rfl (tlt hc10).1 (by decide) (by decide) kt) ?_
      show Goes p.tables e below _ (s₁.setTop (mkF m 62 #[.val (.int p0), .val (.int m1), .val (.int m4), .unset, .unset] []))
      refine go (fun t kt => XS.iconst X0.here hx rfl (hb hby d2_62) kt) ?_
      show Goes p.tables e below _ (s₁.setTop (mkF m 63 #[.val (.int p0), .val (.int m1), .val (.int m4), .unset, .unset] [(.int (0 : Int32))]))
      exact KK _ (by rw [if_pos hc10])
    ·
      refine go (fun t kt => XS.icmpNo X0.here hx rfl (hb hby d2_49) rfl (flt hc10).1 kt) ?_
      show Goes p.tables e below _ (s₁.setTop (mkF m 52 #[.val (.int p0), .val (.int m1), .val (.int m4), .unset, .unset] []))
      refine go (fun t kt => XS.iloadN X0.here hx rfl (hb hby d2_52) rfl kt) ?_
      show Goes p.tables e below _ (s₁.setTop (mkF m 53 #[.val (.int p0), .val (.int m1), .val (.int m4), .unset, .unset] [(.int p0)]))
      refine go (X0.ldcInt hx hown (mvT hZ (hw _ (List.mem_of_getElem? (i := 3) rfl))) (g := (mkF m 53 #[.val (.int p0), .val (.int m1), .val (.int m4), .unset, .unset] [(.int p0)])) rfl (hb hby d2_53)) ?_
      show Goes p.tables e below _ (s₁.setTop (mkF m 55 #[.val (.int p0), .val (.int m1), .val (.int m4), .unset, .unset] [(.int (57343 : Int32)), (.int p0)]))
      by_cases hc11 : (57343 : Int32) < p0
      ·
        refine go (fun t kt => XS.icmpYes X0.here hx rfl (pc0 := 55) (pc' := 62) rfl (hb hby d2_55) rfl (tlt hc11).2.2.1 (by decide) (by decide) kt) ?_
        show Goes p.tables e below _ (s₁.setTop (mkF m 62 #[.val (.int p0), .val (.int m1), .val (.int m4), .unset, .unset] []))
        refine go (fun t kt => XS.iconst X0.here hx rfl (hb hby d2_62) kt) ?_
        show Goes p.tables e below _ (s₁.setTop (mkF m 63 #[.val (.int p0), .val (.int m1), .val (.int m4), .unset, .unset] [(.int (0 : Int32))]))
        exact KK _ (by rw [if_neg hc10, if_pos hc11])
      ·
        refine go (fun t kt => XS.icmpNo X0.here hx rfl (hb hby d2_55) rfl (flt hc11).2.2.1 kt) ?_
        show Goes p.tables e below _ (s₁.setTop (mkF m 58 #[.val (.int p0), .val (.int m1), .val (.int m4), .unset, .unset] []))
        refine go (fun t kt => XS.iconst X0.here hx rfl (hb hby d2_58) kt) ?_
        show Goes p.tables e below _ (s₁.setTop (mkF m 59 #[.val (.int p0), .val (.int m1), .val (.int m4), .unset, .unset] [(.int (1 : Int32))]))
        refine go (fun t kt => XS.goto X0.here hx rfl (pc0 := 59) (pc' := 63) rfl (hb hby d2_59) (by decide) (by decide) kt) ?_
        show Goes p.tables e below _ (s₁.setTop (mkF m 63 #[.val (.int p0), .val (.int m1), .val (.int m4), .unset, .unset] [(.int (1 : Int32))]))
        exact KK _ (by rw [if_neg hc10, if_neg hc11])
  intro m9 hm9
  show Goes p.tables e below _ (s₁.setTop (mkF m 63 #[.val (.int p0), .val (.int m1), .val (.int m4), .unset, .unset] [(.int m9)]))
  refine go (fun t kt => XS.istoreN X0.here hx rfl (hb hby d2_63) rfl (l' := #[.val (.int p0), .val (.int m1), .val (.int m4), .val (.int m9), .unset]) rfl kt) ?_
  show Goes p.tables e below _ (s₁.setTop (mkF m 64 #[.val (.int p0), .val (.int m1), .val (.int m4), .val (.int m9), .unset] []))
  refine go (fun t kt => XS.iloadN X0.here hx rfl (hb hby d2_64) rfl kt) ?_
  show Goes p.tables e below _ (s₁.setTop (mkF m 65 #[.val (.int p0), .val (.int m1), .val (.int m4), .val (.int m9), .unset] [(.int p0)]))
  refine go (X0.ldcInt hx hown (mvT hZ (hw _ (List.mem_of_getElem? (i := 6) rfl))) (g := (mkF m 65 #[.val (.int p0), .val (.int m1), .val (.int m4), .val (.int m9), .unset] [(.int p0)])) rfl (hb hby d2_65)) ?_
  show Goes p.tables e below _ (s₁.setTop (mkF m 67 #[.val (.int p0), .val (.int m1), .val (.int m4), .val (.int m9), .unset] [(.int (65534 : Int32)), (.int p0)]))
  suffices KK : ∀ (m12 : Int32), m12 = (if p0 = (65534 : Int32) then (1 : Int32) else (if p0 = (65535 : Int32) then (1 : Int32) else (0 : Int32))) → Goes p.tables e below (fun s₂ o => ∃ v L, o = .returned v ∧ Q2 Z p0 h0 n0 v s₂.heap L ∧ FrameEnd s o s₂ L ({ frames := 0, cells := 0, slots := 0, locals := 0 } : Room).cells ({ frames := 0, cells := 0, slots := 0, locals := 0 } : Room).slots) (s₁.setTop (mkF m 81 #[.val (.int p0), .val (.int m1), .val (.int m4), .val (.int m9), .unset] [(.int m12)])) by
    by_cases hc13 : p0 = (65534 : Int32)
    ·
      refine go (fun t kt => XS.icmpYes X0.here hx rfl (pc0 := 67) (pc' := 76) rfl (hb hby d2_67) rfl (teq hc13).1 (by decide) (by decide) kt) ?_
      show Goes p.tables e below _ (s₁.setTop (mkF m 76 #[.val (.int p0), .val (.int m1), .val (.int m4), .val (.int m9), .unset] []))
      refine go (fun t kt => XS.iconst X0.here hx rfl (hb hby d2_76) kt) ?_
      show Goes p.tables e below _ (s₁.setTop (mkF m 77 #[.val (.int p0), .val (.int m1), .val (.int m4), .val (.int m9), .unset] [(.int (1 : Int32))]))
      refine go (fun t kt => XS.goto X0.here hx rfl (pc0 := 77) (pc' := 81) rfl (hb hby d2_77) (by decide) (by decide) kt) ?_
      show Goes p.tables e below _ (s₁.setTop (mkF m 81 #[.val (.int p0), .val (.int m1), .val (.int m4), .val (.int m9), .unset] [(.int (1 : Int32))]))
      exact KK _ (by rw [if_pos hc13])
    ·
      refine go (fun t kt => XS.icmpNo X0.here hx rfl (hb hby d2_67) rfl (feq hc13).1 kt) ?_
      show Goes p.tables e below _ (s₁.setTop (mkF m 70 #[.val (.int p0), .val (.int m1), .val (.int m4), .val (.int m9), .unset] []))
      refine go (fun t kt => XS.iloadN X0.here hx rfl (hb hby d2_70) rfl kt) ?_
      show Goes p.tables e below _ (s₁.setTop (mkF m 71 #[.val (.int p0), .val (.int m1), .val (.int m4), .val (.int m9), .unset] [(.int p0)]))
      refine go (X0.ldcInt hx hown (mvT hZ (hw _ (List.mem_of_getElem? (i := 20) rfl))) (g := (mkF m 71 #[.val (.int p0), .val (.int m1), .val (.int m4), .val (.int m9), .unset] [(.int p0)])) rfl (hb hby d2_71)) ?_
      show Goes p.tables e below _ (s₁.setTop (mkF m 73 #[.val (.int p0), .val (.int m1), .val (.int m4), .val (.int m9), .unset] [(.int (65535 : Int32)), (.int p0)]))
      by_cases hc14 : p0 = (65535 : Int32)
      ·
        refine go (fun t kt => XS.icmpNo X0.here hx rfl (hb hby d2_73) rfl (teq hc14).2 kt) ?_
        show Goes p.tables e below _ (s₁.setTop (mkF m 76 #[.val (.int p0), .val (.int m1), .val (.int m4), .val (.int m9), .unset] []))
        refine go (fun t kt => XS.iconst X0.here hx rfl (hb hby d2_76) kt) ?_
        show Goes p.tables e below _ (s₁.setTop (mkF m 77 #[.val (.int p0), .val (.int m1), .val (.int m4), .val (.int m9), .unset] [(.int (1 : Int32))]))
        refine go (fun t kt => XS.goto X0.here hx rfl (pc0 := 77) (pc' := 81) rfl (hb hby d2_77) (by decide) (by decide) kt) ?_
        show Goes p.tables e below _ (s₁.setTop (mkF m 81 #[.val (.int p0), .val (.int m1), .val (.int m4), .val (.int m9), .unset] [(.int (1 : Int32))]))
        exact KK _ (by rw [if_neg hc13, if_pos hc14])
      ·
        refine go (fun t kt => XS.icmpYes X0.here hx rfl (pc0 := 73) (pc' := 80) rfl (hb hby d2_73) rfl (feq hc14).2 (by decide) (by decide) kt) ?_
        show Goes p.tables e below _ (s₁.setTop (mkF m 80 #[.val (.int p0), .val (.int m1), .val (.int m4), .val (.int m9), .unset] []))
        refine go (fun t kt => XS.iconst X0.here hx rfl (hb hby d2_80) kt) ?_
        show Goes p.tables e below _ (s₁.setTop (mkF m 81 #[.val (.int p0), .val (.int m1), .val (.int m4), .val (.int m9), .unset] [(.int (0 : Int32))]))
        exact KK _ (by rw [if_neg hc13, if_neg hc14])
  intro m12 hm12
  show Goes p.tables e below _ (s₁.setTop (mkF m 81 #[.val (.int p0), .val (.int m1), .val (.int m4), .val (.int m9), .unset] [(.int m12)]))
  refine go (fun t kt => XS.istore X0.here hx rfl (hb hby d2_81) rfl (l' := #[.val (.int p0), .val (.int m1), .val (.int m4), .val (.int m9), .val (.int m12)]) rfl kt) ?_
  show Goes p.tables e below _ (s₁.setTop (mkF m 83 #[.val (.int p0), .val (.int m1), .val (.int m4), .val (.int m9), .val (.int m12)] []))
  refine go (fun t kt => XS.iloadN X0.here hx rfl (hb hby d2_83) rfl kt) ?_
  show Goes p.tables e below _ (s₁.setTop (mkF m 84 #[.val (.int p0), .val (.int m1), .val (.int m4), .val (.int m9), .val (.int m12)] [(.int m1)]))
  by_cases hc15 : m1 = (0 : Int32)
  ·
    refine go (fun t kt => XS.ifYes X0.here hx rfl (pc0 := 84) (pc' := 104) rfl (hb hby d2_84) rfl ((if0 _ _).trans (teq hc15).1) (by decide) (by decide) kt) ?_
    show Goes p.tables e below _ (s₁.setTop (mkF m 104 #[.val (.int p0), .val (.int m1), .val (.int m4), .val (.int m9), .val (.int m12)] []))
    refine go (fun t kt => XS.iconst X0.here hx rfl (hb hby d2_104) kt) ?_
    show Goes p.tables e below _ (s₁.setTop (mkF m 105 #[.val (.int p0), .val (.int m1), .val (.int m4), .val (.int m9), .val (.int m12)] [(.int (0 : Int32))]))
    obtain ⟨fs, hr, hrun, hended, hW, hsame⟩ := X0.leave (v := some (.int (0 : Int32))) (fun h => by rw [Bd.returns] at h; cases h)
    refine ⟨_, _, retN X0 hx (t := .boolean) Bd.returns (by simp) (hb hby d2_105) hr, hrun, hended, _, _, rfl, ?_, ⟨_, rfl⟩, hW, hsame.mono (by decide) (by decide)⟩
    show Q2 Z p0 h0 n0 _ s₁.heap _
    rw [e0]
    subst hm1 hm4 hm9 hm12
    exact ⟨(by unfold own_exp; rw [if_pos hc15]), N0, rfl⟩
  ·
    refine go (fun t kt => XS.ifNo X0.here hx rfl (hb hby d2_84) rfl ((if0 _ _).trans (feq hc15).1) kt) ?_
    show Goes p.tables e below _ (s₁.setTop (mkF m 87 #[.val (.int p0), .val (.int m1), .val (.int m4), .val (.int m9), .val (.int m12)] []))
    refine go (fun t kt => XS.iloadN X0.here hx rfl (hb hby d2_87) rfl kt) ?_
    show Goes p.tables e below _ (s₁.setTop (mkF m 88 #[.val (.int p0), .val (.int m1), .val (.int m4), .val (.int m9), .val (.int m12)] [(.int m4)]))
    by_cases hc17 : m4 = (0 : Int32)
    ·
      refine go (fun t kt => XS.ifNo X0.here hx rfl (hb hby d2_88) rfl ((if0 _ _).trans (teq hc17).2) kt) ?_
      show Goes p.tables e below _ (s₁.setTop (mkF m 91 #[.val (.int p0), .val (.int m1), .val (.int m4), .val (.int m9), .val (.int m12)] []))
      refine go (fun t kt => XS.iloadN X0.here hx rfl (hb hby d2_91) rfl kt) ?_
      show Goes p.tables e below _ (s₁.setTop (mkF m 92 #[.val (.int p0), .val (.int m1), .val (.int m4), .val (.int m9), .val (.int m12)] [(.int m9)]))
      by_cases hc18 : m9 = (0 : Int32)
      ·
        refine go (fun t kt => XS.ifNo X0.here hx rfl (hb hby d2_92) rfl ((if0 _ _).trans (teq hc18).2) kt) ?_
        show Goes p.tables e below _ (s₁.setTop (mkF m 95 #[.val (.int p0), .val (.int m1), .val (.int m4), .val (.int m9), .val (.int m12)] []))
        refine go (fun t kt => XS.iload X0.here hx rfl (hb hby d2_95) rfl kt) ?_
        show Goes p.tables e below _ (s₁.setTop (mkF m 97 #[.val (.int p0), .val (.int m1), .val (.int m4), .val (.int m9), .val (.int m12)] [(.int m12)]))
        by_cases hc19 : m12 = (0 : Int32)
        ·
          refine go (fun t kt => XS.ifNo X0.here hx rfl (hb hby d2_97) rfl ((if0 _ _).trans (teq hc19).2) kt) ?_
          show Goes p.tables e below _ (s₁.setTop (mkF m 100 #[.val (.int p0), .val (.int m1), .val (.int m4), .val (.int m9), .val (.int m12)] []))
          refine go (fun t kt => XS.iconst X0.here hx rfl (hb hby d2_100) kt) ?_
          show Goes p.tables e below _ (s₁.setTop (mkF m 101 #[.val (.int p0), .val (.int m1), .val (.int m4), .val (.int m9), .val (.int m12)] [(.int (1 : Int32))]))
          refine go (fun t kt => XS.goto X0.here hx rfl (pc0 := 101) (pc' := 105) rfl (hb hby d2_101) (by decide) (by decide) kt) ?_
          show Goes p.tables e below _ (s₁.setTop (mkF m 105 #[.val (.int p0), .val (.int m1), .val (.int m4), .val (.int m9), .val (.int m12)] [(.int (1 : Int32))]))
          obtain ⟨fs, hr, hrun, hended, hW, hsame⟩ := X0.leave (v := some (.int (1 : Int32))) (fun h => by rw [Bd.returns] at h; cases h)
          refine ⟨_, _, retN X0 hx (t := .boolean) Bd.returns (by simp) (hb hby d2_105) hr, hrun, hended, _, _, rfl, ?_, ⟨_, rfl⟩, hW, hsame.mono (by decide) (by decide)⟩
          show Q2 Z p0 h0 n0 _ s₁.heap _
          rw [e0]
          subst hm1 hm4 hm9 hm12
          exact ⟨(by unfold own_exp; rw [if_neg hc15, if_pos hc17, if_pos hc18, if_pos hc19]), N0, rfl⟩
        ·
          refine go (fun t kt => XS.ifYes X0.here hx rfl (pc0 := 97) (pc' := 104) rfl (hb hby d2_97) rfl ((if0 _ _).trans (feq hc19).2) (by decide) (by decide) kt) ?_
          show Goes p.tables e below _ (s₁.setTop (mkF m 104 #[.val (.int p0), .val (.int m1), .val (.int m4), .val (.int m9), .val (.int m12)] []))
          refine go (fun t kt => XS.iconst X0.here hx rfl (hb hby d2_104) kt) ?_
          show Goes p.tables e below _ (s₁.setTop (mkF m 105 #[.val (.int p0), .val (.int m1), .val (.int m4), .val (.int m9), .val (.int m12)] [(.int (0 : Int32))]))
          obtain ⟨fs, hr, hrun, hended, hW, hsame⟩ := X0.leave (v := some (.int (0 : Int32))) (fun h => by rw [Bd.returns] at h; cases h)
          refine ⟨_, _, retN X0 hx (t := .boolean) Bd.returns (by simp) (hb hby d2_105) hr, hrun, hended, _, _, rfl, ?_, ⟨_, rfl⟩, hW, hsame.mono (by decide) (by decide)⟩
          show Q2 Z p0 h0 n0 _ s₁.heap _
          rw [e0]
          subst hm1 hm4 hm9 hm12
          exact ⟨(by unfold own_exp; rw [if_neg hc15, if_pos hc17, if_pos hc18, if_neg hc19]), N0, rfl⟩
      ·
        refine go (fun t kt => XS.ifYes X0.here hx rfl (pc0 := 92) (pc' := 104) rfl (hb hby d2_92) rfl ((if0 _ _).trans (feq hc18).2) (by decide) (by decide) kt) ?_
        show Goes p.tables e below _ (s₁.setTop (mkF m 104 #[.val (.int p0), .val (.int m1), .val (.int m4), .val (.int m9), .val (.int m12)] []))
        refine go (fun t kt => XS.iconst X0.here hx rfl (hb hby d2_104) kt) ?_
        show Goes p.tables e below _ (s₁.setTop (mkF m 105 #[.val (.int p0), .val (.int m1), .val (.int m4), .val (.int m9), .val (.int m12)] [(.int (0 : Int32))]))
        obtain ⟨fs, hr, hrun, hended, hW, hsame⟩ := X0.leave (v := some (.int (0 : Int32))) (fun h => by rw [Bd.returns] at h; cases h)
        refine ⟨_, _, retN X0 hx (t := .boolean) Bd.returns (by simp) (hb hby d2_105) hr, hrun, hended, _, _, rfl, ?_, ⟨_, rfl⟩, hW, hsame.mono (by decide) (by decide)⟩
        show Q2 Z p0 h0 n0 _ s₁.heap _
        rw [e0]
        subst hm1 hm4 hm9 hm12
        exact ⟨(by unfold own_exp; rw [if_neg hc15, if_pos hc17, if_neg hc18]), N0, rfl⟩
    ·
      refine go (fun t kt => XS.ifYes X0.here hx rfl (pc0 := 88) (pc' := 104) rfl (hb hby d2_88) rfl ((if0 _ _).trans (feq hc17).2) (by decide) (by decide) kt) ?_
      show Goes p.tables e below _ (s₁.setTop (mkF m 104 #[.val (.int p0), .val (.int m1), .val (.int m4), .val (.int m9), .val (.int m12)] []))
      refine go (fun t kt => XS.iconst X0.here hx rfl (hb hby d2_104) kt) ?_
      show Goes p.tables e below _ (s₁.setTop (mkF m 105 #[.val (.int p0), .val (.int m1), .val (.int m4), .val (.int m9), .val (.int m12)] [(.int (0 : Int32))]))
      obtain ⟨fs, hr, hrun, hended, hW, hsame⟩ := X0.leave (v := some (.int (0 : Int32))) (fun h => by rw [Bd.returns] at h; cases h)
      refine ⟨_, _, retN X0 hx (t := .boolean) Bd.returns (by simp) (hb hby d2_105) hr, hrun, hended, _, _, rfl, ?_, ⟨_, rfl⟩, hW, hsame.mono (by decide) (by decide)⟩
      show Q2 Z p0 h0 n0 _ s₁.heap _
      rw [e0]
      subst hm1 hm4 hm9 hm12
      exact ⟨(by unfold own_exp; rw [if_neg hc15, if_neg hc17]), N0, rfl⟩
def own_list : List Int32 := [0, 9, 10, 13, 32, 55295, 55296, 57343, 57344, 65533, 65534, 65536, 1114111, 1114112, -2147483648, 2147483647]
def own_at (n : Nat) : Int32 := own_list.getD n 0
theorem own_hat (n : Nat) : ([(.int (0 : Int32)), (.int (9 : Int32)), (.int (10 : Int32)), (.int (13 : Int32)), (.int (32 : Int32)), (.int (55295 : Int32)), (.int (55296 : Int32)), (.int (57343 : Int32)), (.int (57344 : Int32)), (.int (65533 : Int32)), (.int (65534 : Int32)), (.int (65536 : Int32)), (.int (1114111 : Int32)), (.int (1114112 : Int32)), (.int (-2147483648 : Int32)), (.int (2147483647 : Int32))] : List Value).getD n (.int (0 : Int32)) = .int (own_at n) := by
  show (own_list.map Value.int).getD n (Value.int 0) = .int (own_list.getD n 0)
  simp only [List.getD_eq_getElem?_getD, List.getElem?_map]
  cases own_list[n]? <;> rfl
theorem own_idx (x : Int32) : ¬ (x &&& 15) < 0 ∧ (x &&& 15) < 16 := by
  have e := Jvm.Kit.i32_mask x 15 (k := 4) (by decide) (by decide)
  have e0 : (0 : Int32).toInt = 0 := rfl
  have e1 : (16 : Int32).toInt = 16 := rfl
  rw [Int32.lt_iff_toInt_lt, Int32.lt_iff_toInt_lt, e, e0, e1]
  omega
set_option maxHeartbeats 4000000 in
theorem own_same (c : Int32) : own_isChar c = own_exp c := by
  have k0 : (0 : Int32).toInt = 0 := rfl
  have k1 : (1 : Int32).toInt = 1 := rfl
  have k2 : (9 : Int32).toInt = 9 := rfl
  have k3 : (10 : Int32).toInt = 10 := rfl
  have k4 : (13 : Int32).toInt = 13 := rfl
  have k5 : (32 : Int32).toInt = 32 := rfl
  have k6 : (55295 : Int32).toInt = 55295 := rfl
  have k7 : (55296 : Int32).toInt = 55296 := rfl
  have k8 : (57343 : Int32).toInt = 57343 := rfl
  have k9 : (57344 : Int32).toInt = 57344 := rfl
  have k10 : (65533 : Int32).toInt = 65533 := rfl
  have k11 : (65534 : Int32).toInt = 65534 := rfl
  have k12 : (65535 : Int32).toInt = 65535 := rfl
  have k13 : (65536 : Int32).toInt = 65536 := rfl
  have k14 : (1114111 : Int32).toInt = 1114111 := rfl
  have n10 : ¬ (1 : Int32) = 0 := by decide
  have hr : (c.toInt < 0) ∨ (0 ≤ c.toInt ∧ c.toInt < 9) ∨ (9 ≤ c.toInt ∧ c.toInt < 10) ∨ (10 ≤ c.toInt ∧ c.toInt < 11) ∨ (11 ≤ c.toInt ∧ c.toInt < 13) ∨ (13 ≤ c.toInt ∧ c.toInt < 14) ∨ (14 ≤ c.toInt ∧ c.toInt < 32) ∨ (32 ≤ c.toInt ∧ c.toInt < 55296) ∨ (55296 ≤ c.toInt ∧ c.toInt < 57344) ∨ (57344 ≤ c.toInt ∧ c.toInt < 65534) ∨ (65534 ≤ c.toInt ∧ c.toInt < 65535) ∨ (65535 ≤ c.toInt ∧ c.toInt < 65536) ∨ (65536 ≤ c.toInt ∧ c.toInt < 1114112) ∨ (1114112 ≤ c.toInt) := by omega
  rcases hr with hr | hr | hr | hr | hr | hr | hr | hr | hr | hr | hr | hr | hr | hr
  ·
    have a0 : ¬ ((1114111 : Int32) < c) := by rw [Int32.lt_iff_toInt_lt]; omega
    have a1 : ¬ ((55295 : Int32) < c) := by rw [Int32.lt_iff_toInt_lt]; omega
    have a2 : ¬ ((57343 : Int32) < c) := by rw [Int32.lt_iff_toInt_lt]; omega
    have a3 : ¬ ((65533 : Int32) < c) := by rw [Int32.lt_iff_toInt_lt]; omega
    have a4 : c < (0 : Int32) := by rw [Int32.lt_iff_toInt_lt]; omega
    have a5 : c < (32 : Int32) := by rw [Int32.lt_iff_toInt_lt]; omega
    have a6 : c < (55296 : Int32) := by rw [Int32.lt_iff_toInt_lt]; omega
    have a7 : c < (57344 : Int32) := by rw [Int32.lt_iff_toInt_lt]; omega
    have a8 : c < (65536 : Int32) := by rw [Int32.lt_iff_toInt_lt]; omega
    have a9 : ¬ (c = (10 : Int32)) := by rw [← Int32.toInt_inj]; omega
    have a10 : ¬ (c = (13 : Int32)) := by rw [← Int32.toInt_inj]; omega
    have a11 : ¬ (c = (65534 : Int32)) := by rw [← Int32.toInt_inj]; omega
    have a12 : ¬ (c = (65535 : Int32)) := by rw [← Int32.toInt_inj]; omega
    have a13 : ¬ (c = (9 : Int32)) := by rw [← Int32.toInt_inj]; omega
    simp only [own_isChar, own_exp, eq_false a0, eq_false a1, eq_false a2, eq_false a3, eq_true a4, eq_true a5, eq_true a6, eq_true a7, eq_true a8, eq_false a9, eq_false a10, eq_false a11, eq_false a12, eq_false a13, if_true, if_false, eq_false n10]
  ·
    have a0 : ¬ ((1114111 : Int32) < c) := by rw [Int32.lt_iff_toInt_lt]; omega
    have a1 : ¬ ((55295 : Int32) < c) := by rw [Int32.lt_iff_toInt_lt]; omega
    have a2 : ¬ ((57343 : Int32) < c) := by rw [Int32.lt_iff_toInt_lt]; omega
    have a3 : ¬ ((65533 : Int32) < c) := by rw [Int32.lt_iff_toInt_lt]; omega
    have a4 : ¬ (c < (0 : Int32)) := by rw [Int32.lt_iff_toInt_lt]; omega
    have a5 : c < (32 : Int32) := by rw [Int32.lt_iff_toInt_lt]; omega
    have a6 : c < (55296 : Int32) := by rw [Int32.lt_iff_toInt_lt]; omega
    have a7 : c < (57344 : Int32) := by rw [Int32.lt_iff_toInt_lt]; omega
    have a8 : c < (65536 : Int32) := by rw [Int32.lt_iff_toInt_lt]; omega
    have a9 : ¬ (c = (10 : Int32)) := by rw [← Int32.toInt_inj]; omega
    have a10 : ¬ (c = (13 : Int32)) := by rw [← Int32.toInt_inj]; omega
    have a11 : ¬ (c = (65534 : Int32)) := by rw [← Int32.toInt_inj]; omega
    have a12 : ¬ (c = (65535 : Int32)) := by rw [← Int32.toInt_inj]; omega
    have a13 : ¬ (c = (9 : Int32)) := by rw [← Int32.toInt_inj]; omega
    simp only [own_isChar, own_exp, eq_false a0, eq_false a1, eq_false a2, eq_false a3, eq_false a4, eq_true a5, eq_true a6, eq_true a7, eq_true a8, eq_false a9, eq_false a10, eq_false a11, eq_false a12, eq_false a13, if_true, if_false, eq_false n10]
  ·
    have a0 : ¬ ((1114111 : Int32) < c) := by rw [Int32.lt_iff_toInt_lt]; omega
    have a1 : ¬ ((55295 : Int32) < c) := by rw [Int32.lt_iff_toInt_lt]; omega
    have a2 : ¬ ((57343 : Int32) < c) := by rw [Int32.lt_iff_toInt_lt]; omega
    have a3 : ¬ ((65533 : Int32) < c) := by rw [Int32.lt_iff_toInt_lt]; omega
    have a4 : ¬ (c < (0 : Int32)) := by rw [Int32.lt_iff_toInt_lt]; omega
    have a5 : c < (32 : Int32) := by rw [Int32.lt_iff_toInt_lt]; omega
    have a6 : c < (55296 : Int32) := by rw [Int32.lt_iff_toInt_lt]; omega
    have a7 : c < (57344 : Int32) := by rw [Int32.lt_iff_toInt_lt]; omega
    have a8 : c < (65536 : Int32) := by rw [Int32.lt_iff_toInt_lt]; omega
    have a9 : ¬ (c = (10 : Int32)) := by rw [← Int32.toInt_inj]; omega
    have a10 : ¬ (c = (13 : Int32)) := by rw [← Int32.toInt_inj]; omega
    have a11 : ¬ (c = (65534 : Int32)) := by rw [← Int32.toInt_inj]; omega
    have a12 : ¬ (c = (65535 : Int32)) := by rw [← Int32.toInt_inj]; omega
    have a13 : c = (9 : Int32) := by rw [← Int32.toInt_inj]; omega
    simp only [own_isChar, own_exp, eq_false a0, eq_false a1, eq_false a2, eq_false a3, eq_false a4, eq_true a5, eq_true a6, eq_true a7, eq_true a8, eq_false a9, eq_false a10, eq_false a11, eq_false a12, eq_true a13, if_true, if_false, eq_false n10]
  ·
    have a0 : ¬ ((1114111 : Int32) < c) := by rw [Int32.lt_iff_toInt_lt]; omega
    have a1 : ¬ ((55295 : Int32) < c) := by rw [Int32.lt_iff_toInt_lt]; omega
    have a2 : ¬ ((57343 : Int32) < c) := by rw [Int32.lt_iff_toInt_lt]; omega
    have a3 : ¬ ((65533 : Int32) < c) := by rw [Int32.lt_iff_toInt_lt]; omega
    have a4 : ¬ (c < (0 : Int32)) := by rw [Int32.lt_iff_toInt_lt]; omega
    have a5 : c < (32 : Int32) := by rw [Int32.lt_iff_toInt_lt]; omega
    have a6 : c < (55296 : Int32) := by rw [Int32.lt_iff_toInt_lt]; omega
    have a7 : c < (57344 : Int32) := by rw [Int32.lt_iff_toInt_lt]; omega
    have a8 : c < (65536 : Int32) := by rw [Int32.lt_iff_toInt_lt]; omega
    have a9 : c = (10 : Int32) := by rw [← Int32.toInt_inj]; omega
    have a10 : ¬ (c = (13 : Int32)) := by rw [← Int32.toInt_inj]; omega
    have a11 : ¬ (c = (65534 : Int32)) := by rw [← Int32.toInt_inj]; omega
    have a12 : ¬ (c = (65535 : Int32)) := by rw [← Int32.toInt_inj]; omega
    have a13 : ¬ (c = (9 : Int32)) := by rw [← Int32.toInt_inj]; omega
    simp only [own_isChar, own_exp, eq_false a0, eq_false a1, eq_false a2, eq_false a3, eq_false a4, eq_true a5, eq_true a6, eq_true a7, eq_true a8, eq_true a9, eq_false a10, eq_false a11, eq_false a12, eq_false a13, if_true, if_false, eq_false n10]
  ·
    have a0 : ¬ ((1114111 : Int32) < c) := by rw [Int32.lt_iff_toInt_lt]; omega
    have a1 : ¬ ((55295 : Int32) < c) := by rw [Int32.lt_iff_toInt_lt]; omega
    have a2 : ¬ ((57343 : Int32) < c) := by rw [Int32.lt_iff_toInt_lt]; omega
    have a3 : ¬ ((65533 : Int32) < c) := by rw [Int32.lt_iff_toInt_lt]; omega
    have a4 : ¬ (c < (0 : Int32)) := by rw [Int32.lt_iff_toInt_lt]; omega
    have a5 : c < (32 : Int32) := by rw [Int32.lt_iff_toInt_lt]; omega
    have a6 : c < (55296 : Int32) := by rw [Int32.lt_iff_toInt_lt]; omega
    have a7 : c < (57344 : Int32) := by rw [Int32.lt_iff_toInt_lt]; omega
    have a8 : c < (65536 : Int32) := by rw [Int32.lt_iff_toInt_lt]; omega
    have a9 : ¬ (c = (10 : Int32)) := by rw [← Int32.toInt_inj]; omega
    have a10 : ¬ (c = (13 : Int32)) := by rw [← Int32.toInt_inj]; omega
    have a11 : ¬ (c = (65534 : Int32)) := by rw [← Int32.toInt_inj]; omega
    have a12 : ¬ (c = (65535 : Int32)) := by rw [← Int32.toInt_inj]; omega
    have a13 : ¬ (c = (9 : Int32)) := by rw [← Int32.toInt_inj]; omega
    simp only [own_isChar, own_exp, eq_false a0, eq_false a1, eq_false a2, eq_false a3, eq_false a4, eq_true a5, eq_true a6, eq_true a7, eq_true a8, eq_false a9, eq_false a10, eq_false a11, eq_false a12, eq_false a13, if_true, if_false, eq_false n10]
  ·
    have a0 : ¬ ((1114111 : Int32) < c) := by rw [Int32.lt_iff_toInt_lt]; omega
    have a1 : ¬ ((55295 : Int32) < c) := by rw [Int32.lt_iff_toInt_lt]; omega
    have a2 : ¬ ((57343 : Int32) < c) := by rw [Int32.lt_iff_toInt_lt]; omega
    have a3 : ¬ ((65533 : Int32) < c) := by rw [Int32.lt_iff_toInt_lt]; omega
    have a4 : ¬ (c < (0 : Int32)) := by rw [Int32.lt_iff_toInt_lt]; omega
    have a5 : c < (32 : Int32) := by rw [Int32.lt_iff_toInt_lt]; omega
    have a6 : c < (55296 : Int32) := by rw [Int32.lt_iff_toInt_lt]; omega
    have a7 : c < (57344 : Int32) := by rw [Int32.lt_iff_toInt_lt]; omega
    have a8 : c < (65536 : Int32) := by rw [Int32.lt_iff_toInt_lt]; omega
    have a9 : ¬ (c = (10 : Int32)) := by rw [← Int32.toInt_inj]; omega
    have a10 : c = (13 : Int32) := by rw [← Int32.toInt_inj]; omega
    have a11 : ¬ (c = (65534 : Int32)) := by rw [← Int32.toInt_inj]; omega
    have a12 : ¬ (c = (65535 : Int32)) := by rw [← Int32.toInt_inj]; omega
    have a13 : ¬ (c = (9 : Int32)) := by rw [← Int32.toInt_inj]; omega
    simp only [own_isChar, own_exp, eq_false a0, eq_false a1, eq_false a2, eq_false a3, eq_false a4, eq_true a5, eq_true a6, eq_true a7, eq_true a8, eq_false a9, eq_true a10, eq_false a11, eq_false a12, eq_false a13, if_true, if_false, eq_false n10]
  ·
    have a0 : ¬ ((1114111 : Int32) < c) := by rw [Int32.lt_iff_toInt_lt]; omega
    have a1 : ¬ ((55295 : Int32) < c) := by rw [Int32.lt_iff_toInt_lt]; omega
    have a2 : ¬ ((57343 : Int32) < c) := by rw [Int32.lt_iff_toInt_lt]; omega
    have a3 : ¬ ((65533 : Int32) < c) := by rw [Int32.lt_iff_toInt_lt]; omega
    have a4 : ¬ (c < (0 : Int32)) := by rw [Int32.lt_iff_toInt_lt]; omega
    have a5 : c < (32 : Int32) := by rw [Int32.lt_iff_toInt_lt]; omega
    have a6 : c < (55296 : Int32) := by rw [Int32.lt_iff_toInt_lt]; omega
    have a7 : c < (57344 : Int32) := by rw [Int32.lt_iff_toInt_lt]; omega
    have a8 : c < (65536 : Int32) := by rw [Int32.lt_iff_toInt_lt]; omega
    have a9 : ¬ (c = (10 : Int32)) := by rw [← Int32.toInt_inj]; omega
    have a10 : ¬ (c = (13 : Int32)) := by rw [← Int32.toInt_inj]; omega
    have a11 : ¬ (c = (65534 : Int32)) := by rw [← Int32.toInt_inj]; omega
    have a12 : ¬ (c = (65535 : Int32)) := by rw [← Int32.toInt_inj]; omega
    have a13 : ¬ (c = (9 : Int32)) := by rw [← Int32.toInt_inj]; omega
    simp only [own_isChar, own_exp, eq_false a0, eq_false a1, eq_false a2, eq_false a3, eq_false a4, eq_true a5, eq_true a6, eq_true a7, eq_true a8, eq_false a9, eq_false a10, eq_false a11, eq_false a12, eq_false a13, if_true, if_false, eq_false n10]
  ·
    have a0 : ¬ ((1114111 : Int32) < c) := by rw [Int32.lt_iff_toInt_lt]; omega
    have a1 : ¬ ((55295 : Int32) < c) := by rw [Int32.lt_iff_toInt_lt]; omega
    have a2 : ¬ ((57343 : Int32) < c) := by rw [Int32.lt_iff_toInt_lt]; omega
    have a3 : ¬ ((65533 : Int32) < c) := by rw [Int32.lt_iff_toInt_lt]; omega
    have a4 : ¬ (c < (0 : Int32)) := by rw [Int32.lt_iff_toInt_lt]; omega
    have a5 : ¬ (c < (32 : Int32)) := by rw [Int32.lt_iff_toInt_lt]; omega
    have a6 : c < (55296 : Int32) := by rw [Int32.lt_iff_toInt_lt]; omega
    have a7 : c < (57344 : Int32) := by rw [Int32.lt_iff_toInt_lt]; omega
    have a8 : c < (65536 : Int32) := by rw [Int32.lt_iff_toInt_lt]; omega
    have a9 : ¬ (c = (10 : Int32)) := by rw [← Int32.toInt_inj]; omega
    have a10 : ¬ (c = (13 : Int32)) := by rw [← Int32.toInt_inj]; omega
    have a11 : ¬ (c = (65534 : Int32)) := by rw [← Int32.toInt_inj]; omega
    have a12 : ¬ (c = (65535 : Int32)) := by rw [← Int32.toInt_inj]; omega
    have a13 : ¬ (c = (9 : Int32)) := by rw [← Int32.toInt_inj]; omega
    simp only [own_isChar, own_exp, eq_false a0, eq_false a1, eq_false a2, eq_false a3, eq_false a4, eq_false a5, eq_true a6, eq_true a7, eq_true a8, eq_false a9, eq_false a10, eq_false a11, eq_false a12, eq_false a13, if_true, if_false, eq_false n10]
  ·
    have a0 : ¬ ((1114111 : Int32) < c) := by rw [Int32.lt_iff_toInt_lt]; omega
    have a1 : (55295 : Int32) < c := by rw [Int32.lt_iff_toInt_lt]; omega
    have a2 : ¬ ((57343 : Int32) < c) := by rw [Int32.lt_iff_toInt_lt]; omega
    have a3 : ¬ ((65533 : Int32) < c) := by rw [Int32.lt_iff_toInt_lt]; omega
    have a4 : ¬ (c < (0 : Int32)) := by rw [Int32.lt_iff_toInt_lt]; omega
    have a5 : ¬ (c < (32 : Int32)) := by rw [Int32.lt_iff_toInt_lt]; omega
    have a6 : ¬ (c < (55296 : Int32)) := by rw [Int32.lt_iff_toInt_lt]; omega
    have a7 : c < (57344 : Int32) := by rw [Int32.lt_iff_toInt_lt]; omega
    have a8 : c < (65536 : Int32) := by rw [Int32.lt_iff_toInt_lt]; omega
    have a9 : ¬ (c = (10 : Int32)) := by rw [← Int32.toInt_inj]; omega
    have a10 : ¬ (c = (13 : Int32)) := by rw [← Int32.toInt_inj]; omega
    have a11 : ¬ (c = (65534 : Int32)) := by rw [← Int32.toInt_inj]; omega
    have a12 : ¬ (c = (65535 : Int32)) := by rw [← Int32.toInt_inj]; omega
    have a13 : ¬ (c = (9 : Int32)) := by rw [← Int32.toInt_inj]; omega
    simp only [own_isChar, own_exp, eq_false a0, eq_true a1, eq_false a2, eq_false a3, eq_false a4, eq_false a5, eq_false a6, eq_true a7, eq_true a8, eq_false a9, eq_false a10, eq_false a11, eq_false a12, eq_false a13, if_true, if_false, eq_false n10]
  ·
    have a0 : ¬ ((1114111 : Int32) < c) := by rw [Int32.lt_iff_toInt_lt]; omega
    have a1 : (55295 : Int32) < c := by rw [Int32.lt_iff_toInt_lt]; omega
    have a2 : (57343 : Int32) < c := by rw [Int32.lt_iff_toInt_lt]; omega
    have a3 : ¬ ((65533 : Int32) < c) := by rw [Int32.lt_iff_toInt_lt]; omega
    have a4 : ¬ (c < (0 : Int32)) := by rw [Int32.lt_iff_toInt_lt]; omega
    have a5 : ¬ (c < (32 : Int32)) := by rw [Int32.lt_iff_toInt_lt]; omega
    have a6 : ¬ (c < (55296 : Int32)) := by rw [Int32.lt_iff_toInt_lt]; omega
    have a7 : ¬ (c < (57344 : Int32)) := by rw [Int32.lt_iff_toInt_lt]; omega
    have a8 : c < (65536 : Int32) := by rw [Int32.lt_iff_toInt_lt]; omega
    have a9 : ¬ (c = (10 : Int32)) := by rw [← Int32.toInt_inj]; omega
    have a10 : ¬ (c = (13 : Int32)) := by rw [← Int32.toInt_inj]; omega
    have a11 : ¬ (c = (65534 : Int32)) := by rw [← Int32.toInt_inj]; omega
    have a12 : ¬ (c = (65535 : Int32)) := by rw [← Int32.toInt_inj]; omega
    have a13 : ¬ (c = (9 : Int32)) := by rw [← Int32.toInt_inj]; omega
    simp only [own_isChar, own_exp, eq_false a0, eq_true a1, eq_true a2, eq_false a3, eq_false a4, eq_false a5, eq_false a6, eq_false a7, eq_true a8, eq_false a9, eq_false a10, eq_false a11, eq_false a12, eq_false a13, if_true, if_false, eq_false n10]
  ·
    have a0 : ¬ ((1114111 : Int32) < c) := by rw [Int32.lt_iff_toInt_lt]; omega
    have a1 : (55295 : Int32) < c := by rw [Int32.lt_iff_toInt_lt]; omega
    have a2 : (57343 : Int32) < c := by rw [Int32.lt_iff_toInt_lt]; omega
    have a3 : (65533 : Int32) < c := by rw [Int32.lt_iff_toInt_lt]; omega
    have a4 : ¬ (c < (0 : Int32)) := by rw [Int32.lt_iff_toInt_lt]; omega
    have a5 : ¬ (c < (32 : Int32)) := by rw [Int32.lt_iff_toInt_lt]; omega
    have a6 : ¬ (c < (55296 : Int32)) := by rw [Int32.lt_iff_toInt_lt]; omega
    have a7 : ¬ (c < (57344 : Int32)) := by rw [Int32.lt_iff_toInt_lt]; omega
    have a8 : c < (65536 : Int32) := by rw [Int32.lt_iff_toInt_lt]; omega
    have a9 : ¬ (c = (10 : Int32)) := by rw [← Int32.toInt_inj]; omega
    have a10 : ¬ (c = (13 : Int32)) := by rw [← Int32.toInt_inj]; omega
    have a11 : c = (65534 : Int32) := by rw [← Int32.toInt_inj]; omega
    have a12 : ¬ (c = (65535 : Int32)) := by rw [← Int32.toInt_inj]; omega
    have a13 : ¬ (c = (9 : Int32)) := by rw [← Int32.toInt_inj]; omega
    simp only [own_isChar, own_exp, eq_false a0, eq_true a1, eq_true a2, eq_true a3, eq_false a4, eq_false a5, eq_false a6, eq_false a7, eq_true a8, eq_false a9, eq_false a10, eq_true a11, eq_false a12, eq_false a13, if_true, if_false, eq_false n10]
  ·
    have a0 : ¬ ((1114111 : Int32) < c) := by rw [Int32.lt_iff_toInt_lt]; omega
    have a1 : (55295 : Int32) < c := by rw [Int32.lt_iff_toInt_lt]; omega
    have a2 : (57343 : Int32) < c := by rw [Int32.lt_iff_toInt_lt]; omega
    have a3 : (65533 : Int32) < c := by rw [Int32.lt_iff_toInt_lt]; omega
    have a4 : ¬ (c < (0 : Int32)) := by rw [Int32.lt_iff_toInt_lt]; omega
    have a5 : ¬ (c < (32 : Int32)) := by rw [Int32.lt_iff_toInt_lt]; omega
    have a6 : ¬ (c < (55296 : Int32)) := by rw [Int32.lt_iff_toInt_lt]; omega
    have a7 : ¬ (c < (57344 : Int32)) := by rw [Int32.lt_iff_toInt_lt]; omega
    have a8 : c < (65536 : Int32) := by rw [Int32.lt_iff_toInt_lt]; omega
    have a9 : ¬ (c = (10 : Int32)) := by rw [← Int32.toInt_inj]; omega
    have a10 : ¬ (c = (13 : Int32)) := by rw [← Int32.toInt_inj]; omega
    have a11 : ¬ (c = (65534 : Int32)) := by rw [← Int32.toInt_inj]; omega
    have a12 : c = (65535 : Int32) := by rw [← Int32.toInt_inj]; omega
    have a13 : ¬ (c = (9 : Int32)) := by rw [← Int32.toInt_inj]; omega
    simp only [own_isChar, own_exp, eq_false a0, eq_true a1, eq_true a2, eq_true a3, eq_false a4, eq_false a5, eq_false a6, eq_false a7, eq_true a8, eq_false a9, eq_false a10, eq_false a11, eq_true a12, eq_false a13, if_true, if_false, eq_false n10]
  ·
    have a0 : ¬ ((1114111 : Int32) < c) := by rw [Int32.lt_iff_toInt_lt]; omega
    have a1 : (55295 : Int32) < c := by rw [Int32.lt_iff_toInt_lt]; omega
    have a2 : (57343 : Int32) < c := by rw [Int32.lt_iff_toInt_lt]; omega
    have a3 : (65533 : Int32) < c := by rw [Int32.lt_iff_toInt_lt]; omega
    have a4 : ¬ (c < (0 : Int32)) := by rw [Int32.lt_iff_toInt_lt]; omega
    have a5 : ¬ (c < (32 : Int32)) := by rw [Int32.lt_iff_toInt_lt]; omega
    have a6 : ¬ (c < (55296 : Int32)) := by rw [Int32.lt_iff_toInt_lt]; omega
    have a7 : ¬ (c < (57344 : Int32)) := by rw [Int32.lt_iff_toInt_lt]; omega
    have a8 : ¬ (c < (65536 : Int32)) := by rw [Int32.lt_iff_toInt_lt]; omega
    have a9 : ¬ (c = (10 : Int32)) := by rw [← Int32.toInt_inj]; omega
    have a10 : ¬ (c = (13 : Int32)) := by rw [← Int32.toInt_inj]; omega
    have a11 : ¬ (c = (65534 : Int32)) := by rw [← Int32.toInt_inj]; omega
    have a12 : ¬ (c = (65535 : Int32)) := by rw [← Int32.toInt_inj]; omega
    have a13 : ¬ (c = (9 : Int32)) := by rw [← Int32.toInt_inj]; omega
    simp only [own_isChar, own_exp, eq_false a0, eq_true a1, eq_true a2, eq_true a3, eq_false a4, eq_false a5, eq_false a6, eq_false a7, eq_false a8, eq_false a9, eq_false a10, eq_false a11, eq_false a12, eq_false a13, if_true, if_false, eq_false n10]
  ·
    have a0 : (1114111 : Int32) < c := by rw [Int32.lt_iff_toInt_lt]; omega
    have a1 : (55295 : Int32) < c := by rw [Int32.lt_iff_toInt_lt]; omega
    have a2 : (57343 : Int32) < c := by rw [Int32.lt_iff_toInt_lt]; omega
    have a3 : (65533 : Int32) < c := by rw [Int32.lt_iff_toInt_lt]; omega
    have a4 : ¬ (c < (0 : Int32)) := by rw [Int32.lt_iff_toInt_lt]; omega
    have a5 : ¬ (c < (32 : Int32)) := by rw [Int32.lt_iff_toInt_lt]; omega
    have a6 : ¬ (c < (55296 : Int32)) := by rw [Int32.lt_iff_toInt_lt]; omega
    have a7 : ¬ (c < (57344 : Int32)) := by rw [Int32.lt_iff_toInt_lt]; omega
    have a8 : ¬ (c < (65536 : Int32)) := by rw [Int32.lt_iff_toInt_lt]; omega
    have a9 : ¬ (c = (10 : Int32)) := by rw [← Int32.toInt_inj]; omega
    have a10 : ¬ (c = (13 : Int32)) := by rw [← Int32.toInt_inj]; omega
    have a11 : ¬ (c = (65534 : Int32)) := by rw [← Int32.toInt_inj]; omega
    have a12 : ¬ (c = (65535 : Int32)) := by rw [← Int32.toInt_inj]; omega
    have a13 : ¬ (c = (9 : Int32)) := by rw [← Int32.toInt_inj]; omega
    simp only [own_isChar, own_exp, eq_true a0, eq_true a1, eq_true a2, eq_true a3, eq_false a4, eq_false a5, eq_false a6, eq_false a7, eq_false a8, eq_false a9, eq_false a10, eq_false a11, eq_false a12, eq_false a13, if_true, if_false, eq_false n10]
theorem pd_0 : parseMethodDescriptor "(I)Z" = some ⟨[.int], some .boolean⟩ := by decide +kernel
theorem ef_0 (m : MethodId) (p0 : Int32) (p1 : Int32) : entryFrame m #[(.int p0), (.int p1)] maxLocals = mkF m 0 #[.val (.int p0), .val (.int p1), .unset, .unset] [] := by first | (simp [entryFrame, mkF, argsToLocals, Value.category, maxLocals]; done) | rfl
def Q0 (Z : State) (p0 : Int32) (p1 : Int32) (h0 : Heap) (n0 : Nat) (v : Option Value) (h : Heap) (L : List Loc) : Prop := v = some (.int (1 : Int32)) ∧ Fr n0 L
set_option maxRecDepth 65536 in
set_option maxHeartbeats 40000000 in
theorem rm0 (l : Launch) (Z : State) (a0 : Array Value) (hw : ∀ d ∈ tables_1, d.before a0 Z = true) (ws : List Jvm.Cond) (p0 : Int32) (p1 : Int32) (h0 : Heap) (n0 : Nat) (Z0 : n0 ≤ h0.size)  :
    MetFree l x (head1 (Jvm.Cond.code x code maxLocals ret :: ws) room_1) (fun a U => a = #[(.int p0), (.int p1)] ∧ Z.Warmed39 U.vm ∧ U.heap = h0) (fun _ _ _ _ _ => True) (fun _ U o U' => ∃ v L, o = .returned v ∧ Q0 Z p0 p1 h0 n0 v U'.heap L ∧ FrameEnd U o U' L 1 16) := by
  refine MetFree.of_bodySF (plainFor_of_name pn_0) hisR ?_
  intro p e s m args below meth c s₁ Bd hml0 hP hK
  obtain ⟨rfl, hZ, hh⟩ := hP
  have hx := Bd.exec
  have hby := Bd.bytes
  have hml : c.maxLocals = 4 := hml0
  have hown : s.vm.findClass "com/example/axsis/axsis/tree/XmlSyntaxIsCharPinLaw" = some m.cls := findClass_of_methodNamed Bd.named
  have hnm := (name_of_methodNamed Bd.named Bd.method).1
  have X0 : Stand p l e room_1 s m #[(.int p0), (.int p1)] below meth c s₁ [] 0 0 := Stand.of_body Bd
  have e0 : s₁.heap = h0 := by rw [← hh, Bd.state]; rfl
  have N0 := Fr.nil n0
  have K0 := Keep.refl h0 []
  suffices hgo : Goes p.tables e below (fun s₂ o => ∃ v L, o = .returned v ∧ Q0 Z p0 p1 h0 n0 v s₂.heap L ∧ FrameEnd s o s₂ L 1 16) (s₁.setTop (mkF m 0 #[.val (.int p0), .val (.int p1), .unset, .unset] [])) from goEnd (fun t k => castTop (ef_0 m p0 p1) k) hgo
  refine go (fun t kt => XS.bipush X0.here hx rfl (hb hby at_0) kt) ?_
  show Goes p.tables e below _ (s₁.setTop (mkF m 2 #[.val (.int p0), .val (.int p1), .unset, .unset] [(.int (16 : Int32))]))
  obtain ⟨T1, h1, k1, X1, e1, E1, A1, st1⟩ := newP X0 hx hZ (hw _ (List.mem_of_getElem? (i := 0) rfl)) e0 (g := (mkF m 2 #[.val (.int p0), .val (.int p1), .unset, .unset] [(.int (16 : Int32))])) rfl (hb hby at_2) rfl (by decide) (cap := 16) (by decide) (by decide) (by decide) (by decide)
  obtain ⟨b1, g1⟩ : ∃ z, z = h0.size := ⟨_, rfl⟩
  rw [← g1] at A1 st1
  have g_b1 : n0 ≤ b1 := Nat.le_trans Z0 (Nat.le_of_eq g1.symm)
  have sz_b1 : h0.size ≤ b1 := Nat.le_trans K0.1 (Nat.le_of_eq g1.symm)
  have Zz1 := Nat.le_trans Z0 E1.1
  have Kk1 := K0.ext E1
  have V_b1 : Arv Z h1 b1 k1 .int (16 : Int32) [(.int (0 : Int32)), (.int (0 : Int32)), (.int (0 : Int32)), (.int (0 : Int32)), (.int (0 : Int32)), (.int (0 : Int32)), (.int (0 : Int32)), (.int (0 : Int32)), (.int (0 : Int32)), (.int (0 : Int32)), (.int (0 : Int32)), (.int (0 : Int32)), (.int (0 : Int32)), (.int (0 : Int32)), (.int (0 : Int32)), (.int (0 : Int32))] (.int (0 : Int32)) := (Arv.new A1 (by decide)).pad (pad_rep [] (.int (0 : Int32)) 16)
  refine go st1 ?_
  show Goes p.tables e below _ (T1.setTop (mkF m 4 #[.val (.int p0), .val (.int p1), .unset, .unset] [(.ref b1)]))
  refine go (fun t kt => XS.dup X1.here hx rfl (hb hby at_4) rfl rfl kt) ?_
  show Goes p.tables e below _ (T1.setTop (mkF m 5 #[.val (.int p0), .val (.int p1), .unset, .unset] [(.ref b1), (.ref b1)]))
  refine go (fun t kt => XS.iconst X1.here hx rfl (hb hby at_5) kt) ?_
  show Goes p.tables e below _ (T1.setTop (mkF m 6 #[.val (.int p0), .val (.int p1), .unset, .unset] [(.int (0 : Int32)), (.ref b1), (.ref b1)]))
  refine go (fun t kt => XS.iconst X1.here hx rfl (hb hby at_6) kt) ?_
  show Goes p.tables e below _ (T1.setTop (mkF m 7 #[.val (.int p0), .val (.int p1), .unset, .unset] [(.int (0 : Int32)), (.int (0 : Int32)), (.ref b1), (.ref b1)]))
  obtain ⟨cl2, Ar2, q2, S2, M2, H2, G2⟩ := V_b1
  have hin2 : ¬ ((0 : Int32) < 0 ∨ cl2.slots.size ≤ ((0 : Int32)).toNatClampNeg) := inb_of S2 ⟨by decide, by decide⟩
  obtain ⟨T2, h2, X2, e2, W2, st2⟩ := stI X1 hx hZ e1 Ar2 (j := (0 : Int32)) hin2 (g := (mkF m 7 #[.val (.int p0), .val (.int p1), .unset, .unset] [(.int (0 : Int32)), (.int (0 : Int32)), (.ref b1), (.ref b1)])) rfl rfl (hb hby at_7)
  have V_b1 : Arv Z h2 b1 k1 .int (16 : Int32) [(.int (0 : Int32)), (.int (0 : Int32)), (.int (0 : Int32)), (.int (0 : Int32)), (.int (0 : Int32)), (.int (0 : Int32)), (.int (0 : Int32)), (.int (0 : Int32)), (.int (0 : Int32)), (.int (0 : Int32)), (.int (0 : Int32)), (.int (0 : Int32)), (.int (0 : Int32)), (.int (0 : Int32)), (.int (0 : Int32)), (.int (0 : Int32))] (.int (0 : Int32)) := Arv.set Ar2 q2 S2 M2 H2 G2 rfl W2 0 rfl (Nat.le_of_ble_eq_true rfl)
  have Zz2 := Nat.le_trans Zz1 (Keep.of_wr W2).1
  have Kk2 := Kk1.wr W2 (Or.inr sz_b1)
  have N2 := Fr.snoc X2 N0 g_b1
  refine go st2 ?_
  show Goes p.tables e below _ (T2.setTop (mkF m 8 #[.val (.int p0), .val (.int p1), .unset, .unset] [(.ref b1)]))
  refine go (fun t kt => XS.dup X2.here hx rfl (hb hby at_8) rfl rfl kt) ?_
  show Goes p.tables e below _ (T2.setTop (mkF m 9 #[.val (.int p0), .val (.int p1), .unset, .unset] [(.ref b1), (.ref b1)]))
  refine go (fun t kt => XS.iconst X2.here hx rfl (hb hby at_9) kt) ?_
  show Goes p.tables e below _ (T2.setTop (mkF m 10 #[.val (.int p0), .val (.int p1), .unset, .unset] [(.int (1 : Int32)), (.ref b1), (.ref b1)]))
  refine go (fun t kt => XS.bipush X2.here hx rfl (hb hby at_10) kt) ?_
  show Goes p.tables e below _ (T2.setTop (mkF m 12 #[.val (.int p0), .val (.int p1), .unset, .unset] [(.int (9 : Int32)), (.int (1 : Int32)), (.ref b1), (.ref b1)]))
  obtain ⟨cl3, Ar3, q3, S3, M3, H3, G3⟩ := V_b1
  have hin3 : ¬ ((1 : Int32) < 0 ∨ cl3.slots.size ≤ ((1 : Int32)).toNatClampNeg) := inb_of S3 ⟨by decide, by decide⟩
  obtain ⟨T3, h3, X3, e3, W3, st3⟩ := stI X2 hx hZ e2 Ar3 (j := (1 : Int32)) hin3 (g := (mkF m 12 #[.val (.int p0), .val (.int p1), .unset, .unset] [(.int (9 : Int32)), (.int (1 : Int32)), (.ref b1), (.ref b1)])) rfl rfl (hb hby at_12)
  have V_b1 : Arv Z h3 b1 k1 .int (16 : Int32) [(.int (0 : Int32)), (.int (9 : Int32)), (.int (0 : Int32)), (.int (0 : Int32)), (.int (0 : Int32)), (.int (0 : Int32)), (.int (0 : Int32)), (.int (0 : Int32)), (.int (0 : Int32)), (.int (0 : Int32)), (.int (0 : Int32)), (.int (0 : Int32)), (.int (0 : Int32)), (.int (0 : Int32)), (.int (0 : Int32)), (.int (0 : Int32))] (.int (0 : Int32)) := Arv.set Ar3 q3 S3 M3 H3 G3 rfl W3 1 rfl (Nat.le_of_ble_eq_true rfl)
  have Zz3 := Nat.le_trans Zz2 (Keep.of_wr W3).1
  have Kk3 := Kk2.wr W3 (Or.inr sz_b1)
  have N3 := Fr.snoc X3 N2 g_b1
  refine go st3 ?_
  show Goes p.tables e below _ (T3.setTop (mkF m 13 #[.val (.int p0), .val (.int p1), .unset, .unset] [(.ref b1)]))
  refine go (fun t kt => XS.dup X3.here hx rfl (hb hby at_13) rfl rfl kt) ?_
  show Goes p.tables e below _ (T3.setTop (mkF m 14 #[.val (.int p0), .val (.int p1), .unset, .unset] [(.ref b1), (.ref b1)]))
  refine go (fun t kt => XS.iconst X3.here hx rfl (hb hby at_14) kt) ?_
  show Goes p.tables e below _ (T3.setTop (mkF m 15 #[.val (.int p0), .val (.int p1), .unset, .unset] [(.int (2 : Int32)), (.ref b1), (.ref b1)]))
  refine go (fun t kt => XS.bipush X3.here hx rfl (hb hby at_15) kt) ?_
  show Goes p.tables e below _ (T3.setTop (mkF m 17 #[.val (.int p0), .val (.int p1), .unset, .unset] [(.int (10 : Int32)), (.int (2 : Int32)), (.ref b1), (.ref b1)]))
  obtain ⟨cl4, Ar4, q4, S4, M4, H4, G4⟩ := V_b1
  have hin4 : ¬ ((2 : Int32) < 0 ∨ cl4.slots.size ≤ ((2 : Int32)).toNatClampNeg) := inb_of S4 ⟨by decide, by decide⟩
  obtain ⟨T4, h4, X4, e4, W4, st4⟩ := stI X3 hx hZ e3 Ar4 (j := (2 : Int32)) hin4 (g := (mkF m 17 #[.val (.int p0), .val (.int p1), .unset, .unset] [(.int (10 : Int32)), (.int (2 : Int32)), (.ref b1), (.ref b1)])) rfl rfl (hb hby at_17)
  have V_b1 : Arv Z h4 b1 k1 .int (16 : Int32) [(.int (0 : Int32)), (.int (9 : Int32)), (.int (10 : Int32)), (.int (0 : Int32)), (.int (0 : Int32)), (.int (0 : Int32)), (.int (0 : Int32)), (.int (0 : Int32)), (.int (0 : Int32)), (.int (0 : Int32)), (.int (0 : Int32)), (.int (0 : Int32)), (.int (0 : Int32)), (.int (0 : Int32)), (.int (0 : Int32)), (.int (0 : Int32))] (.int (0 : Int32)) := Arv.set Ar4 q4 S4 M4 H4 G4 rfl W4 2 rfl (Nat.le_of_ble_eq_true rfl)
  have Zz4 := Nat.le_trans Zz3 (Keep.of_wr W4).1
  have Kk4 := Kk3.wr W4 (Or.inr sz_b1)
  have N4 := Fr.snoc X4 N3 g_b1
  refine go st4 ?_
  show Goes p.tables e below _ (T4.setTop (mkF m 18 #[.val (.int p0), .val (.int p1), .unset, .unset] [(.ref b1)]))
  refine go (fun t kt => XS.dup X4.here hx rfl (hb hby at_18) rfl rfl kt) ?_
  show Goes p.tables e below _ (T4.setTop (mkF m 19 #[.val (.int p0), .val (.int p1), .unset, .unset] [(.ref b1), (.ref b1)]))
  refine go (fun t kt => XS.iconst X4.here hx rfl (hb hby at_19) kt) ?_
  show Goes p.tables e below _ (T4.setTop (mkF m 20 #[.val (.int p0), .val (.int p1), .unset, .unset] [(.int (3 : Int32)), (.ref b1), (.ref b1)]))
  refine go (fun t kt => XS.bipush X4.here hx rfl (hb hby at_20) kt) ?_
  show Goes p.tables e below _ (T4.setTop (mkF m 22 #[.val (.int p0), .val (.int p1), .unset, .unset] [(.int (13 : Int32)), (.int (3 : Int32)), (.ref b1), (.ref b1)]))
  obtain ⟨cl5, Ar5, q5, S5, M5, H5, G5⟩ := V_b1
  have hin5 : ¬ ((3 : Int32) < 0 ∨ cl5.slots.size ≤ ((3 : Int32)).toNatClampNeg) := inb_of S5 ⟨by decide, by decide⟩
  obtain ⟨T5, h5, X5, e5, W5, st5⟩ := stI X4 hx hZ e4 Ar5 (j := (3 : Int32)) hin5 (g := (mkF m 22 #[.val (.int p0), .val (.int p1), .unset, .unset] [(.int (13 : Int32)), (.int (3 : Int32)), (.ref b1), (.ref b1)])) rfl rfl (hb hby at_22)
  have V_b1 : Arv Z h5 b1 k1 .int (16 : Int32) [(.int (0 : Int32)), (.int (9 : Int32)), (.int (10 : Int32)), (.int (13 : Int32)), (.int (0 : Int32)), (.int (0 : Int32)), (.int (0 : Int32)), (.int (0 : Int32)), (.int (0 : Int32)), (.int (0 : Int32)), (.int (0 : Int32)), (.int (0 : Int32)), (.int (0 : Int32)), (.int (0 : Int32)), (.int (0 : Int32)), (.int (0 : Int32))] (.int (0 : Int32)) := Arv.set Ar5 q5 S5 M5 H5 G5 rfl W5 3 rfl (Nat.le_of_ble_eq_true rfl)
  have Zz5 := Nat.le_trans Zz4 (Keep.of_wr W5).1
  have Kk5 := Kk4.wr W5 (Or.inr sz_b1)
  have N5 := Fr.snoc X5 N4 g_b1
  refine go st5 ?_
  show Goes p.tables e below _ (T5.setTop (mkF m 23 #[.val (.int p0), .val (.int p1), .unset, .unset] [(.ref b1)]))
  refine go (fun t kt => XS.dup X5.here hx rfl (hb hby at_23) rfl rfl kt) ?_
  show Goes p.tables e below _ (T5.setTop (mkF m 24 #[.val (.int p0), .val (.int p1), .unset, .unset] [(.ref b1), (.ref b1)]))
  refine go (fun t kt => XS.iconst X5.here hx rfl (hb hby at_24) kt) ?_
  show Goes p.tables e below _ (T5.setTop (mkF m 25 #[.val (.int p0), .val (.int p1), .unset, .unset] [(.int (4 : Int32)), (.ref b1), (.ref b1)]))
  refine go (fun t kt => XS.bipush X5.here hx rfl (hb hby at_25) kt) ?_
  show Goes p.tables e below _ (T5.setTop (mkF m 27 #[.val (.int p0), .val (.int p1), .unset, .unset] [(.int (32 : Int32)), (.int (4 : Int32)), (.ref b1), (.ref b1)]))
  obtain ⟨cl6, Ar6, q6, S6, M6, H6, G6⟩ := V_b1
  have hin6 : ¬ ((4 : Int32) < 0 ∨ cl6.slots.size ≤ ((4 : Int32)).toNatClampNeg) := inb_of S6 ⟨by decide, by decide⟩
  obtain ⟨T6, h6, X6, e6, W6, st6⟩ := stI X5 hx hZ e5 Ar6 (j := (4 : Int32)) hin6 (g := (mkF m 27 #[.val (.int p0), .val (.int p1), .unset, .unset] [(.int (32 : Int32)), (.int (4 : Int32)), (.ref b1), (.ref b1)])) rfl rfl (hb hby at_27)
  have V_b1 : Arv Z h6 b1 k1 .int (16 : Int32) [(.int (0 : Int32)), (.int (9 : Int32)), (.int (10 : Int32)), (.int (13 : Int32)), (.int (32 : Int32)), (.int (0 : Int32)), (.int (0 : Int32)), (.int (0 : Int32)), (.int (0 : Int32)), (.int (0 : Int32)), (.int (0 : Int32)), (.int (0 : Int32)), (.int (0 : Int32)), (.int (0 : Int32)), (.int (0 : Int32)), (.int (0 : Int32))] (.int (0 : Int32)) := Arv.set Ar6 q6 S6 M6 H6 G6 rfl W6 4 rfl (Nat.le_of_ble_eq_true rfl)
  have Zz6 := Nat.le_trans Zz5 (Keep.of_wr W6).1
  have Kk6 := Kk5.wr W6 (Or.inr sz_b1)
  have N6 := Fr.snoc X6 N5 g_b1
  refine go st6 ?_
  show Goes p.tables e below _ (T6.setTop (mkF m 28 #[.val (.int p0), .val (.int p1), .unset, .unset] [(.ref b1)]))
  refine go (fun t kt => XS.dup X6.here hx rfl (hb hby at_28) rfl rfl kt) ?_
  show Goes p.tables e below _ (T6.setTop (mkF m 29 #[.val (.int p0), .val (.int p1), .unset, .unset] [(.ref b1), (.ref b1)]))
  refine go (fun t kt => XS.iconst X6.here hx rfl (hb hby at_29) kt) ?_
  show Goes p.tables e below _ (T6.setTop (mkF m 30 #[.val (.int p0), .val (.int p1), .unset, .unset] [(.int (5 : Int32)), (.ref b1), (.ref b1)]))
  refine go (X6.ldcInt hx hown (mvT hZ (hw _ (List.mem_of_getElem? (i := 1) rfl))) (g := (mkF m 30 #[.val (.int p0), .val (.int p1), .unset, .unset] [(.int (5 : Int32)), (.ref b1), (.ref b1)])) rfl (hb hby at_30)) ?_
  show Goes p.tables e below _ (T6.setTop (mkF m 32 #[.val (.int p0), .val (.int p1), .unset, .unset] [(.int (55295 : Int32)), (.int (5 : Int32)), (.ref b1), (.ref b1)]))
  obtain ⟨cl7, Ar7, q7, S7, M7, H7, G7⟩ := V_b1
  have hin7 : ¬ ((5 : Int32) < 0 ∨ cl7.slots.size ≤ ((5 : Int32)).toNatClampNeg) := inb_of S7 ⟨by decide, by decide⟩
  obtain ⟨T7, h7, X7, e7, W7, st7⟩ := stI X6 hx hZ e6 Ar7 (j := (5 : Int32)) hin7 (g := (mkF m 32 #[.val (.int p0), .val (.int p1), .unset, .unset] [(.int (55295 : Int32)), (.int (5 : Int32)), (.ref b1), (.ref b1)])) rfl rfl (hb hby at_32)
  have V_b1 : Arv Z h7 b1 k1 .int (16 : Int32) [(.int (0 : Int32)), (.int (9 : Int32)), (.int (10 : Int32)), (.int (13 : Int32)), (.int (32 : Int32)), (.int (55295 : Int32)), (.int (0 : Int32)), (.int (0 : Int32)), (.int (0 : Int32)), (.int (0 : Int32)), (.int (0 : Int32)), (.int (0 : Int32)), (.int (0 : Int32)), (.int (0 : Int32)), (.int (0 : Int32)), (.int (0 : Int32))] (.int (0 : Int32)) := Arv.set Ar7 q7 S7 M7 H7 G7 rfl W7 5 rfl (Nat.le_of_ble_eq_true rfl)
  have Zz7 := Nat.le_trans Zz6 (Keep.of_wr W7).1
  have Kk7 := Kk6.wr W7 (Or.inr sz_b1)
  have N7 := Fr.snoc X7 N6 g_b1
  refine go st7 ?_
  show Goes p.tables e below _ (T7.setTop (mkF m 33 #[.val (.int p0), .val (.int p1), .unset, .unset] [(.ref b1)]))
  refine go (fun t kt => XS.dup X7.here hx rfl (hb hby at_33) rfl rfl kt) ?_
  show Goes p.tables e below _ (T7.setTop (mkF m 34 #[.val (.int p0), .val (.int p1), .unset, .unset] [(.ref b1), (.ref b1)]))
  refine go (fun t kt => XS.bipush X7.here hx rfl (hb hby at_34) kt) ?_
  show Goes p.tables e below _ (T7.setTop (mkF m 36 #[.val (.int p0), .val (.int p1), .unset, .unset] [(.int (6 : Int32)), (.ref b1), (.ref b1)]))
  refine go (X7.ldcInt hx hown (mvT hZ (hw _ (List.mem_of_getElem? (i := 2) rfl))) (g := (mkF m 36 #[.val (.int p0), .val (.int p1), .unset, .unset] [(.int (6 : Int32)), (.ref b1), (.ref b1)])) rfl (hb hby at_36)) ?_
  show Goes p.tables e below _ (T7.setTop (mkF m 38 #[.val (.int p0), .val (.int p1), .unset, .unset] [(.int (55296 : Int32)), (.int (6 : Int32)), (.ref b1), (.ref b1)]))
  obtain ⟨cl8, Ar8, q8, S8, M8, H8, G8⟩ := V_b1
  have hin8 : ¬ ((6 : Int32) < 0 ∨ cl8.slots.size ≤ ((6 : Int32)).toNatClampNeg) := inb_of S8 ⟨by decide, by decide⟩
  obtain ⟨T8, h8, X8, e8, W8, st8⟩ := stI X7 hx hZ e7 Ar8 (j := (6 : Int32)) hin8 (g := (mkF m 38 #[.val (.int p0), .val (.int p1), .unset, .unset] [(.int (55296 : Int32)), (.int (6 : Int32)), (.ref b1), (.ref b1)])) rfl rfl (hb hby at_38)
  have V_b1 : Arv Z h8 b1 k1 .int (16 : Int32) [(.int (0 : Int32)), (.int (9 : Int32)), (.int (10 : Int32)), (.int (13 : Int32)), (.int (32 : Int32)), (.int (55295 : Int32)), (.int (55296 : Int32)), (.int (0 : Int32)), (.int (0 : Int32)), (.int (0 : Int32)), (.int (0 : Int32)), (.int (0 : Int32)), (.int (0 : Int32)), (.int (0 : Int32)), (.int (0 : Int32)), (.int (0 : Int32))] (.int (0 : Int32)) := Arv.set Ar8 q8 S8 M8 H8 G8 rfl W8 6 rfl (Nat.le_of_ble_eq_true rfl)
  have Zz8 := Nat.le_trans Zz7 (Keep.of_wr W8).1
  have Kk8 := Kk7.wr W8 (Or.inr sz_b1)
  have N8 := Fr.snoc X8 N7 g_b1
  refine go st8 ?_
  show Goes p.tables e below _ (T8.setTop (mkF m 39 #[.val (.int p0), .val (.int p1), .unset, .unset] [(.ref b1)]))
  refine go (fun t kt => XS.dup X8.here hx rfl (hb hby at_39) rfl rfl kt) ?_
  show Goes p.tables e below _ (T8.setTop (mkF m 40 #[.val (.int p0), .val (.int p1), .unset, .unset] [(.ref b1), (.ref b1)]))
  refine go (fun t kt => XS.bipush X8.here hx rfl (hb hby at_40) kt) ?_
  show Goes p.tables e below _ (T8.setTop (mkF m 42 #[.val (.int p0), .val (.int p1), .unset, .unset] [(.int (7 : Int32)), (.ref b1), (.ref b1)]))
  refine go (X8.ldcInt hx hown (mvT hZ (hw _ (List.mem_of_getElem? (i := 3) rfl))) (g := (mkF m 42 #[.val (.int p0), .val (.int p1), .unset, .unset] [(.int (7 : Int32)), (.ref b1), (.ref b1)])) rfl (hb hby at_42)) ?_
  show Goes p.tables e below _ (T8.setTop (mkF m 44 #[.val (.int p0), .val (.int p1), .unset, .unset] [(.int (57343 : Int32)), (.int (7 : Int32)), (.ref b1), (.ref b1)]))
  obtain ⟨cl9, Ar9, q9, S9, M9, H9, G9⟩ := V_b1
  have hin9 : ¬ ((7 : Int32) < 0 ∨ cl9.slots.size ≤ ((7 : Int32)).toNatClampNeg) := inb_of S9 ⟨by decide, by decide⟩
  obtain ⟨T9, h9, X9, e9, W9, st9⟩ := stI X8 hx hZ e8 Ar9 (j := (7 : Int32)) hin9 (g := (mkF m 44 #[.val (.int p0), .val (.int p1), .unset, .unset] [(.int (57343 : Int32)), (.int (7 : Int32)), (.ref b1), (.ref b1)])) rfl rfl (hb hby at_44)
  have V_b1 : Arv Z h9 b1 k1 .int (16 : Int32) [(.int (0 : Int32)), (.int (9 : Int32)), (.int (10 : Int32)), (.int (13 : Int32)), (.int (32 : Int32)), (.int (55295 : Int32)), (.int (55296 : Int32)), (.int (57343 : Int32)), (.int (0 : Int32)), (.int (0 : Int32)), (.int (0 : Int32)), (.int (0 : Int32)), (.int (0 : Int32)), (.int (0 : Int32)), (.int (0 : Int32)), (.int (0 : Int32))] (.int (0 : Int32)) := Arv.set Ar9 q9 S9 M9 H9 G9 rfl W9 7 rfl (Nat.le_of_ble_eq_true rfl)
  have Zz9 := Nat.le_trans Zz8 (Keep.of_wr W9).1
  have Kk9 := Kk8.wr W9 (Or.inr sz_b1)
  have N9 := Fr.snoc X9 N8 g_b1
  refine go st9 ?_
  show Goes p.tables e below _ (T9.setTop (mkF m 45 #[.val (.int p0), .val (.int p1), .unset, .unset] [(.ref b1)]))
  refine go (fun t kt => XS.dup X9.here hx rfl (hb hby at_45) rfl rfl kt) ?_
  show Goes p.tables e below _ (T9.setTop (mkF m 46 #[.val (.int p0), .val (.int p1), .unset, .unset] [(.ref b1), (.ref b1)]))
  refine go (fun t kt => XS.bipush X9.here hx rfl (hb hby at_46) kt) ?_
  show Goes p.tables e below _ (T9.setTop (mkF m 48 #[.val (.int p0), .val (.int p1), .unset, .unset] [(.int (8 : Int32)), (.ref b1), (.ref b1)]))
  refine go (X9.ldcInt hx hown (mvT hZ (hw _ (List.mem_of_getElem? (i := 4) rfl))) (g := (mkF m 48 #[.val (.int p0), .val (.int p1), .unset, .unset] [(.int (8 : Int32)), (.ref b1), (.ref b1)])) rfl (hb hby at_48)) ?_
  show Goes p.tables e below _ (T9.setTop (mkF m 50 #[.val (.int p0), .val (.int p1), .unset, .unset] [(.int (57344 : Int32)), (.int (8 : Int32)), (.ref b1), (.ref b1)]))
  obtain ⟨cl10, Ar10, q10, S10, M10, H10, G10⟩ := V_b1
  have hin10 : ¬ ((8 : Int32) < 0 ∨ cl10.slots.size ≤ ((8 : Int32)).toNatClampNeg) := inb_of S10 ⟨by decide, by decide⟩
  obtain ⟨T10, h10, X10, e10, W10, st10⟩ := stI X9 hx hZ e9 Ar10 (j := (8 : Int32)) hin10 (g := (mkF m 50 #[.val (.int p0), .val (.int p1), .unset, .unset] [(.int (57344 : Int32)), (.int (8 : Int32)), (.ref b1), (.ref b1)])) rfl rfl (hb hby at_50)
  have V_b1 : Arv Z h10 b1 k1 .int (16 : Int32) [(.int (0 : Int32)), (.int (9 : Int32)), (.int (10 : Int32)), (.int (13 : Int32)), (.int (32 : Int32)), (.int (55295 : Int32)), (.int (55296 : Int32)), (.int (57343 : Int32)), (.int (57344 : Int32)), (.int (0 : Int32)), (.int (0 : Int32)), (.int (0 : Int32)), (.int (0 : Int32)), (.int (0 : Int32)), (.int (0 : Int32)), (.int (0 : Int32))] (.int (0 : Int32)) := Arv.set Ar10 q10 S10 M10 H10 G10 rfl W10 8 rfl (Nat.le_of_ble_eq_true rfl)
  have Zz10 := Nat.le_trans Zz9 (Keep.of_wr W10).1
  have Kk10 := Kk9.wr W10 (Or.inr sz_b1)
  have N10 := Fr.snoc X10 N9 g_b1
  refine go st10 ?_
  show Goes p.tables e below _ (T10.setTop (mkF m 51 #[.val (.int p0), .val (.int p1), .unset, .unset] [(.ref b1)]))
  refine go (fun t kt => XS.dup X10.here hx rfl (hb hby at_51) rfl rfl kt) ?_
  show Goes p.tables e below _ (T10.setTop (mkF m 52 #[.val (.int p0), .val (.int p1), .unset, .unset] [(.ref b1), (.ref b1)]))
  refine go (fun t kt => XS.bipush X10.here hx rfl (hb hby at_52) kt) ?_
  show Goes p.tables e below _ (T10.setTop (mkF m 54 #[.val (.int p0), .val (.int p1), .unset, .unset] [(.int (9 : Int32)), (.ref b1), (.ref b1)]))
  refine go (X10.ldcInt hx hown (mvT hZ (hw _ (List.mem_of_getElem? (i := 5) rfl))) (g := (mkF m 54 #[.val (.int p0), .val (.int p1), .unset, .unset] [(.int (9 : Int32)), (.ref b1), (.ref b1)])) rfl (hb hby at_54)) ?_
  show Goes p.tables e below _ (T10.setTop (mkF m 56 #[.val (.int p0), .val (.int p1), .unset, .unset] [(.int (65533 : Int32)), (.int (9 : Int32)), (.ref b1), (.ref b1)]))
  obtain ⟨cl11, Ar11, q11, S11, M11, H11, G11⟩ := V_b1
  have hin11 : ¬ ((9 : Int32) < 0 ∨ cl11.slots.size ≤ ((9 : Int32)).toNatClampNeg) := inb_of S11 ⟨by decide, by decide⟩
  obtain ⟨T11, h11, X11, e11, W11, st11⟩ := stI X10 hx hZ e10 Ar11 (j := (9 : Int32)) hin11 (g := (mkF m 56 #[.val (.int p0), .val (.int p1), .unset, .unset] [(.int (65533 : Int32)), (.int (9 : Int32)), (.ref b1), (.ref b1)])) rfl rfl (hb hby at_56)
  have V_b1 : Arv Z h11 b1 k1 .int (16 : Int32) [(.int (0 : Int32)), (.int (9 : Int32)), (.int (10 : Int32)), (.int (13 : Int32)), (.int (32 : Int32)), (.int (55295 : Int32)), (.int (55296 : Int32)), (.int (57343 : Int32)), (.int (57344 : Int32)), (.int (65533 : Int32)), (.int (0 : Int32)), (.int (0 : Int32)), (.int (0 : Int32)), (.int (0 : Int32)), (.int (0 : Int32)), (.int (0 : Int32))] (.int (0 : Int32)) := Arv.set Ar11 q11 S11 M11 H11 G11 rfl W11 9 rfl (Nat.le_of_ble_eq_true rfl)
  have Zz11 := Nat.le_trans Zz10 (Keep.of_wr W11).1
  have Kk11 := Kk10.wr W11 (Or.inr sz_b1)
  have N11 := Fr.snoc X11 N10 g_b1
  refine go st11 ?_
  show Goes p.tables e below _ (T11.setTop (mkF m 57 #[.val (.int p0), .val (.int p1), .unset, .unset] [(.ref b1)]))
  refine go (fun t kt => XS.dup X11.here hx rfl (hb hby at_57) rfl rfl kt) ?_
  show Goes p.tables e below _ (T11.setTop (mkF m 58 #[.val (.int p0), .val (.int p1), .unset, .unset] [(.ref b1), (.ref b1)]))
  refine go (fun t kt => XS.bipush X11.here hx rfl (hb hby at_58) kt) ?_
  show Goes p.tables e below _ (T11.setTop (mkF m 60 #[.val (.int p0), .val (.int p1), .unset, .unset] [(.int (10 : Int32)), (.ref b1), (.ref b1)]))
  refine go (X11.ldcInt hx hown (mvT hZ (hw _ (List.mem_of_getElem? (i := 6) rfl))) (g := (mkF m 60 #[.val (.int p0), .val (.int p1), .unset, .unset] [(.int (10 : Int32)), (.ref b1), (.ref b1)])) rfl (hb hby at_60)) ?_
  show Goes p.tables e below _ (T11.setTop (mkF m 62 #[.val (.int p0), .val (.int p1), .unset, .unset] [(.int (65534 : Int32)), (.int (10 : Int32)), (.ref b1), (.ref b1)]))
  obtain ⟨cl12, Ar12, q12, S12, M12, H12, G12⟩ := V_b1
  have hin12 : ¬ ((10 : Int32) < 0 ∨ cl12.slots.size ≤ ((10 : Int32)).toNatClampNeg) := inb_of S12 ⟨by decide, by decide⟩
  obtain ⟨T12, h12, X12, e12, W12, st12⟩ := stI X11 hx hZ e11 Ar12 (j := (10 : Int32)) hin12 (g := (mkF m 62 #[.val (.int p0), .val (.int p1), .unset, .unset] [(.int (65534 : Int32)), (.int (10 : Int32)), (.ref b1), (.ref b1)])) rfl rfl (hb hby at_62)
  have V_b1 : Arv Z h12 b1 k1 .int (16 : Int32) [(.int (0 : Int32)), (.int (9 : Int32)), (.int (10 : Int32)), (.int (13 : Int32)), (.int (32 : Int32)), (.int (55295 : Int32)), (.int (55296 : Int32)), (.int (57343 : Int32)), (.int (57344 : Int32)), (.int (65533 : Int32)), (.int (65534 : Int32)), (.int (0 : Int32)), (.int (0 : Int32)), (.int (0 : Int32)), (.int (0 : Int32)), (.int (0 : Int32))] (.int (0 : Int32)) := Arv.set Ar12 q12 S12 M12 H12 G12 rfl W12 10 rfl (Nat.le_of_ble_eq_true rfl)
  have Zz12 := Nat.le_trans Zz11 (Keep.of_wr W12).1
  have Kk12 := Kk11.wr W12 (Or.inr sz_b1)
  have N12 := Fr.snoc X12 N11 g_b1
  refine go st12 ?_
  show Goes p.tables e below _ (T12.setTop (mkF m 63 #[.val (.int p0), .val (.int p1), .unset, .unset] [(.ref b1)]))
  refine go (fun t kt => XS.dup X12.here hx rfl (hb hby at_63) rfl rfl kt) ?_
  show Goes p.tables e below _ (T12.setTop (mkF m 64 #[.val (.int p0), .val (.int p1), .unset, .unset] [(.ref b1), (.ref b1)]))
  refine go (fun t kt => XS.bipush X12.here hx rfl (hb hby at_64) kt) ?_
  show Goes p.tables e below _ (T12.setTop (mkF m 66 #[.val (.int p0), .val (.int p1), .unset, .unset] [(.int (11 : Int32)), (.ref b1), (.ref b1)]))
  refine go (X12.ldcInt hx hown (mvT hZ (hw _ (List.mem_of_getElem? (i := 7) rfl))) (g := (mkF m 66 #[.val (.int p0), .val (.int p1), .unset, .unset] [(.int (11 : Int32)), (.ref b1), (.ref b1)])) rfl (hb hby at_66)) ?_
  show Goes p.tables e below _ (T12.setTop (mkF m 68 #[.val (.int p0), .val (.int p1), .unset, .unset] [(.int (65536 : Int32)), (.int (11 : Int32)), (.ref b1), (.ref b1)]))
  obtain ⟨cl13, Ar13, q13, S13, M13, H13, G13⟩ := V_b1
  have hin13 : ¬ ((11 : Int32) < 0 ∨ cl13.slots.size ≤ ((11 : Int32)).toNatClampNeg) := inb_of S13 ⟨by decide, by decide⟩
  obtain ⟨T13, h13, X13, e13, W13, st13⟩ := stI X12 hx hZ e12 Ar13 (j := (11 : Int32)) hin13 (g := (mkF m 68 #[.val (.int p0), .val (.int p1), .unset, .unset] [(.int (65536 : Int32)), (.int (11 : Int32)), (.ref b1), (.ref b1)])) rfl rfl (hb hby at_68)
  have V_b1 : Arv Z h13 b1 k1 .int (16 : Int32) [(.int (0 : Int32)), (.int (9 : Int32)), (.int (10 : Int32)), (.int (13 : Int32)), (.int (32 : Int32)), (.int (55295 : Int32)), (.int (55296 : Int32)), (.int (57343 : Int32)), (.int (57344 : Int32)), (.int (65533 : Int32)), (.int (65534 : Int32)), (.int (65536 : Int32)), (.int (0 : Int32)), (.int (0 : Int32)), (.int (0 : Int32)), (.int (0 : Int32))] (.int (0 : Int32)) := Arv.set Ar13 q13 S13 M13 H13 G13 rfl W13 11 rfl (Nat.le_of_ble_eq_true rfl)
  have Zz13 := Nat.le_trans Zz12 (Keep.of_wr W13).1
  have Kk13 := Kk12.wr W13 (Or.inr sz_b1)
  have N13 := Fr.snoc X13 N12 g_b1
  refine go st13 ?_
  show Goes p.tables e below _ (T13.setTop (mkF m 69 #[.val (.int p0), .val (.int p1), .unset, .unset] [(.ref b1)]))
  refine go (fun t kt => XS.dup X13.here hx rfl (hb hby at_69) rfl rfl kt) ?_
  show Goes p.tables e below _ (T13.setTop (mkF m 70 #[.val (.int p0), .val (.int p1), .unset, .unset] [(.ref b1), (.ref b1)]))
  refine go (fun t kt => XS.bipush X13.here hx rfl (hb hby at_70) kt) ?_
  show Goes p.tables e below _ (T13.setTop (mkF m 72 #[.val (.int p0), .val (.int p1), .unset, .unset] [(.int (12 : Int32)), (.ref b1), (.ref b1)]))
  refine go (X13.ldcInt hx hown (mvT hZ (hw _ (List.mem_of_getElem? (i := 8) rfl))) (g := (mkF m 72 #[.val (.int p0), .val (.int p1), .unset, .unset] [(.int (12 : Int32)), (.ref b1), (.ref b1)])) rfl (hb hby at_72)) ?_
  show Goes p.tables e below _ (T13.setTop (mkF m 74 #[.val (.int p0), .val (.int p1), .unset, .unset] [(.int (1114111 : Int32)), (.int (12 : Int32)), (.ref b1), (.ref b1)]))
  obtain ⟨cl14, Ar14, q14, S14, M14, H14, G14⟩ := V_b1
  have hin14 : ¬ ((12 : Int32) < 0 ∨ cl14.slots.size ≤ ((12 : Int32)).toNatClampNeg) := inb_of S14 ⟨by decide, by decide⟩
  obtain ⟨T14, h14, X14, e14, W14, st14⟩ := stI X13 hx hZ e13 Ar14 (j := (12 : Int32)) hin14 (g := (mkF m 74 #[.val (.int p0), .val (.int p1), .unset, .unset] [(.int (1114111 : Int32)), (.int (12 : Int32)), (.ref b1), (.ref b1)])) rfl rfl (hb hby at_74)
  have V_b1 : Arv Z h14 b1 k1 .int (16 : Int32) [(.int (0 : Int32)), (.int (9 : Int32)), (.int (10 : Int32)), (.int (13 : Int32)), (.int (32 : Int32)), (.int (55295 : Int32)), (.int (55296 : Int32)), (.int (57343 : Int32)), (.int (57344 : Int32)), (.int (65533 : Int32)), (.int (65534 : Int32)), (.int (65536 : Int32)), (.int (1114111 : Int32)), (.int (0 : Int32)), (.int (0 : Int32)), (.int (0 : Int32))] (.int (0 : Int32)) := Arv.set Ar14 q14 S14 M14 H14 G14 rfl W14 12 rfl (Nat.le_of_ble_eq_true rfl)
  have Zz14 := Nat.le_trans Zz13 (Keep.of_wr W14).1
  have Kk14 := Kk13.wr W14 (Or.inr sz_b1)
  have N14 := Fr.snoc X14 N13 g_b1
  refine go st14 ?_
  show Goes p.tables e below _ (T14.setTop (mkF m 75 #[.val (.int p0), .val (.int p1), .unset, .unset] [(.ref b1)]))
  refine go (fun t kt => XS.dup X14.here hx rfl (hb hby at_75) rfl rfl kt) ?_
  show Goes p.tables e below _ (T14.setTop (mkF m 76 #[.val (.int p0), .val (.int p1), .unset, .unset] [(.ref b1), (.ref b1)]))
  refine go (fun t kt => XS.bipush X14.here hx rfl (hb hby at_76) kt) ?_
  show Goes p.tables e below _ (T14.setTop (mkF m 78 #[.val (.int p0), .val (.int p1), .unset, .unset] [(.int (13 : Int32)), (.ref b1), (.ref b1)]))
  refine go (X14.ldcInt hx hown (mvT hZ (hw _ (List.mem_of_getElem? (i := 9) rfl))) (g := (mkF m 78 #[.val (.int p0), .val (.int p1), .unset, .unset] [(.int (13 : Int32)), (.ref b1), (.ref b1)])) rfl (hb hby at_78)) ?_
  show Goes p.tables e below _ (T14.setTop (mkF m 80 #[.val (.int p0), .val (.int p1), .unset, .unset] [(.int (1114112 : Int32)), (.int (13 : Int32)), (.ref b1), (.ref b1)]))
  obtain ⟨cl15, Ar15, q15, S15, M15, H15, G15⟩ := V_b1
  have hin15 : ¬ ((13 : Int32) < 0 ∨ cl15.slots.size ≤ ((13 : Int32)).toNatClampNeg) := inb_of S15 ⟨by decide, by decide⟩
  obtain ⟨T15, h15, X15, e15, W15, st15⟩ := stI X14 hx hZ e14 Ar15 (j := (13 : Int32)) hin15 (g := (mkF m 80 #[.val (.int p0), .val (.int p1), .unset, .unset] [(.int (1114112 : Int32)), (.int (13 : Int32)), (.ref b1), (.ref b1)])) rfl rfl (hb hby at_80)
  have V_b1 : Arv Z h15 b1 k1 .int (16 : Int32) [(.int (0 : Int32)), (.int (9 : Int32)), (.int (10 : Int32)), (.int (13 : Int32)), (.int (32 : Int32)), (.int (55295 : Int32)), (.int (55296 : Int32)), (.int (57343 : Int32)), (.int (57344 : Int32)), (.int (65533 : Int32)), (.int (65534 : Int32)), (.int (65536 : Int32)), (.int (1114111 : Int32)), (.int (1114112 : Int32)), (.int (0 : Int32)), (.int (0 : Int32))] (.int (0 : Int32)) := Arv.set Ar15 q15 S15 M15 H15 G15 rfl W15 13 rfl (Nat.le_of_ble_eq_true rfl)
  have Zz15 := Nat.le_trans Zz14 (Keep.of_wr W15).1
  have Kk15 := Kk14.wr W15 (Or.inr sz_b1)
  have N15 := Fr.snoc X15 N14 g_b1
  refine go st15 ?_
  show Goes p.tables e below _ (T15.setTop (mkF m 81 #[.val (.int p0), .val (.int p1), .unset, .unset] [(.ref b1)]))
  refine go (fun t kt => XS.dup X15.here hx rfl (hb hby at_81) rfl rfl kt) ?_
  show Goes p.tables e below _ (T15.setTop (mkF m 82 #[.val (.int p0), .val (.int p1), .unset, .unset] [(.ref b1), (.ref b1)]))
  refine go (fun t kt => XS.bipush X15.here hx rfl (hb hby at_82) kt) ?_
  show Goes p.tables e below _ (T15.setTop (mkF m 84 #[.val (.int p0), .val (.int p1), .unset, .unset] [(.int (14 : Int32)), (.ref b1), (.ref b1)]))
  refine go (X15.ldcInt hx hown (mvT hZ (hw _ (List.mem_of_getElem? (i := 10) rfl))) (g := (mkF m 84 #[.val (.int p0), .val (.int p1), .unset, .unset] [(.int (14 : Int32)), (.ref b1), (.ref b1)])) rfl (hb hby at_84)) ?_
  show Goes p.tables e below _ (T15.setTop (mkF m 86 #[.val (.int p0), .val (.int p1), .unset, .unset] [(.int (-2147483648 : Int32)), (.int (14 : Int32)), (.ref b1), (.ref b1)]))
  obtain ⟨cl16, Ar16, q16, S16, M16, H16, G16⟩ := V_b1
  have hin16 : ¬ ((14 : Int32) < 0 ∨ cl16.slots.size ≤ ((14 : Int32)).toNatClampNeg) := inb_of S16 ⟨by decide, by decide⟩
  obtain ⟨T16, h16, X16, e16, W16, st16⟩ := stI X15 hx hZ e15 Ar16 (j := (14 : Int32)) hin16 (g := (mkF m 86 #[.val (.int p0), .val (.int p1), .unset, .unset] [(.int (-2147483648 : Int32)), (.int (14 : Int32)), (.ref b1), (.ref b1)])) rfl rfl (hb hby at_86)
  have V_b1 : Arv Z h16 b1 k1 .int (16 : Int32) [(.int (0 : Int32)), (.int (9 : Int32)), (.int (10 : Int32)), (.int (13 : Int32)), (.int (32 : Int32)), (.int (55295 : Int32)), (.int (55296 : Int32)), (.int (57343 : Int32)), (.int (57344 : Int32)), (.int (65533 : Int32)), (.int (65534 : Int32)), (.int (65536 : Int32)), (.int (1114111 : Int32)), (.int (1114112 : Int32)), (.int (-2147483648 : Int32)), (.int (0 : Int32))] (.int (0 : Int32)) := Arv.set Ar16 q16 S16 M16 H16 G16 rfl W16 14 rfl (Nat.le_of_ble_eq_true rfl)
  have Zz16 := Nat.le_trans Zz15 (Keep.of_wr W16).1
  have Kk16 := Kk15.wr W16 (Or.inr sz_b1)
  have N16 := Fr.snoc X16 N15 g_b1
  refine go st16 ?_
  show Goes p.tables e below _ (T16.setTop (mkF m 87 #[.val (.int p0), .val (.int p1), .unset, .unset] [(.ref b1)]))
  refine go (fun t kt => XS.dup X16.here hx rfl (hb hby at_87) rfl rfl kt) ?_
  show Goes p.tables e below _ (T16.setTop (mkF m 88 #[.val (.int p0), .val (.int p1), .unset, .unset] [(.ref b1), (.ref b1)]))
  refine go (fun t kt => XS.bipush X16.here hx rfl (hb hby at_88) kt) ?_
  show Goes p.tables e below _ (T16.setTop (mkF m 90 #[.val (.int p0), .val (.int p1), .unset, .unset] [(.int (15 : Int32)), (.ref b1), (.ref b1)]))
  refine go (X16.ldcInt hx hown (mvT hZ (hw _ (List.mem_of_getElem? (i := 11) rfl))) (g := (mkF m 90 #[.val (.int p0), .val (.int p1), .unset, .unset] [(.int (15 : Int32)), (.ref b1), (.ref b1)])) rfl (hb hby at_90)) ?_
  show Goes p.tables e below _ (T16.setTop (mkF m 92 #[.val (.int p0), .val (.int p1), .unset, .unset] [(.int (2147483647 : Int32)), (.int (15 : Int32)), (.ref b1), (.ref b1)]))
  obtain ⟨cl17, Ar17, q17, S17, M17, H17, G17⟩ := V_b1
  have hin17 : ¬ ((15 : Int32) < 0 ∨ cl17.slots.size ≤ ((15 : Int32)).toNatClampNeg) := inb_of S17 ⟨by decide, by decide⟩
  obtain ⟨T17, h17, X17, e17, W17, st17⟩ := stI X16 hx hZ e16 Ar17 (j := (15 : Int32)) hin17 (g := (mkF m 92 #[.val (.int p0), .val (.int p1), .unset, .unset] [(.int (2147483647 : Int32)), (.int (15 : Int32)), (.ref b1), (.ref b1)])) rfl rfl (hb hby at_92)
  have V_b1 : Arv Z h17 b1 k1 .int (16 : Int32) [(.int (0 : Int32)), (.int (9 : Int32)), (.int (10 : Int32)), (.int (13 : Int32)), (.int (32 : Int32)), (.int (55295 : Int32)), (.int (55296 : Int32)), (.int (57343 : Int32)), (.int (57344 : Int32)), (.int (65533 : Int32)), (.int (65534 : Int32)), (.int (65536 : Int32)), (.int (1114111 : Int32)), (.int (1114112 : Int32)), (.int (-2147483648 : Int32)), (.int (2147483647 : Int32))] (.int (0 : Int32)) := Arv.set Ar17 q17 S17 M17 H17 G17 rfl W17 15 rfl (Nat.le_of_ble_eq_true rfl)
  have Zz17 := Nat.le_trans Zz16 (Keep.of_wr W17).1
  have Kk17 := Kk16.wr W17 (Or.inr sz_b1)
  have N17 := Fr.snoc X17 N16 g_b1
  refine go st17 ?_
  show Goes p.tables e below _ (T17.setTop (mkF m 93 #[.val (.int p0), .val (.int p1), .unset, .unset] [(.ref b1)]))
  refine go (fun t kt => XS.astoreN X17.here hx rfl (hb hby at_93) rfl rfl (l' := #[.val (.int p0), .val (.int p1), .val (.ref b1), .unset]) rfl kt) ?_
  show Goes p.tables e below _ (T17.setTop (mkF m 94 #[.val (.int p0), .val (.int p1), .val (.ref b1), .unset] []))
  refine go (fun t kt => XS.iloadN X17.here hx rfl (hb hby at_94) rfl kt) ?_
  show Goes p.tables e below _ (T17.setTop (mkF m 95 #[.val (.int p0), .val (.int p1), .val (.ref b1), .unset] [(.int p1)]))
  refine go (fun t kt => XS.bipush X17.here hx rfl (hb hby at_95) kt) ?_
  show Goes p.tables e below _ (T17.setTop (mkF m 97 #[.val (.int p0), .val (.int p1), .val (.ref b1), .unset] [(.int (16 : Int32)), (.int p1)]))
  refine go (fun t kt => XS.iand X17.here hx rfl (hb hby at_97) rfl kt) ?_
  show Goes p.tables e below _ (T17.setTop (mkF m 98 #[.val (.int p0), .val (.int p1), .val (.ref b1), .unset] [(.int (p1 &&& (16 : Int32)))]))
  suffices KK : ∀ (m18 : Int32), m18 = (if (p1 &&& (16 : Int32)) = (0 : Int32) then ((own_at (p1 &&& (15 : Int32)).toNatClampNeg) + (p0 % (3 : Int32))) else p0) → Goes p.tables e below (fun s₂ o => ∃ v L, o = .returned v ∧ Q0 Z p0 p1 h0 n0 v s₂.heap L ∧ FrameEnd s o s₂ L 1 16) (T17.setTop (mkF m 115 #[.val (.int p0), .val (.int p1), .val (.ref b1), .unset] [(.int m18)])) by
    by_cases hc19 : (p1 &&& (16 : Int32)) = (0 : Int32)
    ·
      refine go (fun t kt => XS.ifYes X17.here hx rfl (pc0 := 98) (pc' := 105) rfl (hb hby at_98) rfl ((if0 _ _).trans (teq hc19).1) (by decide) (by decide) kt) ?_
      show Goes p.tables e below _ (T17.setTop (mkF m 105 #[.val (.int p0), .val (.int p1), .val (.ref b1), .unset] []))
      refine go (fun t kt => XS.aloadN X17.here hx rfl (hb hby at_105) rfl rfl kt) ?_
      show Goes p.tables e below _ (T17.setTop (mkF m 106 #[.val (.int p0), .val (.int p1), .val (.ref b1), .unset] [(.ref b1)]))
      refine go (fun t kt => XS.iloadN X17.here hx rfl (hb hby at_106) rfl kt) ?_
      show Goes p.tables e below _ (T17.setTop (mkF m 107 #[.val (.int p0), .val (.int p1), .val (.ref b1), .unset] [(.int p1), (.ref b1)]))
      refine go (fun t kt => XS.bipush X17.here hx rfl (hb hby at_107) kt) ?_
      show Goes p.tables e below _ (T17.setTop (mkF m 109 #[.val (.int p0), .val (.int p1), .val (.ref b1), .unset] [(.int (15 : Int32)), (.int p1), (.ref b1)]))
      refine go (fun t kt => XS.iand X17.here hx rfl (hb hby at_109) rfl kt) ?_
      show Goes p.tables e below _ (T17.setTop (mkF m 110 #[.val (.int p0), .val (.int p1), .val (.ref b1), .unset] [(.int (p1 &&& (15 : Int32))), (.ref b1)]))
      obtain ⟨cl20, Ar20, q20, S20, M20, H20, G20⟩ := id V_b1
      have hin20 : ¬ ((p1 &&& (15 : Int32)) < 0 ∨ cl20.slots.size ≤ ((p1 &&& (15 : Int32))).toNatClampNeg) := inb_of S20 (own_idx p1)
      have hat20 : cl20.slots[((p1 &&& (15 : Int32))).toNatClampNeg]? = some (.int (own_at (p1 &&& (15 : Int32)).toNatClampNeg)) := H20.at hin20 (own_hat _)
      refine go (X17.iaload hx (j := (p1 &&& (15 : Int32))) (v := (.int (own_at (p1 &&& (15 : Int32)).toNatClampNeg))) (by rw [e17]; exact Ar20.1) (State.isArrayOf_alike hZ.alike Ar20.2.1) Ar20.2.2 hin20 hat20 (g := (mkF m 110 #[.val (.int p0), .val (.int p1), .val (.ref b1), .unset] [(.int (p1 &&& (15 : Int32))), (.ref b1)])) rfl rfl (hb hby at_110)) ?_
      show Goes p.tables e below _ (T17.setTop (mkF m 111 #[.val (.int p0), .val (.int p1), .val (.ref b1), .unset] [(.int (own_at (p1 &&& (15 : Int32)).toNatClampNeg))]))
      refine go (fun t kt => XS.iloadN X17.here hx rfl (hb hby at_111) rfl kt) ?_
      show Goes p.tables e below _ (T17.setTop (mkF m 112 #[.val (.int p0), .val (.int p1), .val (.ref b1), .unset] [(.int p0), (.int (own_at (p1 &&& (15 : Int32)).toNatClampNeg))]))
      refine go (fun t kt => XS.iconst X17.here hx rfl (hb hby at_112) kt) ?_
      show Goes p.tables e below _ (T17.setTop (mkF m 113 #[.val (.int p0), .val (.int p1), .val (.ref b1), .unset] [(.int (3 : Int32)), (.int p0), (.int (own_at (p1 &&& (15 : Int32)).toNatClampNeg))]))
      refine go (fun t kt => iremM X17 hx rfl (hb hby at_113) rfl (by decide) kt) ?_
      show Goes p.tables e below _ (T17.setTop (mkF m 114 #[.val (.int p0), .val (.int p1), .val (.ref b1), .unset] [(.int (p0 % (3 : Int32))), (.int (own_at (p1 &&& (15 : Int32)).toNatClampNeg))]))
      refine go (fun t kt => XS.iadd X17.here hx rfl (hb hby at_114) rfl kt) ?_
      show Goes p.tables e below _ (T17.setTop (mkF m 115 #[.val (.int p0), .val (.int p1), .val (.ref b1), .unset] [(.int ((own_at (p1 &&& (15 : Int32)).toNatClampNeg) + (p0 % (3 : Int32))))]))
      exact KK _ (by rw [if_pos hc19])
    ·
      refine go (fun t kt => XS.ifNo X17.here hx rfl (hb hby at_98) rfl ((if0 _ _).trans (feq hc19).1) kt) ?_
      show Goes p.tables e below _ (T17.setTop (mkF m 101 #[.val (.int p0), .val (.int p1), .val (.ref b1), .unset] []))
      refine go (fun t kt => XS.iloadN X17.here hx rfl (hb hby at_101) rfl kt) ?_
      show Goes p.tables e below _ (T17.setTop (mkF m 102 #[.val (.int p0), .val (.int p1), .val (.ref b1), .unset] [(.int p0)]))
      refine go (fun t kt => XS.goto X17.here hx rfl (pc0 := 102) (pc' := 115) rfl (hb hby at_102) (by decide) (by decide) kt) ?_
      show Goes p.tables e below _ (T17.setTop (mkF m 115 #[.val (.int p0), .val (.int p1), .val (.ref b1), .unset] [(.int p0)]))
      exact KK _ (by rw [if_neg hc19])
  intro m18 hm18
  show Goes p.tables e below _ (T17.setTop (mkF m 115 #[.val (.int p0), .val (.int p1), .val (.ref b1), .unset] [(.int m18)]))
  refine go (fun t kt => XS.istoreN X17.here hx rfl (hb hby at_115) rfl (l' := #[.val (.int p0), .val (.int p1), .val (.ref b1), .val (.int m18)]) rfl kt) ?_
  show Goes p.tables e below _ (T17.setTop (mkF m 116 #[.val (.int p0), .val (.int p1), .val (.ref b1), .val (.int m18)] []))
  refine go (fun t kt => XS.iloadN X17.here hx rfl (hb hby at_116) rfl kt) ?_
  show Goes p.tables e below _ (T17.setTop (mkF m 117 #[.val (.int p0), .val (.int p1), .val (.ref b1), .val (.int m18)] [(.int m18)]))
  obtain ⟨_, _, ⟨T21, L21, k21, n21⟩, -, X21, ⟨Lc21, hQ21, l21, y21, z21⟩, st21⟩ := Jvm.LawKit.callS X17 hx (y := (⟨"com/example/axsis/axsis/tree/XmlSyntax", "isChar", "(I)Z"⟩ : MethodName)) hown (mvT hZ (hw _ (List.mem_of_getElem? (i := 12) rfl))) (mvT hZ (hw _ (List.mem_of_getElem? (i := 13) rfl))) (mvT hZ (hw _ (List.mem_of_getElem? (i := 14) rfl))) (mvT hZ (hw _ (List.mem_of_getElem? (i := 15) rfl))) (by decide) (backOf (W := 0) (rm1 l Z a0 hw [] m18 h17 n0 Zz17 ) hZ (hw _ (List.mem_of_getElem? (i := 15) rfl)) (hw _ (List.mem_of_getElem? (i := 14) rfl)) (by decide) (by decide)) (g := (mkF m 117 #[.val (.int p0), .val (.int p1), .val (.ref b1), .val (.int m18)] [(.int m18)])) rfl (by rw [hml]; rfl) (argsL := [(.int m18)]) (rest := []) (lenOf pd_0 rfl) rfl (by show 2 * 0 + _ ≤ _; exact Nat.le_of_eq rfl) (hb hby at_117) (fun _ _ => ⟨rfl, e17, (by decide : 1 + 0 ≤ _), (by decide : 16 + 0 ≤ _)⟩)
  dsimp only [Pt.U, Pt.locs, Pt.cells, Pt.slots] at X21 l21 y21 z21 st21 hQ21
  subst l21 y21 z21
  obtain ⟨rfl, Nq21, e21⟩ := hQ21
  have N21 := Fr.app N17 Nq21
  refine go st21 ?_
  show Goes p.tables e below _ (T21.setTop (mkF m 120 #[.val (.int p0), .val (.int p1), .val (.ref b1), .val (.int m18)] [(.int (own_isChar m18))]))
  refine go (fun t kt => XS.iloadN X21.here hx rfl (hb hby at_120) rfl kt) ?_
  show Goes p.tables e below _ (T21.setTop (mkF m 121 #[.val (.int p0), .val (.int p1), .val (.ref b1), .val (.int m18)] [(.int m18), (.int (own_isChar m18))]))
  obtain ⟨_, _, ⟨T22, L22, k22, n22⟩, -, X22, ⟨Lc22, hQ22, l22, y22, z22⟩, st22⟩ := Jvm.LawKit.callS X21 hx (y := (⟨"com/example/axsis/axsis/tree/XmlSyntaxIsCharPinLaw", "expected", "(I)Z"⟩ : MethodName)) hown (mvT hZ (hw _ (List.mem_of_getElem? (i := 16) rfl))) (mvT hZ (hw _ (List.mem_of_getElem? (i := 17) rfl))) (mvT hZ (hw _ (List.mem_of_getElem? (i := 18) rfl))) (mvT hZ (hw _ (List.mem_of_getElem? (i := 19) rfl))) (by decide) (backOf (W := 1) (rm2 l Z a0 hw [] m18 h17 n0 Zz17 ) hZ (hw _ (List.mem_of_getElem? (i := 19) rfl)) (hw _ (List.mem_of_getElem? (i := 18) rfl)) (by decide) (by decide)) (g := (mkF m 121 #[.val (.int p0), .val (.int p1), .val (.ref b1), .val (.int m18)] [(.int m18), (.int (own_isChar m18))])) rfl (by rw [hml]; rfl) (argsL := [(.int m18)]) (rest := [(.int (own_isChar m18))]) (lenOf pd_0 rfl) rfl (by show 2 * 0 + _ ≤ _; exact Nat.le_of_eq rfl) (hb hby at_121) (fun _ _ => ⟨rfl, e21, (by decide : 1 + 0 ≤ _), (by decide : 16 + 0 ≤ _)⟩)
  dsimp only [Pt.U, Pt.locs, Pt.cells, Pt.slots] at X22 l22 y22 z22 st22 hQ22
  subst l22 y22 z22
  obtain ⟨rfl, Nq22, e22⟩ := hQ22
  have N22 := Fr.app N21 Nq22
  refine go st22 ?_
  show Goes p.tables e below _ (T22.setTop (mkF m 124 #[.val (.int p0), .val (.int p1), .val (.ref b1), .val (.int m18)] [(.int (own_exp m18)), (.int (own_isChar m18))]))
  refine go (fun t kt => XS.icmpNo X22.here hx rfl (hb hby at_124) rfl (teq (own_same _)).2 kt) ?_
  show Goes p.tables e below _ (T22.setTop (mkF m 127 #[.val (.int p0), .val (.int p1), .val (.ref b1), .val (.int m18)] []))
  refine go (fun t kt => XS.iconst X22.here hx rfl (hb hby at_127) kt) ?_
  show Goes p.tables e below _ (T22.setTop (mkF m 128 #[.val (.int p0), .val (.int p1), .val (.ref b1), .val (.int m18)] [(.int (1 : Int32))]))
  refine go (fun t kt => XS.goto X22.here hx rfl (pc0 := 128) (pc' := 132) rfl (hb hby at_128) (by decide) (by decide) kt) ?_
  show Goes p.tables e below _ (T22.setTop (mkF m 132 #[.val (.int p0), .val (.int p1), .val (.ref b1), .val (.int m18)] [(.int (1 : Int32))]))
  obtain ⟨fs, hr, hrun, hended, hW, hsame⟩ := X22.leave (v := some (.int (1 : Int32))) (fun h => by rw [Bd.returns] at h; cases h)
  refine ⟨_, _, retN X22 hx (t := .boolean) Bd.returns (by simp) (hb hby at_132) hr, hrun, hended, _, _, rfl, ?_, ⟨_, rfl⟩, hW, hsame.mono (by decide) (by decide)⟩
  show Q0 Z p0 p1 h0 n0 _ T22.heap _
  rw [e22]
  exact ⟨rfl, N22⟩
set_option maxRecDepth 65536 in
set_option maxHeartbeats 40000000 in
theorem comes_1 {Post : Tables → Env → Array Value → State → Outcome → State → Prop} (hpost : ∀ tb e args s v u, (limb_1_1.after args s (.returned v) u = true ∧ limb_1_2.after args s (.returned v) u = true ∧ True) → FrameEnd s (.returned v) u (Jvm.fieldLocs frame_1_writes args s ++ Jvm.arrayLocs frame_1_arrays args s ++ Jvm.staticLocs frame_1_statics s) 16 128 → Post tb e args s (.returned v) u) :
    ArmFor flags0 classFile x code maxLocals ret World_1 tables_1 room_1 Calls_1 rest_1 Pre_1 Post := by
  intro l hfl _ _ p e ha hc hk s m args below hf hA hF happ hP
  obtain ⟨hcalls, hrest, hpre⟩ := hP
  obtain ⟨-, -, -, hnamed, -, -, -, hat⟩ := (Spec.applies_iff hf).mp happ
  obtain ⟨hg, hn⟩ := and_e (Cond.before_iff.mp (show (Jvm.Cond.and given_1 narrow_1).before args s = true from hpre))
  obtain ⟨u1, u2⟩ := and_e hg
  obtain ⟨u3, u4⟩ := and_e u2
  obtain ⟨w0, w1, rfl⟩ : ∃ w0 w1 : Value, args = #[w0, w1] := by
    have hs : args.size = 2 := by simpa [Cond.value, given_1] using u1
    obtain ⟨L⟩ := args
    match L, hs with
    | [w0, w1], _ => exact ⟨w0, w1, rfl⟩
  have hw := fun d (hd : d ∈ tables_1) => atoms_spec (ws := Jvm.Cond.code x code maxLocals ret :: tables_1) hat d (List.mem_cons_of_mem _ hd)
  obtain ⟨i0, ei0⟩ := is_v u3
  obtain rfl : w0 = (.int i0) := Option.some.inj ei0
  obtain ⟨i1, ei1⟩ := is_v u4
  obtain rfl : w1 = (.int i1) := Option.some.inj ei1
  obtain ⟨n, o, h1, h2, h3, _, L, rfl, ⟨rfl, N⟩, hq⟩ := rm0 l s _ hw tables_1 i0 i1  s.heap s.heap.size (Nat.le_refl _)  p e ha hc hk s m _ below hf ((Spec.applies_iff_loose hf).mp happ).1 ⟨rfl, State.Warmed39.refl s, rfl⟩ trivial
  refine ⟨n, _, h1, h2, h3, hpost _ _ _ _ _ _ ⟨Cond.after_iff.mpr rfl, Cond.after_iff.mpr (eq_i res_at (Term.int_eval (1)) rfl), trivial⟩ ⟨hq.1, hq.2.1, (hq.2.2.sift fun y hy => Or.inr (N y hy)).mono (by decide) (by decide)⟩⟩
theorem main_1_1 : Claimed_1_1 := comes_1 fun _ _ _ _ _ _ h hF => ⟨h.1, hF⟩
theorem main_1_2 : Claimed_1_2 := comes_1 fun _ _ _ _ _ _ h hF => ⟨h.2.1, hF⟩
end Jvm.Pilot.@@N@@
namespace Jvm.Pilot.@@N@@
open Jvm Jvm.ClassFile Sem Op Lib Jvm.Free Jvm.Stand Jvm.Pilot.@@N@@.Jvm.D
/-! MADE BY PROGRAM (witnessworld.py) out of the Statement's table words and the real class files: 9 classes; the members and pool entries that the words name. The judged class is class 1, her method 1. -/
namespace start1
open Jvm.ClassFile
def u (s : String) : CpInfo := .utf8 (stringToUtf16 s)
/-- a pool by its gaps: so many unusable entries, then the entry; so many at the end -/
def gap : Nat → List CpInfo → List CpInfo
  | 0, r => r
  | n + 1, r => .unusable :: gap n r
def poolList (es : List (Nat × CpInfo)) (last : Nat) : List CpInfo := es.foldr (fun e r => gap e.1 (e.2 :: r)) (gap last [])
def pool (es : List (Nat × CpInfo)) (last : Nat) : Array CpInfo := ⟨poolList es last⟩
def fileOf (pool : Array CpInfo) (this : Nat) (attrs : Array Attribute := #[]) (ms : Array MethodInfo := #[]) (fl : Nat := 33) (sup : Nat := 0) (ifs : Array Nat := #[]) (fds : Array FieldInfo := #[]) : ClassFile where
  minorVersion := 0
  majorVersion := 65
  constantPool := pool
  accessFlags := fl
  thisClass := this
  superClass := sup
  interfaces := ifs
  fields := fds
  methods := ms
  attributes := attrs
def plain (name : String) (sup : Option ClassId) : Class where
  name := name
  kind := .ordinary
  loader := none
  accessFlags := 33
  super := sup
  interfaces := #[]
  cf := none
  fields := #[]
  methods := #[]
  instanceTypes := #[]
  staticTypes := #[]
  resolved := #[]
  callSites := []
  init := .initialized
  statics := none
  mirror := none

def pool0 : Array CpInfo := pool [(5, u "<init>"), (0, u "()V"), (1, .class_ 10), (1, u "java/lang/Object")] 113

def k0m0 : Method := { name := "<init>", desc := "()V", sig := { parameters := [], returnType := none }, accessFlags := 1, code := none }
/-- java/lang/Object -/
def k0 : Class := { plain "java/lang/Object" none with
  accessFlags := 33
  interfaces := #[]
  cf := some (fileOf pool0 8 #[] #[{ accessFlags := 1, nameIndex := 5, descriptorIndex := 6, attributes := #[] }] 33 0 #[] #[])
  fields := #[]
  methods := #[k0m0]
  instanceTypes := #[]
  staticTypes := #[]
  resolved := Array.replicate 124 none
  statics := none }

def pool1 : Array CpInfo := pool [(2, .class_ 4), (1, u "java/lang/Object"), (0, u "<init>"), (0, u "()V"), (0, .integer 55295), (0, .integer 55296), (0, .integer 57343), (0, .integer 57344), (0, .integer 65533), (0, .integer 65534), (0, .integer 65536), (0, .integer 1114111), (0, .integer 1114112), (2, .integer 2147483648), (0, .integer 2147483647), (0, .methodref 21 22), (0, .class_ 23), (0, .nameAndType 24 25), (0, u "com/example/axsis/axsis/tree/XmlSyntax"), (0, u "isChar"), (0, u "(I)Z"), (0, .methodref 27 28), (0, .class_ 29), (0, .nameAndType 30 25), (0, u "com/example/axsis/axsis/tree/XmlSyntaxIsCharPinLaw"), (0, u "expected"), (0, .integer 65535), (2, u "law"), (0, u "(II)Z")] 5

def k1m0 : Method := { name := "<init>", desc := "()V", sig := { parameters := [], returnType := none }, accessFlags := 2, code := none }
def k1c1 : Code := { maxStack := 4, maxLocals := 4, code := code, exceptionTable := #[], attributes := #[] }
def k1m1 : Method := { name := "law", desc := "(II)Z", sig := { parameters := [.int, .int], returnType := some .boolean }, accessFlags := 9, code := some k1c1 }
def k1c2 : Code := { maxStack := 2, maxLocals := 5, code := method_3_code, exceptionTable := #[], attributes := #[] }
def k1m2 : Method := { name := "expected", desc := "(I)Z", sig := { parameters := [.int], returnType := some .boolean }, accessFlags := 10, code := some k1c2 }
/-- com/example/axsis/axsis/tree/XmlSyntaxIsCharPinLaw -/
def k1 : Class := { plain "com/example/axsis/axsis/tree/XmlSyntaxIsCharPinLaw" (some 0) with
  accessFlags := 49
  interfaces := #[]
  cf := some (fileOf pool1 27 #[] #[{ accessFlags := 2, nameIndex := 5, descriptorIndex := 6, attributes := #[] }, { accessFlags := 9, nameIndex := 34, descriptorIndex := 35, attributes := #[] }, { accessFlags := 10, nameIndex := 30, descriptorIndex := 25, attributes := #[] }] 49 2 #[] #[])
  fields := #[]
  methods := #[k1m0, k1m1, k1m2]
  instanceTypes := #[]
  staticTypes := #[]
  resolved := Array.replicate 41 none
  statics := none }

def pool2 : Array CpInfo := pool [(2, .class_ 4), (1, u "java/lang/Object"), (0, u "<init>"), (0, u "()V"), (0, .integer 55295), (0, .integer 57344), (0, .integer 65533), (0, .integer 65536), (0, .integer 1114111), (11, .class_ 25), (1, u "com/example/axsis/axsis/tree/XmlSyntax"), (26, u "(I)Z"), (20, u "NAME_START_RANGES"), (0, u "[I"), (6, u "NAME_CHAR_RANGES"), (7, u "isChar")] 8

def k2m0 : Method := { name := "<init>", desc := "()V", sig := { parameters := [], returnType := none }, accessFlags := 2, code := none }
def k2c1 : Code := { maxStack := 2, maxLocals := 1, code := prog_93_method_3_code, exceptionTable := #[], attributes := #[] }
def k2m1 : Method := { name := "isChar", desc := "(I)Z", sig := { parameters := [.int], returnType := some .boolean }, accessFlags := 9, code := some k2c1 }
/-- com/example/axsis/axsis/tree/XmlSyntax -/
def k2 : Class := { plain "com/example/axsis/axsis/tree/XmlSyntax" (some 0) with
  accessFlags := 33
  interfaces := #[]
  cf := some (fileOf pool2 23 #[] #[{ accessFlags := 2, nameIndex := 5, descriptorIndex := 6, attributes := #[] }, { accessFlags := 9, nameIndex := 89, descriptorIndex := 52, attributes := #[] }] 33 2 #[] #[{ accessFlags := 26, nameIndex := 73, descriptorIndex := 74, attributes := #[] }, { accessFlags := 26, nameIndex := 81, descriptorIndex := 74, attributes := #[] }])
  fields := #[{ name := "NAME_START_RANGES", type := (.array .int), accessFlags := 26, slot := 0, constantValue := 0 }, { name := "NAME_CHAR_RANGES", type := (.array .int), accessFlags := 26, slot := 1, constantValue := 0 }]
  methods := #[k2m0, k2m1]
  instanceTypes := #[]
  staticTypes := #[(.array .int), (.array .int)]
  resolved := Array.replicate 98 none
  statics := none }

def pool3 : Array CpInfo := pool [(1, u "java/lang/Cloneable"), (0, .class_ 1), (0, u "java/lang/Object"), (0, .class_ 3)] 3

/-- java/lang/Cloneable -/
def k3 : Class := { plain "java/lang/Cloneable" (some 0) with
  accessFlags := 1537
  interfaces := #[]
  cf := some (fileOf pool3 2 #[] #[] 1537 4 #[] #[])
  fields := #[]
  methods := #[]
  instanceTypes := #[]
  staticTypes := #[]
  resolved := Array.replicate 8 none
  statics := none }

def pool4 : Array CpInfo := pool [(1, u "java/io/Serializable"), (0, .class_ 1), (0, u "java/lang/Object"), (0, .class_ 3)] 3

/-- java/io/Serializable -/
def k4 : Class := { plain "java/io/Serializable" (some 0) with
  accessFlags := 1537
  interfaces := #[]
  cf := some (fileOf pool4 2 #[] #[] 1537 4 #[] #[])
  fields := #[]
  methods := #[]
  instanceTypes := #[]
  staticTypes := #[]
  resolved := Array.replicate 8 none
  statics := none }

/-- the primitive byte -/
def k5 : Class := { plain "byte" none with kind := .primitive 'B', accessFlags := 0x411 }
/-- [B -/
def k6 : Class := { plain "[B" (some 0) with kind := .array 5 .byte, interfaces := #[3, 4], accessFlags := 1041 }

/-- the primitive int -/
def k7 : Class := { plain "int" none with kind := .primitive 'I', accessFlags := 0x411 }
/-- [I -/
def k8 : Class := { plain "[I" (some 0) with kind := .array 7 .int, interfaces := #[3, 4], accessFlags := 1041 }

def heap : Heap := #[]
def classes : Array Class := #[k0, k1, k2, k3, k4, k5, k6, k7, k8]
def interned : List (Array UInt16 × Addr) := []
def slotsUsed : Nat := 0
def theMethod : MethodId := ⟨1, 1⟩
def args0 : Array Value := #[.int 5, .int 7]
def aboutOver (below : List Frame) : State where
  vm := { classes := classes, interned := interned.toArray }
  heap := heap
  slotsUsed := slotsUsed
  threads := #[{ frames := .invoking theMethod args0 :: below }]
def below0 : List Frame := [.native { method := ⟨0, 0⟩, args := #[] }]
def about1 : State := aboutOver below0
def p0 : Program := .bare "" "" ""
def e0 : Env := launch0.env 0 0 0
theorem w_frames : about1.frames = Frame.invoking theMethod args0 :: below0 := rfl
set_option maxRecDepth 65536 in
theorem w_args : argsFit about1.vm theMethod args0 = true := by decide +kernel
set_option maxRecDepth 65536 in
theorem w_heap : heapFits about1 = true := by decide +kernel
set_option maxRecDepth 65536 in
theorem w_runnable : about1.curStatus? = some .runnable := by decide +kernel
set_option maxRecDepth 65536 in
theorem w_alone : about1.alone = true := by decide +kernel
set_option maxRecDepth 65536 in
theorem w_named : about1.methodNamed? x = some theMethod := by decide +kernel
set_option maxRecDepth 65536 in
theorem w_hears : about1.hears theMethod below0 = true := by decide +kernel
set_option maxRecDepth 65536 in
theorem w_ripe : about1.ripe theMethod args0 below0 = true := by decide +kernel
theorem w_running : about1.status = .running := rfl
set_option maxRecDepth 65536 in
theorem w_room : about1.hasRoom e0.platform room_1 = true :=
  launch0.hasRoom_least _ room_1 (by decide +kernel) (by decide +kernel) (by decide +kernel) (by decide +kernel) (by decide +kernel) (by decide +kernel)
theorem allAtoms_all (ts : List Jvm.Cond) (a : Array Jvm.Value) (st : Jvm.State) : (allAtoms ts).before a st = ts.all (fun c => c.before a st) := by
  induction ts with
  | nil => rfl
  | cons c t ih =>
    show (Jvm.Cond.and c (allAtoms t)).before a st = _
    rw [Jvm.Cond.before_and, ih, List.all_cons]
def words1 : List Jvm.Cond := Jvm.Cond.code x code maxLocals ret :: tables_1
/-- a 'code' word, met by the world's own term for the bytes: nothing is compared byte by byte -/
theorem code_word {y : MethodName} {bytes : ByteArray} {mx : Nat} {rt : Option FieldType} {a : Array Value} {s : State} {m : MethodId} {meth : Method} {c : Code} (h1 : s.methodNamed? y = some m) (h2 : s.vm.method? m = some meth) (h3 : meth.code = some c) (h4 : c.code = bytes)
    (h5 : (c.maxLocals == mx && c.exceptionTable.isEmpty && decide (c.maxStack ≤ mostOperands) && decide (meth.sig.returnType = rt) && !meth.locks && decide (parseMethodDescriptor y.desc = some meth.sig)) = true) : (Jvm.Cond.code y bytes mx rt).before a s = true := by
  simp only [Bool.and_eq_true, beq_iff_eq, Bool.not_eq_true', decide_eq_true_eq] at h5
  obtain ⟨⟨⟨⟨⟨g1, g2⟩, g3⟩, g4⟩, g5⟩, g6⟩ := h5
  simp [Cond.before, Cond.holds, Cond.value, h1, h2, h3, h4, g1, g2, g3, g4, g5, g6]
def isCode : Jvm.Cond → Bool
  | .code _ _ _ _ => true
  | _ => false
theorem all_split {L : List Jvm.Cond} {P : Jvm.Cond → Bool} (h1 : L.all (fun c => isCode c || P c) = true) (h2 : ∀ c ∈ L.filter isCode, P c = true) : L.all P = true := by
  refine List.all_eq_true.mpr fun c hc => ?_
  have h := List.all_eq_true.mp h1 c hc
  rcases Bool.eq_false_or_eq_true (isCode c) with hi | hi
  · exact h2 c (List.mem_filter.mpr ⟨hc, hi⟩)
  · simpa [hi] using h
set_option maxRecDepth 65536 in
theorem w_c0 : (Jvm.Cond.code x code maxLocals ret).before args0 about1 = true := code_word (m := ⟨1, 1⟩) (meth := k1m1) (c := k1c1) (by decide +kernel) rfl rfl rfl (by decide +kernel)
set_option maxRecDepth 65536 in
theorem w_c1 : (Jvm.Cond.code ({ cls := "com/example/axsis/axsis/tree/XmlSyntax", name := "isChar", desc := "(I)Z" } : Jvm.MethodName) prog_93_method_3_code (1 : Nat) (Option.some Jvm.ClassFile.FieldType.boolean)).before args0 about1 = true := code_word (m := ⟨2, 1⟩) (meth := k2m1) (c := k2c1) (by decide +kernel) rfl rfl rfl (by decide +kernel)
set_option maxRecDepth 65536 in
theorem w_c2 : (Jvm.Cond.code ({ cls := "com/example/axsis/axsis/tree/XmlSyntaxIsCharPinLaw", name := "expected", desc := "(I)Z" } : Jvm.MethodName) method_3_code (5 : Nat) (Option.some Jvm.ClassFile.FieldType.boolean)).before args0 about1 = true := code_word (m := ⟨1, 2⟩) (meth := k1m2) (c := k1c2) (by decide +kernel) rfl rfl rfl (by decide +kernel)
def codes1 : List Jvm.Cond := [Jvm.Cond.code x code maxLocals ret, Jvm.Cond.code ({ cls := "com/example/axsis/axsis/tree/XmlSyntax", name := "isChar", desc := "(I)Z" } : Jvm.MethodName) prog_93_method_3_code (1 : Nat) (Option.some Jvm.ClassFile.FieldType.boolean), Jvm.Cond.code ({ cls := "com/example/axsis/axsis/tree/XmlSyntaxIsCharPinLaw", name := "expected", desc := "(I)Z" } : Jvm.MethodName) method_3_code (5 : Nat) (Option.some Jvm.ClassFile.FieldType.boolean)]
set_option maxRecDepth 65536 in
theorem codes_eq : words1.filter isCode = codes1 := rfl
theorem w_codes : ∀ c ∈ words1.filter isCode, c.before args0 about1 = true := by
  rw [codes_eq]
  intro c hc
  simp only [codes1, List.mem_cons, List.not_mem_nil, or_false] at hc
  rcases hc with rfl | rfl | rfl
  · exact w_c0
  · exact w_c1
  · exact w_c2
set_option maxRecDepth 65536 in
theorem w_t1 : (words1.take 24).all (fun c => isCode c || c.before args0 about1) = true := by decide +kernel
set_option maxRecDepth 65536 in
theorem w_t2 : (words1.drop 24).all (fun c => isCode c || c.before args0 about1) = true := by decide +kernel
theorem w_tables : (allAtoms (Jvm.Cond.code x code maxLocals ret :: tables_1)).before args0 about1 = true := by
  rw [allAtoms_all]
  show words1.all (fun c => c.before args0 about1) = true
  refine all_split ?_ w_codes
  rw [← List.take_append_drop 24 words1, List.all_append, w_t1, w_t2]
  rfl
set_option maxRecDepth 65536 in
theorem w_case : (Jvm.Cond.and given_1 narrow_1).before args0 about1 = true := by decide +kernel
theorem w_applies : (headSpec (Jvm.Cond.code x code maxLocals ret :: tables_1) room_1).applies x e0.platform about1 = true :=
  (Spec.applies_iff w_frames).mpr ⟨w_running, w_runnable, w_alone, w_named, w_hears, w_ripe, w_room, w_tables⟩
theorem atStart : AtStart classFile x code maxLocals ret World_1 tables_1 room_1 Calls_1 rest_1 Pre_1 launch0 p0 e0 about1 theMethod args0 below0 :=
  ⟨lists_1, trivial, launch0.admits_env _ _ _, launch0.least_env, fairChoices_fair.cas, fairChoices_fair.clock, w_frames, w_args, w_heap, w_applies, trivial, trivial, w_case⟩
end start1
theorem witness_1 : WitnessClaimed_1 := ⟨start1.p0, start1.e0, start1.about1, start1.theMethod, start1.args0, start1.below0, start1.atStart⟩
end Jvm.Pilot.@@N@@

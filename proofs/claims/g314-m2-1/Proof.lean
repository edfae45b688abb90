import JvmDerived
import JvmDerived.Pilot.@@N@@Statement
import JvmDerived.Pilot.@@N@@Code
set_option linter.unusedVariables false
set_option linter.unusedSimpArgs false
@@BLOCK:NumsL.lean.txt@@
namespace Jvm.Pilot.@@N@@
open Jvm Jvm.ClassFile Sem Op Lib Jvm.Free Jvm.Stand Jvm.LawKit Jvm.RoadKit Bundle Jvm.Pilot.@@N@@.Jvm.D
def Goes (tb : Tables) (e : Env) (below : List Frame) (G : State → Outcome → Prop) (A : State) : Prop := ∃ s₂ o, Steps tb e below A s₂ ∧ s₂.status = .running ∧ Ended s₂ below o ∧ G s₂ o
theorem go {tb : Tables} {e : Env} {below : List Frame} {G : State → Outcome → Prop} {A B : State} (h : ∀ t, Steps tb e below B t → Steps tb e below A t) (k : Goes tb e below G B) : Goes tb e below G A := by
  obtain ⟨s₂, o, h1, h2⟩ := k; exact ⟨s₂, o, h _ h1, h2⟩
theorem goEnd {tb : Tables} {e : Env} {below : List Frame} {G : State → Outcome → Prop} {A B : State} (h : ∀ t, Steps tb e below B t → Steps tb e below A t) (k : Goes tb e below G B) : ∃ s₂ o, Steps tb e below A s₂ ∧ s₂.status = .running ∧ Ended s₂ below o ∧ G s₂ o := go h k
theorem own_sta_keep {Z : State} {h h' : Heap} {C n d K : String} {v : Value} {a : Addr} (S : Sta Z h C n d v) (E : Exa Z h a K) (Kp : Keep h h' [a]) : Sta Z h' C n d v := by
  obtain ⟨cf, i, k, f, st, cell, h1, h2, h3, h4, h5, h6, h7⟩ := S
  obtain ⟨c', k', e1, -, -, e4, -⟩ := E
  refine ⟨cf, i, k, f, st, cell, h1, h2, h3, h4, Kp.2.1 st cell h5 (fun q => ?_), h6, h7⟩
  have q' : st = a := by simpa using q
  subst q'
  cases h5.symm.trans e1
  rw [e4] at h6; cases h6
abbrev iv (x : Int32) : Slot := .val (.int x)
abbrev jv (x : Int64) : Slot := .val (.long x)
abbrev rv (x : Addr) : Slot := .val (.ref x)
abbrev Go (p : Program) (e : Env) (below : List Frame) (G : State → Outcome → Prop) (m : MethodId) (T : State) (pc : Nat) (L : Array Slot) (S : List Value) : Prop := Goes p.tables e below G (T.setTop (mkF m pc L S))
theorem d1_0 : decode prog_42_method_23_code 0 = .ok (.iconst 0, 1) := by decide +kernel
theorem d1_1 : decode prog_42_method_23_code 1 = .ok (.istore_n 3, 1) := by decide +kernel
theorem d1_2 : decode prog_42_method_23_code 2 = .ok (.iload_n 1, 1) := by decide +kernel
theorem d1_3 : decode prog_42_method_23_code 3 = .ok (.istore 4, 2) := by decide +kernel
theorem d1_5 : decode prog_42_method_23_code 5 = .ok (.iload 4, 2) := by decide +kernel
theorem d1_7 : decode prog_42_method_23_code 7 = .ok (.iload_n 1, 1) := by decide +kernel
theorem d1_8 : decode prog_42_method_23_code 8 = .ok (.iload_n 2, 1) := by decide +kernel
theorem d1_9 : decode prog_42_method_23_code 9 = .ok (.iadd, 1) := by decide +kernel
theorem d1_10 : decode prog_42_method_23_code 10 = .ok (.if_icmp .ge 19, 3) := by decide +kernel
theorem d1_29 : decode prog_42_method_23_code 29 = .ok (.iload_n 3, 1) := by decide +kernel
theorem d1_30 : decode prog_42_method_23_code 30 = .ok (.iload_n 3, 1) := by decide +kernel
theorem d1_31 : decode prog_42_method_23_code 31 = .ok (.bipush 16, 2) := by decide +kernel
theorem d1_33 : decode prog_42_method_23_code 33 = .ok (.iushr, 1) := by decide +kernel
theorem d1_34 : decode prog_42_method_23_code 34 = .ok (.ixor, 1) := by decide +kernel
theorem d1_35 : decode prog_42_method_23_code 35 = .ok (.ireturn, 1) := by decide +kernel
def own_h00  : Int32 := ((0 : Int32) ^^^ (((0 : Int32).toUInt32 >>> ((16 : Int32) &&& 31).toUInt32).toInt32))
theorem pn_1 : plainName "com/example/limpet/limpet/model/NodeLabel" = true := by first | (simp [plainName, overriddenIn]; done) | decide +kernel
theorem ef_h00 (m : MethodId) (o0 : Addr) : entryFrame m #[(.ref o0), (.int (0 : Int32)), (.int (0 : Int32))] 5 = mkF m 0 #[.val (.ref o0), .val (.int (0 : Int32)), .val (.int (0 : Int32)), .unset, .unset] [] := by first | (simp [entryFrame, mkF, argsToLocals, Value.category]; done) | rfl
def Qh00 (Z : State) (o0 : Addr) (k0 : ClassId) (x0 : Int32) (x1 : Int32) (x2 : Int32) (x3 : Int32) (h0 : Heap) (n0 : Nat) (v : Option Value) (h : Heap) (L : List Loc) : Prop := v = some (.int (own_h00)) ∧ Fr n0 L ∧ h = h0
set_option maxRecDepth 65536 in
set_option maxHeartbeats 40000000 in
theorem rmh00 (l : Launch) (Z : State) (a0 : Array Value) (hw : ∀ d ∈ tables_1, d.before a0 Z = true) (ws : List Jvm.Cond) (o0 : Addr) (k0 : ClassId) (x0 : Int32) (x1 : Int32) (x2 : Int32) (x3 : Int32) (h0 : Heap) (n0 : Nat) (Z0 : n0 ≤ h0.size) (V_o0 : Arv Z h0 o0 k0 .int (4 : Int32) [(.int x0), (.int x1), (.int x2), (.int x3)] (.int (0 : Int32))) :
    MetFree l (⟨"com/example/limpet/limpet/model/NodeLabel", "hashOf", "([III)I"⟩ : MethodName) (head1 (Jvm.Cond.code (⟨"com/example/limpet/limpet/model/NodeLabel", "hashOf", "([III)I"⟩ : MethodName) prog_42_method_23_code 5 (some .int) :: ws) ({ frames := 0, cells := 0, slots := 0, locals := 0 } : Room)) (fun a U => a = #[(.ref o0), (.int (0 : Int32)), (.int (0 : Int32))] ∧ Z.Warmed39 U.vm ∧ U.heap = h0) (fun _ _ _ _ _ => True) (fun _ U o U' => ∃ v L, o = .returned v ∧ Qh00 Z o0 k0 x0 x1 x2 x3 h0 n0 v U'.heap L ∧ FrameEnd U o U' L ({ frames := 0, cells := 0, slots := 0, locals := 0 } : Room).cells ({ frames := 0, cells := 0, slots := 0, locals := 0 } : Room).slots) := by
  refine MetFree.of_bodySF (plainFor_of_name pn_1) hisR ?_
  intro p e s m args below meth c s₁ Bd hml0 hP hK
  obtain ⟨rfl, hZ, hh⟩ := hP
  have hx := Bd.exec
  have hby := Bd.bytes
  have hml : c.maxLocals = 5 := hml0
  have hown : s.vm.findClass "com/example/limpet/limpet/model/NodeLabel" = some m.cls := findClass_of_methodNamed Bd.named
  have hnm := (name_of_methodNamed Bd.named Bd.method).1
  have X0 : Stand p l e ({ frames := 0, cells := 0, slots := 0, locals := 0 } : Room) s m #[(.ref o0), (.int (0 : Int32)), (.int (0 : Int32))] below meth c s₁ [] 0 0 := Stand.of_body Bd
  have e0 : s₁.heap = h0 := by rw [← hh, Bd.state]; rfl
  have N0 := Fr.nil n0
  have K0 := Keep.refl h0 []
  suffices hgo : Goes p.tables e below (fun s₂ o => ∃ v L, o = .returned v ∧ Qh00 Z o0 k0 x0 x1 x2 x3 h0 n0 v s₂.heap L ∧ FrameEnd s o s₂ L ({ frames := 0, cells := 0, slots := 0, locals := 0 } : Room).cells ({ frames := 0, cells := 0, slots := 0, locals := 0 } : Room).slots) (s₁.setTop (mkF m 0 #[.val (.ref o0), .val (.int (0 : Int32)), .val (.int (0 : Int32)), .unset, .unset] [])) from goEnd (fun t k => castTop (ef_h00 m o0) k) hgo
  refine go (fun t kt => XS.iconst X0.here hx rfl (hb hby d1_0) kt) ?_
  show Goes p.tables e below _ (s₁.setTop (mkF m 1 #[.val (.ref o0), .val (.int (0 : Int32)), .val (.int (0 : Int32)), .unset, .unset] [(.int (0 : Int32))]))
  refine go (fun t kt => XS.istoreN X0.here hx rfl (hb hby d1_1) rfl (l' := #[.val (.ref o0), .val (.int (0 : Int32)), .val (.int (0 : Int32)), .val (.int (0 : Int32)), .unset]) rfl kt) ?_
  show Goes p.tables e below _ (s₁.setTop (mkF m 2 #[.val (.ref o0), .val (.int (0 : Int32)), .val (.int (0 : Int32)), .val (.int (0 : Int32)), .unset] []))
  refine go (fun t kt => XS.iloadN X0.here hx rfl (hb hby d1_2) rfl kt) ?_
  show Goes p.tables e below _ (s₁.setTop (mkF m 3 #[.val (.ref o0), .val (.int (0 : Int32)), .val (.int (0 : Int32)), .val (.int (0 : Int32)), .unset] [(.int (0 : Int32))]))
  refine go (fun t kt => XS.istore X0.here hx rfl (hb hby d1_3) rfl (l' := #[.val (.ref o0), .val (.int (0 : Int32)), .val (.int (0 : Int32)), .val (.int (0 : Int32)), .val (.int (0 : Int32))]) rfl kt) ?_
  show Goes p.tables e below _ (s₁.setTop (mkF m 5 #[.val (.ref o0), .val (.int (0 : Int32)), .val (.int (0 : Int32)), .val (.int (0 : Int32)), .val (.int (0 : Int32))] []))
  refine go (fun t kt => XS.iload X0.here hx rfl (hb hby d1_5) rfl kt) ?_
  show Goes p.tables e below _ (s₁.setTop (mkF m 7 #[.val (.ref o0), .val (.int (0 : Int32)), .val (.int (0 : Int32)), .val (.int (0 : Int32)), .val (.int (0 : Int32))] [(.int (0 : Int32))]))
  refine go (fun t kt => XS.iloadN X0.here hx rfl (hb hby d1_7) rfl kt) ?_
  show Goes p.tables e below _ (s₁.setTop (mkF m 8 #[.val (.ref o0), .val (.int (0 : Int32)), .val (.int (0 : Int32)), .val (.int (0 : Int32)), .val (.int (0 : Int32))] [(.int (0 : Int32)), (.int (0 : Int32))]))
  refine go (fun t kt => XS.iloadN X0.here hx rfl (hb hby d1_8) rfl kt) ?_
  show Goes p.tables e below _ (s₁.setTop (mkF m 9 #[.val (.ref o0), .val (.int (0 : Int32)), .val (.int (0 : Int32)), .val (.int (0 : Int32)), .val (.int (0 : Int32))] [(.int (0 : Int32)), (.int (0 : Int32)), (.int (0 : Int32))]))
  refine go (fun t kt => XS.iadd X0.here hx rfl (hb hby d1_9) rfl kt) ?_
  show Goes p.tables e below _ (s₁.setTop (mkF m 10 #[.val (.ref o0), .val (.int (0 : Int32)), .val (.int (0 : Int32)), .val (.int (0 : Int32)), .val (.int (0 : Int32))] [(.int ((0 : Int32) + (0 : Int32))), (.int (0 : Int32))]))
  refine go (fun t kt => XS.icmpYes X0.here hx rfl (pc0 := 10) (pc' := 29) rfl (hb hby d1_10) rfl (flt (by decide : ¬ ((0 : Int32) < ((0 : Int32) + (0 : Int32))))).2.1 (by decide) (by decide) kt) ?_
  show Goes p.tables e below _ (s₁.setTop (mkF m 29 #[.val (.ref o0), .val (.int (0 : Int32)), .val (.int (0 : Int32)), .val (.int (0 : Int32)), .val (.int (0 : Int32))] []))
  refine go (fun t kt => XS.iloadN X0.here hx rfl (hb hby d1_29) rfl kt) ?_
  show Goes p.tables e below _ (s₁.setTop (mkF m 30 #[.val (.ref o0), .val (.int (0 : Int32)), .val (.int (0 : Int32)), .val (.int (0 : Int32)), .val (.int (0 : Int32))] [(.int (0 : Int32))]))
  refine go (fun t kt => XS.iloadN X0.here hx rfl (hb hby d1_30) rfl kt) ?_
  show Goes p.tables e below _ (s₁.setTop (mkF m 31 #[.val (.ref o0), .val (.int (0 : Int32)), .val (.int (0 : Int32)), .val (.int (0 : Int32)), .val (.int (0 : Int32))] [(.int (0 : Int32)), (.int (0 : Int32))]))
  refine go (fun t kt => XS.bipush X0.here hx rfl (hb hby d1_31) kt) ?_
  show Goes p.tables e below _ (s₁.setTop (mkF m 33 #[.val (.ref o0), .val (.int (0 : Int32)), .val (.int (0 : Int32)), .val (.int (0 : Int32)), .val (.int (0 : Int32))] [(.int (16 : Int32)), (.int (0 : Int32)), (.int (0 : Int32))]))
  refine go (fun t kt => XS.iushr X0.here hx rfl (hb hby d1_33) rfl kt) ?_
  show Goes p.tables e below _ (s₁.setTop (mkF m 34 #[.val (.ref o0), .val (.int (0 : Int32)), .val (.int (0 : Int32)), .val (.int (0 : Int32)), .val (.int (0 : Int32))] [(.int (((0 : Int32).toUInt32 >>> ((16 : Int32) &&& 31).toUInt32).toInt32)), (.int (0 : Int32))]))
  refine go (fun t kt => XS.ixor X0.here hx rfl (hb hby d1_34) rfl kt) ?_
  show Goes p.tables e below _ (s₁.setTop (mkF m 35 #[.val (.ref o0), .val (.int (0 : Int32)), .val (.int (0 : Int32)), .val (.int (0 : Int32)), .val (.int (0 : Int32))] [(.int ((0 : Int32) ^^^ (((0 : Int32).toUInt32 >>> ((16 : Int32) &&& 31).toUInt32).toInt32)))]))
  obtain ⟨fs, hr, hrun, hended, hW, hsame⟩ := X0.leave (v := some (.int ((0 : Int32) ^^^ (((0 : Int32).toUInt32 >>> ((16 : Int32) &&& 31).toUInt32).toInt32)))) (fun h => by rw [Bd.returns] at h; cases h)
  refine ⟨_, _, retOut X0 hx (i := .ireturn) Bd.returns rfl (Or.inl ⟨rfl, Or.inl rfl, _, rfl⟩) (hb hby d1_35) hr, hrun, hended, _, _, rfl, ?_, ⟨_, rfl⟩, hW, hsame.mono (by decide) (by decide)⟩
  show Qh00 Z o0 k0 x0 x1 x2 x3 h0 n0 _ s₁.heap _
  rw [e0]
  exact ⟨rfl, N0, rfl⟩
theorem d1_13 : decode prog_42_method_23_code 13 = .ok (.iload_n 3, 1) := by decide +kernel
theorem d1_14 : decode prog_42_method_23_code 14 = .ok (.aload_n 0, 1) := by decide +kernel
theorem d1_15 : decode prog_42_method_23_code 15 = .ok (.iload 4, 2) := by decide +kernel
theorem d1_17 : decode prog_42_method_23_code 17 = .ok (.iaload, 1) := by decide +kernel
theorem d1_18 : decode prog_42_method_23_code 18 = .ok (.iadd, 1) := by decide +kernel
theorem d1_19 : decode prog_42_method_23_code 19 = .ok (.ldc 216, 2) := by decide +kernel
theorem d1_21 : decode prog_42_method_23_code 21 = .ok (.imul, 1) := by decide +kernel
theorem d1_22 : decode prog_42_method_23_code 22 = .ok (.istore_n 3, 1) := by decide +kernel
theorem d1_23 : decode prog_42_method_23_code 23 = .ok (.iinc 4 1, 3) := by decide +kernel
theorem d1_26 : decode prog_42_method_23_code 26 = .ok (.goto (-21), 3) := by decide +kernel
def own_h01 (x0 : Int32) : Int32 := ((((0 : Int32) + x0) * (-1640531535 : Int32)) ^^^ (((((0 : Int32) + x0) * (-1640531535 : Int32)).toUInt32 >>> ((16 : Int32) &&& 31).toUInt32).toInt32))
theorem ef_h01 (m : MethodId) (o0 : Addr) : entryFrame m #[(.ref o0), (.int (0 : Int32)), (.int (1 : Int32))] 5 = mkF m 0 #[.val (.ref o0), .val (.int (0 : Int32)), .val (.int (1 : Int32)), .unset, .unset] [] := by first | (simp [entryFrame, mkF, argsToLocals, Value.category]; done) | rfl
def Qh01 (Z : State) (o0 : Addr) (k0 : ClassId) (x0 : Int32) (x1 : Int32) (x2 : Int32) (x3 : Int32) (h0 : Heap) (n0 : Nat) (v : Option Value) (h : Heap) (L : List Loc) : Prop := v = some (.int (own_h01 x0)) ∧ Fr n0 L ∧ h = h0
set_option maxRecDepth 65536 in
set_option maxHeartbeats 40000000 in
theorem rmh01 (l : Launch) (Z : State) (a0 : Array Value) (hw : ∀ d ∈ tables_1, d.before a0 Z = true) (ws : List Jvm.Cond) (o0 : Addr) (k0 : ClassId) (x0 : Int32) (x1 : Int32) (x2 : Int32) (x3 : Int32) (h0 : Heap) (n0 : Nat) (Z0 : n0 ≤ h0.size) (V_o0 : Arv Z h0 o0 k0 .int (4 : Int32) [(.int x0), (.int x1), (.int x2), (.int x3)] (.int (0 : Int32))) :
    MetFree l (⟨"com/example/limpet/limpet/model/NodeLabel", "hashOf", "([III)I"⟩ : MethodName) (head1 (Jvm.Cond.code (⟨"com/example/limpet/limpet/model/NodeLabel", "hashOf", "([III)I"⟩ : MethodName) prog_42_method_23_code 5 (some .int) :: ws) ({ frames := 0, cells := 0, slots := 0, locals := 0 } : Room)) (fun a U => a = #[(.ref o0), (.int (0 : Int32)), (.int (1 : Int32))] ∧ Z.Warmed39 U.vm ∧ U.heap = h0) (fun _ _ _ _ _ => True) (fun _ U o U' => ∃ v L, o = .returned v ∧ Qh01 Z o0 k0 x0 x1 x2 x3 h0 n0 v U'.heap L ∧ FrameEnd U o U' L ({ frames := 0, cells := 0, slots := 0, locals := 0 } : Room).cells ({ frames := 0, cells := 0, slots := 0, locals := 0 } : Room).slots) := by
  refine MetFree.of_bodySF (plainFor_of_name pn_1) hisR ?_
  intro p e s m args below meth c s₁ Bd hml0 hP hK
  obtain ⟨rfl, hZ, hh⟩ := hP
  have hx := Bd.exec
  have hby := Bd.bytes
  have hml : c.maxLocals = 5 := hml0
  have hown : s.vm.findClass "com/example/limpet/limpet/model/NodeLabel" = some m.cls := findClass_of_methodNamed Bd.named
  have hnm := (name_of_methodNamed Bd.named Bd.method).1
  have X0 : Stand p l e ({ frames := 0, cells := 0, slots := 0, locals := 0 } : Room) s m #[(.ref o0), (.int (0 : Int32)), (.int (1 : Int32))] below meth c s₁ [] 0 0 := Stand.of_body Bd
  have e0 : s₁.heap = h0 := by rw [← hh, Bd.state]; rfl
  have N0 := Fr.nil n0
  have K0 := Keep.refl h0 []
  suffices hgo : Goes p.tables e below (fun s₂ o => ∃ v L, o = .returned v ∧ Qh01 Z o0 k0 x0 x1 x2 x3 h0 n0 v s₂.heap L ∧ FrameEnd s o s₂ L ({ frames := 0, cells := 0, slots := 0, locals := 0 } : Room).cells ({ frames := 0, cells := 0, slots := 0, locals := 0 } : Room).slots) (s₁.setTop (mkF m 0 #[.val (.ref o0), .val (.int (0 : Int32)), .val (.int (1 : Int32)), .unset, .unset] [])) from goEnd (fun t k => castTop (ef_h01 m o0) k) hgo
  refine go (fun t kt => XS.iconst X0.here hx rfl (hb hby d1_0) kt) ?_
  show Goes p.tables e below _ (s₁.setTop (mkF m 1 #[.val (.ref o0), .val (.int (0 : Int32)), .val (.int (1 : Int32)), .unset, .unset] [(.int (0 : Int32))]))
  refine go (fun t kt => XS.istoreN X0.here hx rfl (hb hby d1_1) rfl (l' := #[.val (.ref o0), .val (.int (0 : Int32)), .val (.int (1 : Int32)), .val (.int (0 : Int32)), .unset]) rfl kt) ?_
  show Goes p.tables e below _ (s₁.setTop (mkF m 2 #[.val (.ref o0), .val (.int (0 : Int32)), .val (.int (1 : Int32)), .val (.int (0 : Int32)), .unset] []))
  refine go (fun t kt => XS.iloadN X0.here hx rfl (hb hby d1_2) rfl kt) ?_
  show Goes p.tables e below _ (s₁.setTop (mkF m 3 #[.val (.ref o0), .val (.int (0 : Int32)), .val (.int (1 : Int32)), .val (.int (0 : Int32)), .unset] [(.int (0 : Int32))]))
  refine go (fun t kt => XS.istore X0.here hx rfl (hb hby d1_3) rfl (l' := #[.val (.ref o0), .val (.int (0 : Int32)), .val (.int (1 : Int32)), .val (.int (0 : Int32)), .val (.int (0 : Int32))]) rfl kt) ?_
  show Goes p.tables e below _ (s₁.setTop (mkF m 5 #[.val (.ref o0), .val (.int (0 : Int32)), .val (.int (1 : Int32)), .val (.int (0 : Int32)), .val (.int (0 : Int32))] []))
  refine go (fun t kt => XS.iload X0.here hx rfl (hb hby d1_5) rfl kt) ?_
  show Goes p.tables e below _ (s₁.setTop (mkF m 7 #[.val (.ref o0), .val (.int (0 : Int32)), .val (.int (1 : Int32)), .val (.int (0 : Int32)), .val (.int (0 : Int32))] [(.int (0 : Int32))]))
  refine go (fun t kt => XS.iloadN X0.here hx rfl (hb hby d1_7) rfl kt) ?_
  show Goes p.tables e below _ (s₁.setTop (mkF m 8 #[.val (.ref o0), .val (.int (0 : Int32)), .val (.int (1 : Int32)), .val (.int (0 : Int32)), .val (.int (0 : Int32))] [(.int (0 : Int32)), (.int (0 : Int32))]))
  refine go (fun t kt => XS.iloadN X0.here hx rfl (hb hby d1_8) rfl kt) ?_
  show Goes p.tables e below _ (s₁.setTop (mkF m 9 #[.val (.ref o0), .val (.int (0 : Int32)), .val (.int (1 : Int32)), .val (.int (0 : Int32)), .val (.int (0 : Int32))] [(.int (1 : Int32)), (.int (0 : Int32)), (.int (0 : Int32))]))
  refine go (fun t kt => XS.iadd X0.here hx rfl (hb hby d1_9) rfl kt) ?_
  show Goes p.tables e below _ (s₁.setTop (mkF m 10 #[.val (.ref o0), .val (.int (0 : Int32)), .val (.int (1 : Int32)), .val (.int (0 : Int32)), .val (.int (0 : Int32))] [(.int ((0 : Int32) + (1 : Int32))), (.int (0 : Int32))]))
  refine go (fun t kt => XS.icmpNo X0.here hx rfl (hb hby d1_10) rfl (tlt (by decide : ((0 : Int32) < ((0 : Int32) + (1 : Int32))))).2.1 kt) ?_
  show Goes p.tables e below _ (s₁.setTop (mkF m 13 #[.val (.ref o0), .val (.int (0 : Int32)), .val (.int (1 : Int32)), .val (.int (0 : Int32)), .val (.int (0 : Int32))] []))
  refine go (fun t kt => XS.iloadN X0.here hx rfl (hb hby d1_13) rfl kt) ?_
  show Goes p.tables e below _ (s₁.setTop (mkF m 14 #[.val (.ref o0), .val (.int (0 : Int32)), .val (.int (1 : Int32)), .val (.int (0 : Int32)), .val (.int (0 : Int32))] [(.int (0 : Int32))]))
  refine go (fun t kt => XS.aloadN X0.here hx rfl (hb hby d1_14) rfl rfl kt) ?_
  show Goes p.tables e below _ (s₁.setTop (mkF m 15 #[.val (.ref o0), .val (.int (0 : Int32)), .val (.int (1 : Int32)), .val (.int (0 : Int32)), .val (.int (0 : Int32))] [(.ref o0), (.int (0 : Int32))]))
  refine go (fun t kt => XS.iload X0.here hx rfl (hb hby d1_15) rfl kt) ?_
  show Goes p.tables e below _ (s₁.setTop (mkF m 17 #[.val (.ref o0), .val (.int (0 : Int32)), .val (.int (1 : Int32)), .val (.int (0 : Int32)), .val (.int (0 : Int32))] [(.int (0 : Int32)), (.ref o0), (.int (0 : Int32))]))
  obtain ⟨cl1, Ar1, q1, S1, M1, H1, G1⟩ := id V_o0
  have hin1 : ¬ ((0 : Int32) < 0 ∨ cl1.slots.size ≤ ((0 : Int32)).toNatClampNeg) := inb_of S1 ⟨by decide, by decide⟩
  have hat1 : cl1.slots[((0 : Int32)).toNatClampNeg]? = some (.int x0) := H1.at hin1 rfl
  refine go (X0.iaload hx (j := (0 : Int32)) (v := (.int x0)) (by rw [e0]; exact Ar1.1) (State.isArrayOf_alike hZ.alike Ar1.2.1) Ar1.2.2 hin1 hat1 (g := (mkF m 17 #[.val (.ref o0), .val (.int (0 : Int32)), .val (.int (1 : Int32)), .val (.int (0 : Int32)), .val (.int (0 : Int32))] [(.int (0 : Int32)), (.ref o0), (.int (0 : Int32))])) rfl rfl (hb hby d1_17)) ?_
  show Goes p.tables e below _ (s₁.setTop (mkF m 18 #[.val (.ref o0), .val (.int (0 : Int32)), .val (.int (1 : Int32)), .val (.int (0 : Int32)), .val (.int (0 : Int32))] [(.int x0), (.int (0 : Int32))]))
  refine go (fun t kt => XS.iadd X0.here hx rfl (hb hby d1_18) rfl kt) ?_
  show Goes p.tables e below _ (s₁.setTop (mkF m 19 #[.val (.ref o0), .val (.int (0 : Int32)), .val (.int (1 : Int32)), .val (.int (0 : Int32)), .val (.int (0 : Int32))] [(.int ((0 : Int32) + x0))]))
  refine go (X0.ldcInt hx hown (mvT hZ (hw _ (List.mem_of_getElem? (i := 6) rfl))) (g := (mkF m 19 #[.val (.ref o0), .val (.int (0 : Int32)), .val (.int (1 : Int32)), .val (.int (0 : Int32)), .val (.int (0 : Int32))] [(.int ((0 : Int32) + x0))])) rfl (hb hby d1_19)) ?_
  show Goes p.tables e below _ (s₁.setTop (mkF m 21 #[.val (.ref o0), .val (.int (0 : Int32)), .val (.int (1 : Int32)), .val (.int (0 : Int32)), .val (.int (0 : Int32))] [(.int (-1640531535 : Int32)), (.int ((0 : Int32) + x0))]))
  refine go (fun t kt => XS.imul X0.here hx rfl (hb hby d1_21) rfl kt) ?_
  show Goes p.tables e below _ (s₁.setTop (mkF m 22 #[.val (.ref o0), .val (.int (0 : Int32)), .val (.int (1 : Int32)), .val (.int (0 : Int32)), .val (.int (0 : Int32))] [(.int (((0 : Int32) + x0) * (-1640531535 : Int32)))]))
  refine go (fun t kt => XS.istoreN X0.here hx rfl (hb hby d1_22) rfl (l' := #[.val (.ref o0), .val (.int (0 : Int32)), .val (.int (1 : Int32)), .val (.int (((0 : Int32) + x0) * (-1640531535 : Int32))), .val (.int (0 : Int32))]) rfl kt) ?_
  show Goes p.tables e below _ (s₁.setTop (mkF m 23 #[.val (.ref o0), .val (.int (0 : Int32)), .val (.int (1 : Int32)), .val (.int (((0 : Int32) + x0) * (-1640531535 : Int32))), .val (.int (0 : Int32))] []))
  refine go (fun t kt => XS.iinc X0.here hx rfl (hb hby d1_23) rfl (l' := #[.val (.ref o0), .val (.int (0 : Int32)), .val (.int (1 : Int32)), .val (.int (((0 : Int32) + x0) * (-1640531535 : Int32))), .val (.int ((0 : Int32) + (1 : Int32)))]) rfl kt) ?_
  show Goes p.tables e below _ (s₁.setTop (mkF m 26 #[.val (.ref o0), .val (.int (0 : Int32)), .val (.int (1 : Int32)), .val (.int (((0 : Int32) + x0) * (-1640531535 : Int32))), .val (.int ((0 : Int32) + (1 : Int32)))] []))
  refine go (fun t kt => XS.goto X0.here hx rfl (pc0 := 26) (pc' := 5) rfl (hb hby d1_26) (by decide) (by decide) kt) ?_
  show Goes p.tables e below _ (s₁.setTop (mkF m 5 #[.val (.ref o0), .val (.int (0 : Int32)), .val (.int (1 : Int32)), .val (.int (((0 : Int32) + x0) * (-1640531535 : Int32))), .val (.int ((0 : Int32) + (1 : Int32)))] []))
  refine go (fun t kt => XS.iload X0.here hx rfl (hb hby d1_5) rfl kt) ?_
  show Goes p.tables e below _ (s₁.setTop (mkF m 7 #[.val (.ref o0), .val (.int (0 : Int32)), .val (.int (1 : Int32)), .val (.int (((0 : Int32) + x0) * (-1640531535 : Int32))), .val (.int ((0 : Int32) + (1 : Int32)))] [(.int ((0 : Int32) + (1 : Int32)))]))
  refine go (fun t kt => XS.iloadN X0.here hx rfl (hb hby d1_7) rfl kt) ?_
  show Goes p.tables e below _ (s₁.setTop (mkF m 8 #[.val (.ref o0), .val (.int (0 : Int32)), .val (.int (1 : Int32)), .val (.int (((0 : Int32) + x0) * (-1640531535 : Int32))), .val (.int ((0 : Int32) + (1 : Int32)))] [(.int (0 : Int32)), (.int ((0 : Int32) + (1 : Int32)))]))
  refine go (fun t kt => XS.iloadN X0.here hx rfl (hb hby d1_8) rfl kt) ?_
  show Goes p.tables e below _ (s₁.setTop (mkF m 9 #[.val (.ref o0), .val (.int (0 : Int32)), .val (.int (1 : Int32)), .val (.int (((0 : Int32) + x0) * (-1640531535 : Int32))), .val (.int ((0 : Int32) + (1 : Int32)))] [(.int (1 : Int32)), (.int (0 : Int32)), (.int ((0 : Int32) + (1 : Int32)))]))
  refine go (fun t kt => XS.iadd X0.here hx rfl (hb hby d1_9) rfl kt) ?_
  show Goes p.tables e below _ (s₁.setTop (mkF m 10 #[.val (.ref o0), .val (.int (0 : Int32)), .val (.int (1 : Int32)), .val (.int (((0 : Int32) + x0) * (-1640531535 : Int32))), .val (.int ((0 : Int32) + (1 : Int32)))] [(.int ((0 : Int32) + (1 : Int32))), (.int ((0 : Int32) + (1 : Int32)))]))
  refine go (fun t kt => XS.icmpYes X0.here hx rfl (pc0 := 10) (pc' := 29) rfl (hb hby d1_10) rfl (flt (by decide : ¬ (((0 : Int32) + (1 : Int32)) < ((0 : Int32) + (1 : Int32))))).2.1 (by decide) (by decide) kt) ?_
  show Goes p.tables e below _ (s₁.setTop (mkF m 29 #[.val (.ref o0), .val (.int (0 : Int32)), .val (.int (1 : Int32)), .val (.int (((0 : Int32) + x0) * (-1640531535 : Int32))), .val (.int ((0 : Int32) + (1 : Int32)))] []))
  refine go (fun t kt => XS.iloadN X0.here hx rfl (hb hby d1_29) rfl kt) ?_
  show Goes p.tables e below _ (s₁.setTop (mkF m 30 #[.val (.ref o0), .val (.int (0 : Int32)), .val (.int (1 : Int32)), .val (.int (((0 : Int32) + x0) * (-1640531535 : Int32))), .val (.int ((0 : Int32) + (1 : Int32)))] [(.int (((0 : Int32) + x0) * (-1640531535 : Int32)))]))
  refine go (fun t kt => XS.iloadN X0.here hx rfl (hb hby d1_30) rfl kt) ?_
  show Goes p.tables e below _ (s₁.setTop (mkF m 31 #[.val (.ref o0), .val (.int (0 : Int32)), .val (.int (1 : Int32)), .val (.int (((0 : Int32) + x0) * (-1640531535 : Int32))), .val (.int ((0 : Int32) + (1 : Int32)))] [(.int (((0 : Int32) + x0) * (-1640531535 : Int32))), (.int (((0 : Int32) + x0) * (-1640531535 : Int32)))]))
  refine go (fun t kt => XS.bipush X0.here hx rfl (hb hby d1_31) kt) ?_
  show Goes p.tables e below _ (s₁.setTop (mkF m 33 #[.val (.ref o0), .val (.int (0 : Int32)), .val (.int (1 : Int32)), .val (.int (((0 : Int32) + x0) * (-1640531535 : Int32))), .val (.int ((0 : Int32) + (1 : Int32)))] [(.int (16 : Int32)), (.int (((0 : Int32) + x0) * (-1640531535 : Int32))), (.int (((0 : Int32) + x0) * (-1640531535 : Int32)))]))
  refine go (fun t kt => XS.iushr X0.here hx rfl (hb hby d1_33) rfl kt) ?_
  show Goes p.tables e below _ (s₁.setTop (mkF m 34 #[.val (.ref o0), .val (.int (0 : Int32)), .val (.int (1 : Int32)), .val (.int (((0 : Int32) + x0) * (-1640531535 : Int32))), .val (.int ((0 : Int32) + (1 : Int32)))] [(.int (((((0 : Int32) + x0) * (-1640531535 : Int32)).toUInt32 >>> ((16 : Int32) &&& 31).toUInt32).toInt32)), (.int (((0 : Int32) + x0) * (-1640531535 : Int32)))]))
  refine go (fun t kt => XS.ixor X0.here hx rfl (hb hby d1_34) rfl kt) ?_
  show Goes p.tables e below _ (s₁.setTop (mkF m 35 #[.val (.ref o0), .val (.int (0 : Int32)), .val (.int (1 : Int32)), .val (.int (((0 : Int32) + x0) * (-1640531535 : Int32))), .val (.int ((0 : Int32) + (1 : Int32)))] [(.int ((((0 : Int32) + x0) * (-1640531535 : Int32)) ^^^ (((((0 : Int32) + x0) * (-1640531535 : Int32)).toUInt32 >>> ((16 : Int32) &&& 31).toUInt32).toInt32)))]))
  obtain ⟨fs, hr, hrun, hended, hW, hsame⟩ := X0.leave (v := some (.int ((((0 : Int32) + x0) * (-1640531535 : Int32)) ^^^ (((((0 : Int32) + x0) * (-1640531535 : Int32)).toUInt32 >>> ((16 : Int32) &&& 31).toUInt32).toInt32)))) (fun h => by rw [Bd.returns] at h; cases h)
  refine ⟨_, _, retOut X0 hx (i := .ireturn) Bd.returns rfl (Or.inl ⟨rfl, Or.inl rfl, _, rfl⟩) (hb hby d1_35) hr, hrun, hended, _, _, rfl, ?_, ⟨_, rfl⟩, hW, hsame.mono (by decide) (by decide)⟩
  show Qh01 Z o0 k0 x0 x1 x2 x3 h0 n0 _ s₁.heap _
  rw [e0]
  exact ⟨rfl, N0, rfl⟩
def own_h02 (x0 : Int32) (x1 : Int32) : Int32 := ((((((0 : Int32) + x0) * (-1640531535 : Int32)) + x1) * (-1640531535 : Int32)) ^^^ (((((((0 : Int32) + x0) * (-1640531535 : Int32)) + x1) * (-1640531535 : Int32)).toUInt32 >>> ((16 : Int32) &&& 31).toUInt32).toInt32))
theorem ef_h02 (m : MethodId) (o0 : Addr) : entryFrame m #[(.ref o0), (.int (0 : Int32)), (.int (2 : Int32))] 5 = mkF m 0 #[.val (.ref o0), .val (.int (0 : Int32)), .val (.int (2 : Int32)), .unset, .unset] [] := by first | (simp [entryFrame, mkF, argsToLocals, Value.category]; done) | rfl
def Qh02 (Z : State) (o0 : Addr) (k0 : ClassId) (x0 : Int32) (x1 : Int32) (x2 : Int32) (x3 : Int32) (h0 : Heap) (n0 : Nat) (v : Option Value) (h : Heap) (L : List Loc) : Prop := v = some (.int (own_h02 x0 x1)) ∧ Fr n0 L ∧ h = h0
set_option maxRecDepth 65536 in
set_option maxHeartbeats 40000000 in
theorem rmh02 (l : Launch) (Z : State) (a0 : Array Value) (hw : ∀ d ∈ tables_1, d.before a0 Z = true) (ws : List Jvm.Cond) (o0 : Addr) (k0 : ClassId) (x0 : Int32) (x1 : Int32) (x2 : Int32) (x3 : Int32) (h0 : Heap) (n0 : Nat) (Z0 : n0 ≤ h0.size) (V_o0 : Arv Z h0 o0 k0 .int (4 : Int32) [(.int x0), (.int x1), (.int x2), (.int x3)] (.int (0 : Int32))) :
    MetFree l (⟨"com/example/limpet/limpet/model/NodeLabel", "hashOf", "([III)I"⟩ : MethodName) (head1 (Jvm.Cond.code (⟨"com/example/limpet/limpet/model/NodeLabel", "hashOf", "([III)I"⟩ : MethodName) prog_42_method_23_code 5 (some .int) :: ws) ({ frames := 0, cells := 0, slots := 0, locals := 0 } : Room)) (fun a U => a = #[(.ref o0), (.int (0 : Int32)), (.int (2 : Int32))] ∧ Z.Warmed39 U.vm ∧ U.heap = h0) (fun _ _ _ _ _ => True) (fun _ U o U' => ∃ v L, o = .returned v ∧ Qh02 Z o0 k0 x0 x1 x2 x3 h0 n0 v U'.heap L ∧ FrameEnd U o U' L ({ frames := 0, cells := 0, slots := 0, locals := 0 } : Room).cells ({ frames := 0, cells := 0, slots := 0, locals := 0 } : Room).slots) := by
  refine MetFree.of_bodySF (plainFor_of_name pn_1) hisR ?_
  intro p e s m args below meth c s₁ Bd hml0 hP hK
  obtain ⟨rfl, hZ, hh⟩ := hP
  have hx := Bd.exec
  have hby := Bd.bytes
  have hml : c.maxLocals = 5 := hml0
  have hown : s.vm.findClass "com/example/limpet/limpet/model/NodeLabel" = some m.cls := findClass_of_methodNamed Bd.named
  have hnm := (name_of_methodNamed Bd.named Bd.method).1
  have X0 : Stand p l e ({ frames := 0, cells := 0, slots := 0, locals := 0 } : Room) s m #[(.ref o0), (.int (0 : Int32)), (.int (2 : Int32))] below meth c s₁ [] 0 0 := Stand.of_body Bd
  have e0 : s₁.heap = h0 := by rw [← hh, Bd.state]; rfl
  have N0 := Fr.nil n0
  have K0 := Keep.refl h0 []
  suffices hgo : Goes p.tables e below (fun s₂ o => ∃ v L, o = .returned v ∧ Qh02 Z o0 k0 x0 x1 x2 x3 h0 n0 v s₂.heap L ∧ FrameEnd s o s₂ L ({ frames := 0, cells := 0, slots := 0, locals := 0 } : Room).cells ({ frames := 0, cells := 0, slots := 0, locals := 0 } : Room).slots) (s₁.setTop (mkF m 0 #[.val (.ref o0), .val (.int (0 : Int32)), .val (.int (2 : Int32)), .unset, .unset] [])) from goEnd (fun t k => castTop (ef_h02 m o0) k) hgo
  refine go (fun t kt => XS.iconst X0.here hx rfl (hb hby d1_0) kt) ?_
  show Goes p.tables e below _ (s₁.setTop (mkF m 1 #[.val (.ref o0), .val (.int (0 : Int32)), .val (.int (2 : Int32)), .unset, .unset] [(.int (0 : Int32))]))
  refine go (fun t kt => XS.istoreN X0.here hx rfl (hb hby d1_1) rfl (l' := #[.val (.ref o0), .val (.int (0 : Int32)), .val (.int (2 : Int32)), .val (.int (0 : Int32)), .unset]) rfl kt) ?_
  show Goes p.tables e below _ (s₁.setTop (mkF m 2 #[.val (.ref o0), .val (.int (0 : Int32)), .val (.int (2 : Int32)), .val (.int (0 : Int32)), .unset] []))
  refine go (fun t kt => XS.iloadN X0.here hx rfl (hb hby d1_2) rfl kt) ?_
  show Goes p.tables e below _ (s₁.setTop (mkF m 3 #[.val (.ref o0), .val (.int (0 : Int32)), .val (.int (2 : Int32)), .val (.int (0 : Int32)), .unset] [(.int (0 : Int32))]))
  refine go (fun t kt => XS.istore X0.here hx rfl (hb hby d1_3) rfl (l' := #[.val (.ref o0), .val (.int (0 : Int32)), .val (.int (2 : Int32)), .val (.int (0 : Int32)), .val (.int (0 : Int32))]) rfl kt) ?_
  show Goes p.tables e below _ (s₁.setTop (mkF m 5 #[.val (.ref o0), .val (.int (0 : Int32)), .val (.int (2 : Int32)), .val (.int (0 : Int32)), .val (.int (0 : Int32))] []))
  refine go (fun t kt => XS.iload X0.here hx rfl (hb hby d1_5) rfl kt) ?_
  show Goes p.tables e below _ (s₁.setTop (mkF m 7 #[.val (.ref o0), .val (.int (0 : Int32)), .val (.int (2 : Int32)), .val (.int (0 : Int32)), .val (.int (0 : Int32))] [(.int (0 : Int32))]))
  refine go (fun t kt => XS.iloadN X0.here hx rfl (hb hby d1_7) rfl kt) ?_
  show Goes p.tables e below _ (s₁.setTop (mkF m 8 #[.val (.ref o0), .val (.int (0 : Int32)), .val (.int (2 : Int32)), .val (.int (0 : Int32)), .val (.int (0 : Int32))] [(.int (0 : Int32)), (.int (0 : Int32))]))
  refine go (fun t kt => XS.iloadN X0.here hx rfl (hb hby d1_8) rfl kt) ?_
  show Goes p.tables e below _ (s₁.setTop (mkF m 9 #[.val (.ref o0), .val (.int (0 : Int32)), .val (.int (2 : Int32)), .val (.int (0 : Int32)), .val (.int (0 : Int32))] [(.int (2 : Int32)), (.int (0 : Int32)), (.int (0 : Int32))]))
  refine go (fun t kt => XS.iadd X0.here hx rfl (hb hby d1_9) rfl kt) ?_
  show Goes p.tables e below _ (s₁.setTop (mkF m 10 #[.val (.ref o0), .val (.int (0 : Int32)), .val (.int (2 : Int32)), .val (.int (0 : Int32)), .val (.int (0 : Int32))] [(.int ((0 : Int32) + (2 : Int32))), (.int (0 : Int32))]))
  refine go (fun t kt => XS.icmpNo X0.here hx rfl (hb hby d1_10) rfl (tlt (by decide : ((0 : Int32) < ((0 : Int32) + (2 : Int32))))).2.1 kt) ?_
  show Goes p.tables e below _ (s₁.setTop (mkF m 13 #[.val (.ref o0), .val (.int (0 : Int32)), .val (.int (2 : Int32)), .val (.int (0 : Int32)), .val (.int (0 : Int32))] []))
  refine go (fun t kt => XS.iloadN X0.here hx rfl (hb hby d1_13) rfl kt) ?_
  show Goes p.tables e below _ (s₁.setTop (mkF m 14 #[.val (.ref o0), .val (.int (0 : Int32)), .val (.int (2 : Int32)), .val (.int (0 : Int32)), .val (.int (0 : Int32))] [(.int (0 : Int32))]))
  refine go (fun t kt => XS.aloadN X0.here hx rfl (hb hby d1_14) rfl rfl kt) ?_
  show Goes p.tables e below _ (s₁.setTop (mkF m 15 #[.val (.ref o0), .val (.int (0 : Int32)), .val (.int (2 : Int32)), .val (.int (0 : Int32)), .val (.int (0 : Int32))] [(.ref o0), (.int (0 : Int32))]))
  refine go (fun t kt => XS.iload X0.here hx rfl (hb hby d1_15) rfl kt) ?_
  show Goes p.tables e below _ (s₁.setTop (mkF m 17 #[.val (.ref o0), .val (.int (0 : Int32)), .val (.int (2 : Int32)), .val (.int (0 : Int32)), .val (.int (0 : Int32))] [(.int (0 : Int32)), (.ref o0), (.int (0 : Int32))]))
  obtain ⟨cl1, Ar1, q1, S1, M1, H1, G1⟩ := id V_o0
  have hin1 : ¬ ((0 : Int32) < 0 ∨ cl1.slots.size ≤ ((0 : Int32)).toNatClampNeg) := inb_of S1 ⟨by decide, by decide⟩
  have hat1 : cl1.slots[((0 : Int32)).toNatClampNeg]? = some (.int x0) := H1.at hin1 rfl
  refine go (X0.iaload hx (j := (0 : Int32)) (v := (.int x0)) (by rw [e0]; exact Ar1.1) (State.isArrayOf_alike hZ.alike Ar1.2.1) Ar1.2.2 hin1 hat1 (g := (mkF m 17 #[.val (.ref o0), .val (.int (0 : Int32)), .val (.int (2 : Int32)), .val (.int (0 : Int32)), .val (.int (0 : Int32))] [(.int (0 : Int32)), (.ref o0), (.int (0 : Int32))])) rfl rfl (hb hby d1_17)) ?_
  show Goes p.tables e below _ (s₁.setTop (mkF m 18 #[.val (.ref o0), .val (.int (0 : Int32)), .val (.int (2 : Int32)), .val (.int (0 : Int32)), .val (.int (0 : Int32))] [(.int x0), (.int (0 : Int32))]))
  refine go (fun t kt => XS.iadd X0.here hx rfl (hb hby d1_18) rfl kt) ?_
  show Goes p.tables e below _ (s₁.setTop (mkF m 19 #[.val (.ref o0), .val (.int (0 : Int32)), .val (.int (2 : Int32)), .val (.int (0 : Int32)), .val (.int (0 : Int32))] [(.int ((0 : Int32) + x0))]))
  refine go (X0.ldcInt hx hown (mvT hZ (hw _ (List.mem_of_getElem? (i := 6) rfl))) (g := (mkF m 19 #[.val (.ref o0), .val (.int (0 : Int32)), .val (.int (2 : Int32)), .val (.int (0 : Int32)), .val (.int (0 : Int32))] [(.int ((0 : Int32) + x0))])) rfl (hb hby d1_19)) ?_
  show Goes p.tables e below _ (s₁.setTop (mkF m 21 #[.val (.ref o0), .val (.int (0 : Int32)), .val (.int (2 : Int32)), .val (.int (0 : Int32)), .val (.int (0 : Int32))] [(.int (-1640531535 : Int32)), (.int ((0 : Int32) + x0))]))
  refine go (fun t kt => XS.imul X0.here hx rfl (hb hby d1_21) rfl kt) ?_
  show Goes p.tables e below _ (s₁.setTop (mkF m 22 #[.val (.ref o0), .val (.int (0 : Int32)), .val (.int (2 : Int32)), .val (.int (0 : Int32)), .val (.int (0 : Int32))] [(.int (((0 : Int32) + x0) * (-1640531535 : Int32)))]))
  refine go (fun t kt => XS.istoreN X0.here hx rfl (hb hby d1_22) rfl (l' := #[.val (.ref o0), .val (.int (0 : Int32)), .val (.int (2 : Int32)), .val (.int (((0 : Int32) + x0) * (-1640531535 : Int32))), .val (.int (0 : Int32))]) rfl kt) ?_
  show Goes p.tables e below _ (s₁.setTop (mkF m 23 #[.val (.ref o0), .val (.int (0 : Int32)), .val (.int (2 : Int32)), .val (.int (((0 : Int32) + x0) * (-1640531535 : Int32))), .val (.int (0 : Int32))] []))
  refine go (fun t kt => XS.iinc X0.here hx rfl (hb hby d1_23) rfl (l' := #[.val (.ref o0), .val (.int (0 : Int32)), .val (.int (2 : Int32)), .val (.int (((0 : Int32) + x0) * (-1640531535 : Int32))), .val (.int ((0 : Int32) + (1 : Int32)))]) rfl kt) ?_
  show Goes p.tables e below _ (s₁.setTop (mkF m 26 #[.val (.ref o0), .val (.int (0 : Int32)), .val (.int (2 : Int32)), .val (.int (((0 : Int32) + x0) * (-1640531535 : Int32))), .val (.int ((0 : Int32) + (1 : Int32)))] []))
  refine go (fun t kt => XS.goto X0.here hx rfl (pc0 := 26) (pc' := 5) rfl (hb hby d1_26) (by decide) (by decide) kt) ?_
  show Goes p.tables e below _ (s₁.setTop (mkF m 5 #[.val (.ref o0), .val (.int (0 : Int32)), .val (.int (2 : Int32)), .val (.int (((0 : Int32) + x0) * (-1640531535 : Int32))), .val (.int ((0 : Int32) + (1 : Int32)))] []))
  refine go (fun t kt => XS.iload X0.here hx rfl (hb hby d1_5) rfl kt) ?_
  show Goes p.tables e below _ (s₁.setTop (mkF m 7 #[.val (.ref o0), .val (.int (0 : Int32)), .val (.int (2 : Int32)), .val (.int (((0 : Int32) + x0) * (-1640531535 : Int32))), .val (.int ((0 : Int32) + (1 : Int32)))] [(.int ((0 : Int32) + (1 : Int32)))]))
  refine go (fun t kt => XS.iloadN X0.here hx rfl (hb hby d1_7) rfl kt) ?_
  show Goes p.tables e below _ (s₁.setTop (mkF m 8 #[.val (.ref o0), .val (.int (0 : Int32)), .val (.int (2 : Int32)), .val (.int (((0 : Int32) + x0) * (-1640531535 : Int32))), .val (.int ((0 : Int32) + (1 : Int32)))] [(.int (0 : Int32)), (.int ((0 : Int32) + (1 : Int32)))]))
  refine go (fun t kt => XS.iloadN X0.here hx rfl (hb hby d1_8) rfl kt) ?_
  show Goes p.tables e below _ (s₁.setTop (mkF m 9 #[.val (.ref o0), .val (.int (0 : Int32)), .val (.int (2 : Int32)), .val (.int (((0 : Int32) + x0) * (-1640531535 : Int32))), .val (.int ((0 : Int32) + (1 : Int32)))] [(.int (2 : Int32)), (.int (0 : Int32)), (.int ((0 : Int32) + (1 : Int32)))]))
  refine go (fun t kt => XS.iadd X0.here hx rfl (hb hby d1_9) rfl kt) ?_
  show Goes p.tables e below _ (s₁.setTop (mkF m 10 #[.val (.ref o0), .val (.int (0 : Int32)), .val (.int (2 : Int32)), .val (.int (((0 : Int32) + x0) * (-1640531535 : Int32))), .val (.int ((0 : Int32) + (1 : Int32)))] [(.int ((0 : Int32) + (2 : Int32))), (.int ((0 : Int32) + (1 : Int32)))]))
  refine go (fun t kt => XS.icmpNo X0.here hx rfl (hb hby d1_10) rfl (tlt (by decide : (((0 : Int32) + (1 : Int32)) < ((0 : Int32) + (2 : Int32))))).2.1 kt) ?_
  show Goes p.tables e below _ (s₁.setTop (mkF m 13 #[.val (.ref o0), .val (.int (0 : Int32)), .val (.int (2 : Int32)), .val (.int (((0 : Int32) + x0) * (-1640531535 : Int32))), .val (.int ((0 : Int32) + (1 : Int32)))] []))
  refine go (fun t kt => XS.iloadN X0.here hx rfl (hb hby d1_13) rfl kt) ?_
  show Goes p.tables e below _ (s₁.setTop (mkF m 14 #[.val (.ref o0), .val (.int (0 : Int32)), .val (.int (2 : Int32)), .val (.int (((0 : Int32) + x0) * (-1640531535 : Int32))), .val (.int ((0 : Int32) + (1 : Int32)))] [(.int (((0 : Int32) + x0) * (-1640531535 : Int32)))]))
  refine go (fun t kt => XS.aloadN X0.here hx rfl (hb hby d1_14) rfl rfl kt) ?_
  show Goes p.tables e below _ (s₁.setTop (mkF m 15 #[.val (.ref o0), .val (.int (0 : Int32)), .val (.int (2 : Int32)), .val (.int (((0 : Int32) + x0) * (-1640531535 : Int32))), .val (.int ((0 : Int32) + (1 : Int32)))] [(.ref o0), (.int (((0 : Int32) + x0) * (-1640531535 : Int32)))]))
  refine go (fun t kt => XS.iload X0.here hx rfl (hb hby d1_15) rfl kt) ?_
  show Goes p.tables e below _ (s₁.setTop (mkF m 17 #[.val (.ref o0), .val (.int (0 : Int32)), .val (.int (2 : Int32)), .val (.int (((0 : Int32) + x0) * (-1640531535 : Int32))), .val (.int ((0 : Int32) + (1 : Int32)))] [(.int ((0 : Int32) + (1 : Int32))), (.ref o0), (.int (((0 : Int32) + x0) * (-1640531535 : Int32)))]))
  obtain ⟨cl2, Ar2, q2, S2, M2, H2, G2⟩ := id V_o0
  have hin2 : ¬ (((0 : Int32) + (1 : Int32)) < 0 ∨ cl2.slots.size ≤ (((0 : Int32) + (1 : Int32))).toNatClampNeg) := inb_of S2 ⟨by decide, by decide⟩
  have hat2 : cl2.slots[(((0 : Int32) + (1 : Int32))).toNatClampNeg]? = some (.int x1) := H2.at hin2 rfl
  refine go (X0.iaload hx (j := ((0 : Int32) + (1 : Int32))) (v := (.int x1)) (by rw [e0]; exact Ar2.1) (State.isArrayOf_alike hZ.alike Ar2.2.1) Ar2.2.2 hin2 hat2 (g := (mkF m 17 #[.val (.ref o0), .val (.int (0 : Int32)), .val (.int (2 : Int32)), .val (.int (((0 : Int32) + x0) * (-1640531535 : Int32))), .val (.int ((0 : Int32) + (1 : Int32)))] [(.int ((0 : Int32) + (1 : Int32))), (.ref o0), (.int (((0 : Int32) + x0) * (-1640531535 : Int32)))])) rfl rfl (hb hby d1_17)) ?_
  show Goes p.tables e below _ (s₁.setTop (mkF m 18 #[.val (.ref o0), .val (.int (0 : Int32)), .val (.int (2 : Int32)), .val (.int (((0 : Int32) + x0) * (-1640531535 : Int32))), .val (.int ((0 : Int32) + (1 : Int32)))] [(.int x1), (.int (((0 : Int32) + x0) * (-1640531535 : Int32)))]))
  refine go (fun t kt => XS.iadd X0.here hx rfl (hb hby d1_18) rfl kt) ?_
  show Goes p.tables e below _ (s₁.setTop (mkF m 19 #[.val (.ref o0), .val (.int (0 : Int32)), .val (.int (2 : Int32)), .val (.int (((0 : Int32) + x0) * (-1640531535 : Int32))), .val (.int ((0 : Int32) + (1 : Int32)))] [(.int ((((0 : Int32) + x0) * (-1640531535 : Int32)) + x1))]))
  refine go (X0.ldcInt hx hown (mvT hZ (hw _ (List.mem_of_getElem? (i := 6) rfl))) (g := (mkF m 19 #[.val (.ref o0), .val (.int (0 : Int32)), .val (.int (2 : Int32)), .val (.int (((0 : Int32) + x0) * (-1640531535 : Int32))), .val (.int ((0 : Int32) + (1 : Int32)))] [(.int ((((0 : Int32) + x0) * (-1640531535 : Int32)) + x1))])) rfl (hb hby d1_19)) ?_
  show Goes p.tables e below _ (s₁.setTop (mkF m 21 #[.val (.ref o0), .val (.int (0 : Int32)), .val (.int (2 : Int32)), .val (.int (((0 : Int32) + x0) * (-1640531535 : Int32))), .val (.int ((0 : Int32) + (1 : Int32)))] [(.int (-1640531535 : Int32)), (.int ((((0 : Int32) + x0) * (-1640531535 : Int32)) + x1))]))
  refine go (fun t kt => XS.imul X0.here hx rfl (hb hby d1_21) rfl kt) ?_
  show Goes p.tables e below _ (s₁.setTop (mkF m 22 #[.val (.ref o0), .val (.int (0 : Int32)), .val (.int (2 : Int32)), .val (.int (((0 : Int32) + x0) * (-1640531535 : Int32))), .val (.int ((0 : Int32) + (1 : Int32)))] [(.int (((((0 : Int32) + x0) * (-1640531535 : Int32)) + x1) * (-1640531535 : Int32)))]))
  refine go (fun t kt => XS.istoreN X0.here hx rfl (hb hby d1_22) rfl (l' := #[.val (.ref o0), .val (.int (0 : Int32)), .val (.int (2 : Int32)), .val (.int (((((0 : Int32) + x0) * (-1640531535 : Int32)) + x1) * (-1640531535 : Int32))), .val (.int ((0 : Int32) + (1 : Int32)))]) rfl kt) ?_
  show Goes p.tables e below _ (s₁.setTop (mkF m 23 #[.val (.ref o0), .val (.int (0 : Int32)), .val (.int (2 : Int32)), .val (.int (((((0 : Int32) + x0) * (-1640531535 : Int32)) + x1) * (-1640531535 : Int32))), .val (.int ((0 : Int32) + (1 : Int32)))] []))
  refine go (fun t kt => XS.iinc X0.here hx rfl (hb hby d1_23) rfl (l' := #[.val (.ref o0), .val (.int (0 : Int32)), .val (.int (2 : Int32)), .val (.int (((((0 : Int32) + x0) * (-1640531535 : Int32)) + x1) * (-1640531535 : Int32))), .val (.int (((0 : Int32) + (1 : Int32)) + (1 : Int32)))]) rfl kt) ?_
  show Goes p.tables e below _ (s₁.setTop (mkF m 26 #[.val (.ref o0), .val (.int (0 : Int32)), .val (.int (2 : Int32)), .val (.int (((((0 : Int32) + x0) * (-1640531535 : Int32)) + x1) * (-1640531535 : Int32))), .val (.int (((0 : Int32) + (1 : Int32)) + (1 : Int32)))] []))
  refine go (fun t kt => XS.goto X0.here hx rfl (pc0 := 26) (pc' := 5) rfl (hb hby d1_26) (by decide) (by decide) kt) ?_
  show Goes p.tables e below _ (s₁.setTop (mkF m 5 #[.val (.ref o0), .val (.int (0 : Int32)), .val (.int (2 : Int32)), .val (.int (((((0 : Int32) + x0) * (-1640531535 : Int32)) + x1) * (-1640531535 : Int32))), .val (.int (((0 : Int32) + (1 : Int32)) + (1 : Int32)))] []))
  refine go (fun t kt => XS.iload X0.here hx rfl (hb hby d1_5) rfl kt) ?_
  show Goes p.tables e below _ (s₁.setTop (mkF m 7 #[.val (.ref o0), .val (.int (0 : Int32)), .val (.int (2 : Int32)), .val (.int (((((0 : Int32) + x0) * (-1640531535 : Int32)) + x1) * (-1640531535 : Int32))), .val (.int (((0 : Int32) + (1 : Int32)) + (1 : Int32)))] [(.int (((0 : Int32) + (1 : Int32)) + (1 : Int32)))]))
  refine go (fun t kt => XS.iloadN X0.here hx rfl (hb hby d1_7) rfl kt) ?_
  show Goes p.tables e below _ (s₁.setTop (mkF m 8 #[.val (.ref o0), .val (.int (0 : Int32)), .val (.int (2 : Int32)), .val (.int (((((0 : Int32) + x0) * (-1640531535 : Int32)) + x1) * (-1640531535 : Int32))), .val (.int (((0 : Int32) + (1 : Int32)) + (1 : Int32)))] [(.int (0 : Int32)), (.int (((0 : Int32) + (1 : Int32)) + (1 : Int32)))]))
  refine go (fun t kt => XS.iloadN X0.here hx rfl (hb hby d1_8) rfl kt) ?_
  show Goes p.tables e below _ (s₁.setTop (mkF m 9 #[.val (.ref o0), .val (.int (0 : Int32)), .val (.int (2 : Int32)), .val (.int (((((0 : Int32) + x0) * (-1640531535 : Int32)) + x1) * (-1640531535 : Int32))), .val (.int (((0 : Int32) + (1 : Int32)) + (1 : Int32)))] [(.int (2 : Int32)), (.int (0 : Int32)), (.int (((0 : Int32) + (1 : Int32)) + (1 : Int32)))]))
  refine go (fun t kt => XS.iadd X0.here hx rfl (hb hby d1_9) rfl kt) ?_
  show Goes p.tables e below _ (s₁.setTop (mkF m 10 #[.val (.ref o0), .val (.int (0 : Int32)), .val (.int (2 : Int32)), .val (.int (((((0 : Int32) + x0) * (-1640531535 : Int32)) + x1) * (-1640531535 : Int32))), .val (.int (((0 : Int32) + (1 : Int32)) + (1 : Int32)))] [(.int ((0 : Int32) + (2 : Int32))), (.int (((0 : Int32) + (1 : Int32)) + (1 : Int32)))]))
  refine go (fun t kt => XS.icmpYes X0.here hx rfl (pc0 := 10) (pc' := 29) rfl (hb hby d1_10) rfl (flt (by decide : ¬ ((((0 : Int32) + (1 : Int32)) + (1 : Int32)) < ((0 : Int32) + (2 : Int32))))).2.1 (by decide) (by decide) kt) ?_
  show Goes p.tables e below _ (s₁.setTop (mkF m 29 #[.val (.ref o0), .val (.int (0 : Int32)), .val (.int (2 : Int32)), .val (.int (((((0 : Int32) + x0) * (-1640531535 : Int32)) + x1) * (-1640531535 : Int32))), .val (.int (((0 : Int32) + (1 : Int32)) + (1 : Int32)))] []))
  refine go (fun t kt => XS.iloadN X0.here hx rfl (hb hby d1_29) rfl kt) ?_
  show Goes p.tables e below _ (s₁.setTop (mkF m 30 #[.val (.ref o0), .val (.int (0 : Int32)), .val (.int (2 : Int32)), .val (.int (((((0 : Int32) + x0) * (-1640531535 : Int32)) + x1) * (-1640531535 : Int32))), .val (.int (((0 : Int32) + (1 : Int32)) + (1 : Int32)))] [(.int (((((0 : Int32) + x0) * (-1640531535 : Int32)) + x1) * (-1640531535 : Int32)))]))
  refine go (fun t kt => XS.iloadN X0.here hx rfl (hb hby d1_30) rfl kt) ?_
  show Goes p.tables e below _ (s₁.setTop (mkF m 31 #[.val (.ref o0), .val (.int (0 : Int32)), .val (.int (2 : Int32)), .val (.int (((((0 : Int32) + x0) * (-1640531535 : Int32)) + x1) * (-1640531535 : Int32))), .val (.int (((0 : Int32) + (1 : Int32)) + (1 : Int32)))] [(.int (((((0 : Int32) + x0) * (-1640531535 : Int32)) + x1) * (-1640531535 : Int32))), (.int (((((0 : Int32) + x0) * (-1640531535 : Int32)) + x1) * (-1640531535 : Int32)))]))
  refine go (fun t kt => XS.bipush X0.here hx rfl (hb hby d1_31) kt) ?_
  show Goes p.tables e below _ (s₁.setTop (mkF m 33 #[.val (.ref o0), .val (.int (0 : Int32)), .val (.int (2 : Int32)), .val (.int (((((0 : Int32) + x0) * (-1640531535 : Int32)) + x1) * (-1640531535 : Int32))), .val (.int (((0 : Int32) + (1 : Int32)) + (1 : Int32)))] [(.int (16 : Int32)), (.int (((((0 : Int32) + x0) * (-1640531535 : Int32)) + x1) * (-1640531535 : Int32))), (.int (((((0 : Int32) + x0) * (-1640531535 : Int32)) + x1) * (-1640531535 : Int32)))]))
  refine go (fun t kt => XS.iushr X0.here hx rfl (hb hby d1_33) rfl kt) ?_
  show Goes p.tables e below _ (s₁.setTop (mkF m 34 #[.val (.ref o0), .val (.int (0 : Int32)), .val (.int (2 : Int32)), .val (.int (((((0 : Int32) + x0) * (-1640531535 : Int32)) + x1) * (-1640531535 : Int32))), .val (.int (((0 : Int32) + (1 : Int32)) + (1 : Int32)))] [(.int (((((((0 : Int32) + x0) * (-1640531535 : Int32)) + x1) * (-1640531535 : Int32)).toUInt32 >>> ((16 : Int32) &&& 31).toUInt32).toInt32)), (.int (((((0 : Int32) + x0) * (-1640531535 : Int32)) + x1) * (-1640531535 : Int32)))]))
  refine go (fun t kt => XS.ixor X0.here hx rfl (hb hby d1_34) rfl kt) ?_
  show Goes p.tables e below _ (s₁.setTop (mkF m 35 #[.val (.ref o0), .val (.int (0 : Int32)), .val (.int (2 : Int32)), .val (.int (((((0 : Int32) + x0) * (-1640531535 : Int32)) + x1) * (-1640531535 : Int32))), .val (.int (((0 : Int32) + (1 : Int32)) + (1 : Int32)))] [(.int ((((((0 : Int32) + x0) * (-1640531535 : Int32)) + x1) * (-1640531535 : Int32)) ^^^ (((((((0 : Int32) + x0) * (-1640531535 : Int32)) + x1) * (-1640531535 : Int32)).toUInt32 >>> ((16 : Int32) &&& 31).toUInt32).toInt32)))]))
  obtain ⟨fs, hr, hrun, hended, hW, hsame⟩ := X0.leave (v := some (.int ((((((0 : Int32) + x0) * (-1640531535 : Int32)) + x1) * (-1640531535 : Int32)) ^^^ (((((((0 : Int32) + x0) * (-1640531535 : Int32)) + x1) * (-1640531535 : Int32)).toUInt32 >>> ((16 : Int32) &&& 31).toUInt32).toInt32)))) (fun h => by rw [Bd.returns] at h; cases h)
  refine ⟨_, _, retOut X0 hx (i := .ireturn) Bd.returns rfl (Or.inl ⟨rfl, Or.inl rfl, _, rfl⟩) (hb hby d1_35) hr, hrun, hended, _, _, rfl, ?_, ⟨_, rfl⟩, hW, hsame.mono (by decide) (by decide)⟩
  show Qh02 Z o0 k0 x0 x1 x2 x3 h0 n0 _ s₁.heap _
  rw [e0]
  exact ⟨rfl, N0, rfl⟩
def own_h03 (x0 : Int32) (x1 : Int32) (x2 : Int32) : Int32 := ((((((((0 : Int32) + x0) * (-1640531535 : Int32)) + x1) * (-1640531535 : Int32)) + x2) * (-1640531535 : Int32)) ^^^ (((((((((0 : Int32) + x0) * (-1640531535 : Int32)) + x1) * (-1640531535 : Int32)) + x2) * (-1640531535 : Int32)).toUInt32 >>> ((16 : Int32) &&& 31).toUInt32).toInt32))
theorem ef_h03 (m : MethodId) (o0 : Addr) : entryFrame m #[(.ref o0), (.int (0 : Int32)), (.int (3 : Int32))] 5 = mkF m 0 #[.val (.ref o0), .val (.int (0 : Int32)), .val (.int (3 : Int32)), .unset, .unset] [] := by first | (simp [entryFrame, mkF, argsToLocals, Value.category]; done) | rfl
def Qh03 (Z : State) (o0 : Addr) (k0 : ClassId) (x0 : Int32) (x1 : Int32) (x2 : Int32) (x3 : Int32) (h0 : Heap) (n0 : Nat) (v : Option Value) (h : Heap) (L : List Loc) : Prop := v = some (.int (own_h03 x0 x1 x2)) ∧ Fr n0 L ∧ h = h0
set_option maxRecDepth 65536 in
set_option maxHeartbeats 40000000 in
theorem rmh03 (l : Launch) (Z : State) (a0 : Array Value) (hw : ∀ d ∈ tables_1, d.before a0 Z = true) (ws : List Jvm.Cond) (o0 : Addr) (k0 : ClassId) (x0 : Int32) (x1 : Int32) (x2 : Int32) (x3 : Int32) (h0 : Heap) (n0 : Nat) (Z0 : n0 ≤ h0.size) (V_o0 : Arv Z h0 o0 k0 .int (4 : Int32) [(.int x0), (.int x1), (.int x2), (.int x3)] (.int (0 : Int32))) :
    MetFree l (⟨"com/example/limpet/limpet/model/NodeLabel", "hashOf", "([III)I"⟩ : MethodName) (head1 (Jvm.Cond.code (⟨"com/example/limpet/limpet/model/NodeLabel", "hashOf", "([III)I"⟩ : MethodName) prog_42_method_23_code 5 (some .int) :: ws) ({ frames := 0, cells := 0, slots := 0, locals := 0 } : Room)) (fun a U => a = #[(.ref o0), (.int (0 : Int32)), (.int (3 : Int32))] ∧ Z.Warmed39 U.vm ∧ U.heap = h0) (fun _ _ _ _ _ => True) (fun _ U o U' => ∃ v L, o = .returned v ∧ Qh03 Z o0 k0 x0 x1 x2 x3 h0 n0 v U'.heap L ∧ FrameEnd U o U' L ({ frames := 0, cells := 0, slots := 0, locals := 0 } : Room).cells ({ frames := 0, cells := 0, slots := 0, locals := 0 } : Room).slots) := by
  refine MetFree.of_bodySF (plainFor_of_name pn_1) hisR ?_
  intro p e s m args below meth c s₁ Bd hml0 hP hK
  obtain ⟨rfl, hZ, hh⟩ := hP
  have hx := Bd.exec
  have hby := Bd.bytes
  have hml : c.maxLocals = 5 := hml0
  have hown : s.vm.findClass "com/example/limpet/limpet/model/NodeLabel" = some m.cls := findClass_of_methodNamed Bd.named
  have hnm := (name_of_methodNamed Bd.named Bd.method).1
  have X0 : Stand p l e ({ frames := 0, cells := 0, slots := 0, locals := 0 } : Room) s m #[(.ref o0), (.int (0 : Int32)), (.int (3 : Int32))] below meth c s₁ [] 0 0 := Stand.of_body Bd
  have e0 : s₁.heap = h0 := by rw [← hh, Bd.state]; rfl
  have N0 := Fr.nil n0
  have K0 := Keep.refl h0 []
  suffices hgo : Goes p.tables e below (fun s₂ o => ∃ v L, o = .returned v ∧ Qh03 Z o0 k0 x0 x1 x2 x3 h0 n0 v s₂.heap L ∧ FrameEnd s o s₂ L ({ frames := 0, cells := 0, slots := 0, locals := 0 } : Room).cells ({ frames := 0, cells := 0, slots := 0, locals := 0 } : Room).slots) (s₁.setTop (mkF m 0 #[.val (.ref o0), .val (.int (0 : Int32)), .val (.int (3 : Int32)), .unset, .unset] [])) from goEnd (fun t k => castTop (ef_h03 m o0) k) hgo
  refine go (fun t kt => XS.iconst X0.here hx rfl (hb hby d1_0) kt) ?_
  show Goes p.tables e below _ (s₁.setTop (mkF m 1 #[.val (.ref o0), .val (.int (0 : Int32)), .val (.int (3 : Int32)), .unset, .unset] [(.int (0 : Int32))]))
  refine go (fun t kt => XS.istoreN X0.here hx rfl (hb hby d1_1) rfl (l' := #[.val (.ref o0), .val (.int (0 : Int32)), .val (.int (3 : Int32)), .val (.int (0 : Int32)), .unset]) rfl kt) ?_
  show Goes p.tables e below _ (s₁.setTop (mkF m 2 #[.val (.ref o0), .val (.int (0 : Int32)), .val (.int (3 : Int32)), .val (.int (0 : Int32)), .unset] []))
  refine go (fun t kt => XS.iloadN X0.here hx rfl (hb hby d1_2) rfl kt) ?_
  show Goes p.tables e below _ (s₁.setTop (mkF m 3 #[.val (.ref o0), .val (.int (0 : Int32)), .val (.int (3 : Int32)), .val (.int (0 : Int32)), .unset] [(.int (0 : Int32))]))
  refine go (fun t kt => XS.istore X0.here hx rfl (hb hby d1_3) rfl (l' := #[.val (.ref o0), .val (.int (0 : Int32)), .val (.int (3 : Int32)), .val (.int (0 : Int32)), .val (.int (0 : Int32))]) rfl kt) ?_
  show Goes p.tables e below _ (s₁.setTop (mkF m 5 #[.val (.ref o0), .val (.int (0 : Int32)), .val (.int (3 : Int32)), .val (.int (0 : Int32)), .val (.int (0 : Int32))] []))
  refine go (fun t kt => XS.iload X0.here hx rfl (hb hby d1_5) rfl kt) ?_
  show Goes p.tables e below _ (s₁.setTop (mkF m 7 #[.val (.ref o0), .val (.int (0 : Int32)), .val (.int (3 : Int32)), .val (.int (0 : Int32)), .val (.int (0 : Int32))] [(.int (0 : Int32))]))
  refine go (fun t kt => XS.iloadN X0.here hx rfl (hb hby d1_7) rfl kt) ?_
  show Goes p.tables e below _ (s₁.setTop (mkF m 8 #[.val (.ref o0), .val (.int (0 : Int32)), .val (.int (3 : Int32)), .val (.int (0 : Int32)), .val (.int (0 : Int32))] [(.int (0 : Int32)), (.int (0 : Int32))]))
  refine go (fun t kt => XS.iloadN X0.here hx rfl (hb hby d1_8) rfl kt) ?_
  show Goes p.tables e below _ (s₁.setTop (mkF m 9 #[.val (.ref o0), .val (.int (0 : Int32)), .val (.int (3 : Int32)), .val (.int (0 : Int32)), .val (.int (0 : Int32))] [(.int (3 : Int32)), (.int (0 : Int32)), (.int (0 : Int32))]))
  refine go (fun t kt => XS.iadd X0.here hx rfl (hb hby d1_9) rfl kt) ?_
  show Goes p.tables e below _ (s₁.setTop (mkF m 10 #[.val (.ref o0), .val (.int (0 : Int32)), .val (.int (3 : Int32)), .val (.int (0 : Int32)), .val (.int (0 : Int32))] [(.int ((0 : Int32) + (3 : Int32))), (.int (0 : Int32))]))
  refine go (fun t kt => XS.icmpNo X0.here hx rfl (hb hby d1_10) rfl (tlt (by decide : ((0 : Int32) < ((0 : Int32) + (3 : Int32))))).2.1 kt) ?_
  show Goes p.tables e below _ (s₁.setTop (mkF m 13 #[.val (.ref o0), .val (.int (0 : Int32)), .val (.int (3 : Int32)), .val (.int (0 : Int32)), .val (.int (0 : Int32))] []))
  refine go (fun t kt => XS.iloadN X0.here hx rfl (hb hby d1_13) rfl kt) ?_
  show Goes p.tables e below _ (s₁.setTop (mkF m 14 #[.val (.ref o0), .val (.int (0 : Int32)), .val (.int (3 : Int32)), .val (.int (0 : Int32)), .val (.int (0 : Int32))] [(.int (0 : Int32))]))
  refine go (fun t kt => XS.aloadN X0.here hx rfl (hb hby d1_14) rfl rfl kt) ?_
  show Goes p.tables e below _ (s₁.setTop (mkF m 15 #[.val (.ref o0), .val (.int (0 : Int32)), .val (.int (3 : Int32)), .val (.int (0 : Int32)), .val (.int (0 : Int32))] [(.ref o0), (.int (0 : Int32))]))
  refine go (fun t kt => XS.iload X0.here hx rfl (hb hby d1_15) rfl kt) ?_
  show Goes p.tables e below _ (s₁.setTop (mkF m 17 #[.val (.ref o0), .val (.int (0 : Int32)), .val (.int (3 : Int32)), .val (.int (0 : Int32)), .val (.int (0 : Int32))] [(.int (0 : Int32)), (.ref o0), (.int (0 : Int32))]))
  obtain ⟨cl1, Ar1, q1, S1, M1, H1, G1⟩ := id V_o0
  have hin1 : ¬ ((0 : Int32) < 0 ∨ cl1.slots.size ≤ ((0 : Int32)).toNatClampNeg) := inb_of S1 ⟨by decide, by decide⟩
  have hat1 : cl1.slots[((0 : Int32)).toNatClampNeg]? = some (.int x0) := H1.at hin1 rfl
  refine go (X0.iaload hx (j := (0 : Int32)) (v := (.int x0)) (by rw [e0]; exact Ar1.1) (State.isArrayOf_alike hZ.alike Ar1.2.1) Ar1.2.2 hin1 hat1 (g := (mkF m 17 #[.val (.ref o0), .val (.int (0 : Int32)), .val (.int (3 : Int32)), .val (.int (0 : Int32)), .val (.int (0 : Int32))] [(.int (0 : Int32)), (.ref o0), (.int (0 : Int32))])) rfl rfl (hb hby d1_17)) ?_
  show Goes p.tables e below _ (s₁.setTop (mkF m 18 #[.val (.ref o0), .val (.int (0 : Int32)), .val (.int (3 : Int32)), .val (.int (0 : Int32)), .val (.int (0 : Int32))] [(.int x0), (.int (0 : Int32))]))
  refine go (fun t kt => XS.iadd X0.here hx rfl (hb hby d1_18) rfl kt) ?_
  show Goes p.tables e below _ (s₁.setTop (mkF m 19 #[.val (.ref o0), .val (.int (0 : Int32)), .val (.int (3 : Int32)), .val (.int (0 : Int32)), .val (.int (0 : Int32))] [(.int ((0 : Int32) + x0))]))
  refine go (X0.ldcInt hx hown (mvT hZ (hw _ (List.mem_of_getElem? (i := 6) rfl))) (g := (mkF m 19 #[.val (.ref o0), .val (.int (0 : Int32)), .val (.int (3 : Int32)), .val (.int (0 : Int32)), .val (.int (0 : Int32))] [(.int ((0 : Int32) + x0))])) rfl (hb hby d1_19)) ?_
  show Goes p.tables e below _ (s₁.setTop (mkF m 21 #[.val (.ref o0), .val (.int (0 : Int32)), .val (.int (3 : Int32)), .val (.int (0 : Int32)), .val (.int (0 : Int32))] [(.int (-1640531535 : Int32)), (.int ((0 : Int32) + x0))]))
  refine go (fun t kt => XS.imul X0.here hx rfl (hb hby d1_21) rfl kt) ?_
  show Goes p.tables e below _ (s₁.setTop (mkF m 22 #[.val (.ref o0), .val (.int (0 : Int32)), .val (.int (3 : Int32)), .val (.int (0 : Int32)), .val (.int (0 : Int32))] [(.int (((0 : Int32) + x0) * (-1640531535 : Int32)))]))
  refine go (fun t kt => XS.istoreN X0.here hx rfl (hb hby d1_22) rfl (l' := #[.val (.ref o0), .val (.int (0 : Int32)), .val (.int (3 : Int32)), .val (.int (((0 : Int32) + x0) * (-1640531535 : Int32))), .val (.int (0 : Int32))]) rfl kt) ?_
  show Goes p.tables e below _ (s₁.setTop (mkF m 23 #[.val (.ref o0), .val (.int (0 : Int32)), .val (.int (3 : Int32)), .val (.int (((0 : Int32) + x0) * (-1640531535 : Int32))), .val (.int (0 : Int32))] []))
  refine go (fun t kt => XS.iinc X0.here hx rfl (hb hby d1_23) rfl (l' := #[.val (.ref o0), .val (.int (0 : Int32)), .val (.int (3 : Int32)), .val (.int (((0 : Int32) + x0) * (-1640531535 : Int32))), .val (.int ((0 : Int32) + (1 : Int32)))]) rfl kt) ?_
  show Goes p.tables e below _ (s₁.setTop (mkF m 26 #[.val (.ref o0), .val (.int (0 : Int32)), .val (.int (3 : Int32)), .val (.int (((0 : Int32) + x0) * (-1640531535 : Int32))), .val (.int ((0 : Int32) + (1 : Int32)))] []))
  refine go (fun t kt => XS.goto X0.here hx rfl (pc0 := 26) (pc' := 5) rfl (hb hby d1_26) (by decide) (by decide) kt) ?_
  show Goes p.tables e below _ (s₁.setTop (mkF m 5 #[.val (.ref o0), .val (.int (0 : Int32)), .val (.int (3 : Int32)), .val (.int (((0 : Int32) + x0) * (-1640531535 : Int32))), .val (.int ((0 : Int32) + (1 : Int32)))] []))
  refine go (fun t kt => XS.iload X0.here hx rfl (hb hby d1_5) rfl kt) ?_
  show Goes p.tables e below _ (s₁.setTop (mkF m 7 #[.val (.ref o0), .val (.int (0 : Int32)), .val (.int (3 : Int32)), .val (.int (((0 : Int32) + x0) * (-1640531535 : Int32))), .val (.int ((0 : Int32) + (1 : Int32)))] [(.int ((0 : Int32) + (1 : Int32)))]))
  refine go (fun t kt => XS.iloadN X0.here hx rfl (hb hby d1_7) rfl kt) ?_
  show Goes p.tables e below _ (s₁.setTop (mkF m 8 #[.val (.ref o0), .val (.int (0 : Int32)), .val (.int (3 : Int32)), .val (.int (((0 : Int32) + x0) * (-1640531535 : Int32))), .val (.int ((0 : Int32) + (1 : Int32)))] [(.int (0 : Int32)), (.int ((0 : Int32) + (1 : Int32)))]))
  refine go (fun t kt => XS.iloadN X0.here hx rfl (hb hby d1_8) rfl kt) ?_
  show Goes p.tables e below _ (s₁.setTop (mkF m 9 #[.val (.ref o0), .val (.int (0 : Int32)), .val (.int (3 : Int32)), .val (.int (((0 : Int32) + x0) * (-1640531535 : Int32))), .val (.int ((0 : Int32) + (1 : Int32)))] [(.int (3 : Int32)), (.int (0 : Int32)), (.int ((0 : Int32) + (1 : Int32)))]))
  refine go (fun t kt => XS.iadd X0.here hx rfl (hb hby d1_9) rfl kt) ?_
  show Goes p.tables e below _ (s₁.setTop (mkF m 10 #[.val (.ref o0), .val (.int (0 : Int32)), .val (.int (3 : Int32)), .val (.int (((0 : Int32) + x0) * (-1640531535 : Int32))), .val (.int ((0 : Int32) + (1 : Int32)))] [(.int ((0 : Int32) + (3 : Int32))), (.int ((0 : Int32) + (1 : Int32)))]))
  refine go (fun t kt => XS.icmpNo X0.here hx rfl (hb hby d1_10) rfl (tlt (by decide : (((0 : Int32) + (1 : Int32)) < ((0 : Int32) + (3 : Int32))))).2.1 kt) ?_
  show Goes p.tables e below _ (s₁.setTop (mkF m 13 #[.val (.ref o0), .val (.int (0 : Int32)), .val (.int (3 : Int32)), .val (.int (((0 : Int32) + x0) * (-1640531535 : Int32))), .val (.int ((0 : Int32) + (1 : Int32)))] []))
  refine go (fun t kt => XS.iloadN X0.here hx rfl (hb hby d1_13) rfl kt) ?_
  show Goes p.tables e below _ (s₁.setTop (mkF m 14 #[.val (.ref o0), .val (.int (0 : Int32)), .val (.int (3 : Int32)), .val (.int (((0 : Int32) + x0) * (-1640531535 : Int32))), .val (.int ((0 : Int32) + (1 : Int32)))] [(.int (((0 : Int32) + x0) * (-1640531535 : Int32)))]))
  refine go (fun t kt => XS.aloadN X0.here hx rfl (hb hby d1_14) rfl rfl kt) ?_
  show Goes p.tables e below _ (s₁.setTop (mkF m 15 #[.val (.ref o0), .val (.int (0 : Int32)), .val (.int (3 : Int32)), .val (.int (((0 : Int32) + x0) * (-1640531535 : Int32))), .val (.int ((0 : Int32) + (1 : Int32)))] [(.ref o0), (.int (((0 : Int32) + x0) * (-1640531535 : Int32)))]))
  refine go (fun t kt => XS.iload X0.here hx rfl (hb hby d1_15) rfl kt) ?_
  show Goes p.tables e below _ (s₁.setTop (mkF m 17 #[.val (.ref o0), .val (.int (0 : Int32)), .val (.int (3 : Int32)), .val (.int (((0 : Int32) + x0) * (-1640531535 : Int32))), .val (.int ((0 : Int32) + (1 : Int32)))] [(.int ((0 : Int32) + (1 : Int32))), (.ref o0), (.int (((0 : Int32) + x0) * (-1640531535 : Int32)))]))
  obtain ⟨cl2, Ar2, q2, S2, M2, H2, G2⟩ := id V_o0
  have hin2 : ¬ (((0 : Int32) + (1 : Int32)) < 0 ∨ cl2.slots.size ≤ (((0 : Int32) + (1 : Int32))).toNatClampNeg) := inb_of S2 ⟨by decide, by decide⟩
  have hat2 : cl2.slots[(((0 : Int32) + (1 : Int32))).toNatClampNeg]? = some (.int x1) := H2.at hin2 rfl
  refine go (X0.iaload hx (j := ((0 : Int32) + (1 : Int32))) (v := (.int x1)) (by rw [e0]; exact Ar2.1) (State.isArrayOf_alike hZ.alike Ar2.2.1) Ar2.2.2 hin2 hat2 (g := (mkF m 17 #[.val (.ref o0), .val (.int (0 : Int32)), .val (.int (3 : Int32)), .val (.int (((0 : Int32) + x0) * (-1640531535 : Int32))), .val (.int ((0 : Int32) + (1 : Int32)))] [(.int ((0 : Int32) + (1 : Int32))), (.ref o0), (.int (((0 : Int32) + x0) * (-1640531535 : Int32)))])) rfl rfl (hb hby d1_17)) ?_
  show Goes p.tables e below _ (s₁.setTop (mkF m 18 #[.val (.ref o0), .val (.int (0 : Int32)), .val (.int (3 : Int32)), .val (.int (((0 : Int32) + x0) * (-1640531535 : Int32))), .val (.int ((0 : Int32) + (1 : Int32)))] [(.int x1), (.int (((0 : Int32) + x0) * (-1640531535 : Int32)))]))
  refine go (fun t kt => XS.iadd X0.here hx rfl (hb hby d1_18) rfl kt) ?_
  show Goes p.tables e below _ (s₁.setTop (mkF m 19 #[.val (.ref o0), .val (.int (0 : Int32)), .val (.int (3 : Int32)), .val (.int (((0 : Int32) + x0) * (-1640531535 : Int32))), .val (.int ((0 : Int32) + (1 : Int32)))] [(.int ((((0 : Int32) + x0) * (-1640531535 : Int32)) + x1))]))
  refine go (X0.ldcInt hx hown (mvT hZ (hw _ (List.mem_of_getElem? (i := 6) rfl))) (g := (mkF m 19 #[.val (.ref o0), .val (.int (0 : Int32)), .val (.int (3 : Int32)), .val (.int (((0 : Int32) + x0) * (-1640531535 : Int32))), .val (.int ((0 : Int32) + (1 : Int32)))] [(.int ((((0 : Int32) + x0) * (-1640531535 : Int32)) + x1))])) rfl (hb hby d1_19)) ?_
  show Goes p.tables e below _ (s₁.setTop (mkF m 21 #[.val (.ref o0), .val (.int (0 : Int32)), .val (.int (3 : Int32)), .val (.int (((0 : Int32) + x0) * (-1640531535 : Int32))), .val (.int ((0 : Int32) + (1 : Int32)))] [(.int (-1640531535 : Int32)), (.int ((((0 : Int32) + x0) * (-1640531535 : Int32)) + x1))]))
  refine go (fun t kt => XS.imul X0.here hx rfl (hb hby d1_21) rfl kt) ?_
  show Goes p.tables e below _ (s₁.setTop (mkF m 22 #[.val (.ref o0), .val (.int (0 : Int32)), .val (.int (3 : Int32)), .val (.int (((0 : Int32) + x0) * (-1640531535 : Int32))), .val (.int ((0 : Int32) + (1 : Int32)))] [(.int (((((0 : Int32) + x0) * (-1640531535 : Int32)) + x1) * (-1640531535 : Int32)))]))
  refine go (fun t kt => XS.istoreN X0.here hx rfl (hb hby d1_22) rfl (l' := #[.val (.ref o0), .val (.int (0 : Int32)), .val (.int (3 : Int32)), .val (.int (((((0 : Int32) + x0) * (-1640531535 : Int32)) + x1) * (-1640531535 : Int32))), .val (.int ((0 : Int32) + (1 : Int32)))]) rfl kt) ?_
  show Goes p.tables e below _ (s₁.setTop (mkF m 23 #[.val (.ref o0), .val (.int (0 : Int32)), .val (.int (3 : Int32)), .val (.int (((((0 : Int32) + x0) * (-1640531535 : Int32)) + x1) * (-1640531535 : Int32))), .val (.int ((0 : Int32) + (1 : Int32)))] []))
  refine go (fun t kt => XS.iinc X0.here hx rfl (hb hby d1_23) rfl (l' := #[.val (.ref o0), .val (.int (0 : Int32)), .val (.int (3 : Int32)), .val (.int (((((0 : Int32) + x0) * (-1640531535 : Int32)) + x1) * (-1640531535 : Int32))), .val (.int (((0 : Int32) + (1 : Int32)) + (1 : Int32)))]) rfl kt) ?_
  show Goes p.tables e below _ (s₁.setTop (mkF m 26 #[.val (.ref o0), .val (.int (0 : Int32)), .val (.int (3 : Int32)), .val (.int (((((0 : Int32) + x0) * (-1640531535 : Int32)) + x1) * (-1640531535 : Int32))), .val (.int (((0 : Int32) + (1 : Int32)) + (1 : Int32)))] []))
  refine go (fun t kt => XS.goto X0.here hx rfl (pc0 := 26) (pc' := 5) rfl (hb hby d1_26) (by decide) (by decide) kt) ?_
  show Goes p.tables e below _ (s₁.setTop (mkF m 5 #[.val (.ref o0), .val (.int (0 : Int32)), .val (.int (3 : Int32)), .val (.int (((((0 : Int32) + x0) * (-1640531535 : Int32)) + x1) * (-1640531535 : Int32))), .val (.int (((0 : Int32) + (1 : Int32)) + (1 : Int32)))] []))
  refine go (fun t kt => XS.iload X0.here hx rfl (hb hby d1_5) rfl kt) ?_
  show Goes p.tables e below _ (s₁.setTop (mkF m 7 #[.val (.ref o0), .val (.int (0 : Int32)), .val (.int (3 : Int32)), .val (.int (((((0 : Int32) + x0) * (-1640531535 : Int32)) + x1) * (-1640531535 : Int32))), .val (.int (((0 : Int32) + (1 : Int32)) + (1 : Int32)))] [(.int (((0 : Int32) + (1 : Int32)) + (1 : Int32)))]))
  refine go (fun t kt => XS.iloadN X0.here hx rfl (hb hby d1_7) rfl kt) ?_
  show Goes p.tables e below _ (s₁.setTop (mkF m 8 #[.val (.ref o0), .val (.int (0 : Int32)), .val (.int (3 : Int32)), .val (.int (((((0 : Int32) + x0) * (-1640531535 : Int32)) + x1) * (-1640531535 : Int32))), .val (.int (((0 : Int32) + (1 : Int32)) + (1 : Int32)))] [(.int (0 : Int32)), (.int (((0 : Int32) + (1 : Int32)) + (1 : Int32)))]))
  refine go (fun t kt => XS.iloadN X0.here hx rfl (hb hby d1_8) rfl kt) ?_
  show Goes p.tables e below _ (s₁.setTop (mkF m 9 #[.val (.ref o0), .val (.int (0 : Int32)), .val (.int (3 : Int32)), .val (.int (((((0 : Int32) + x0) * (-1640531535 : Int32)) + x1) * (-1640531535 : Int32))), .val (.int (((0 : Int32) + (1 : Int32)) + (1 : Int32)))] [(.int (3 : Int32)), (.int (0 : Int32)), (.int (((0 : Int32) + (1 : Int32)) + (1 : Int32)))]))
  refine go (fun t kt => XS.iadd X0.here hx rfl (hb hby d1_9) rfl kt) ?_
  show Goes p.tables e below _ (s₁.setTop (mkF m 10 #[.val (.ref o0), .val (.int (0 : Int32)), .val (.int (3 : Int32)), .val (.int (((((0 : Int32) + x0) * (-1640531535 : Int32)) + x1) * (-1640531535 : Int32))), .val (.int (((0 : Int32) + (1 : Int32)) + (1 : Int32)))] [(.int ((0 : Int32) + (3 : Int32))), (.int (((0 : Int32) + (1 : Int32)) + (1 : Int32)))]))
  refine go (fun t kt => XS.icmpNo X0.here hx rfl (hb hby d1_10) rfl (tlt (by decide : ((((0 : Int32) + (1 : Int32)) + (1 : Int32)) < ((0 : Int32) + (3 : Int32))))).2.1 kt) ?_
  show Goes p.tables e below _ (s₁.setTop (mkF m 13 #[.val (.ref o0), .val (.int (0 : Int32)), .val (.int (3 : Int32)), .val (.int (((((0 : Int32) + x0) * (-1640531535 : Int32)) + x1) * (-1640531535 : Int32))), .val (.int (((0 : Int32) + (1 : Int32)) + (1 : Int32)))] []))
  refine go (fun t kt => XS.iloadN X0.here hx rfl (hb hby d1_13) rfl kt) ?_
  show Goes p.tables e below _ (s₁.setTop (mkF m 14 #[.val (.ref o0), .val (.int (0 : Int32)), .val (.int (3 : Int32)), .val (.int (((((0 : Int32) + x0) * (-1640531535 : Int32)) + x1) * (-1640531535 : Int32))), .val (.int (((0 : Int32) + (1 : Int32)) + (1 : Int32)))] [(.int (((((0 : Int32) + x0) * (-1640531535 : Int32)) + x1) * (-1640531535 : Int32)))]))
  refine go (fun t kt => XS.aloadN X0.here hx rfl (hb hby d1_14) rfl rfl kt) ?_
  show Goes p.tables e below _ (s₁.setTop (mkF m 15 #[.val (.ref o0), .val (.int (0 : Int32)), .val (.int (3 : Int32)), .val (.int (((((0 : Int32) + x0) * (-1640531535 : Int32)) + x1) * (-1640531535 : Int32))), .val (.int (((0 : Int32) + (1 : Int32)) + (1 : Int32)))] [(.ref o0), (.int (((((0 : Int32) + x0) * (-1640531535 : Int32)) + x1) * (-1640531535 : Int32)))]))
  refine go (fun t kt => XS.iload X0.here hx rfl (hb hby d1_15) rfl kt) ?_
  show Goes p.tables e below _ (s₁.setTop (mkF m 17 #[.val (.ref o0), .val (.int (0 : Int32)), .val (.int (3 : Int32)), .val (.int (((((0 : Int32) + x0) * (-1640531535 : Int32)) + x1) * (-1640531535 : Int32))), .val (.int (((0 : Int32) + (1 : Int32)) + (1 : Int32)))] [(.int (((0 : Int32) + (1 : Int32)) + (1 : Int32))), (.ref o0), (.int (((((0 : Int32) + x0) * (-1640531535 : Int32)) + x1) * (-1640531535 : Int32)))]))
  obtain ⟨cl3, Ar3, q3, S3, M3, H3, G3⟩ := id V_o0
  have hin3 : ¬ ((((0 : Int32) + (1 : Int32)) + (1 : Int32)) < 0 ∨ cl3.slots.size ≤ ((((0 : Int32) + (1 : Int32)) + (1 : Int32))).toNatClampNeg) := inb_of S3 ⟨by decide, by decide⟩
  have hat3 : cl3.slots[((((0 : Int32) + (1 : Int32)) + (1 : Int32))).toNatClampNeg]? = some (.int x2) := H3.at hin3 rfl
  refine go (X0.iaload hx (j := (((0 : Int32) + (1 : Int32)) + (1 : Int32))) (v := (.int x2)) (by rw [e0]; exact Ar3.1) (State.isArrayOf_alike hZ.alike Ar3.2.1) Ar3.2.2 hin3 hat3 (g := (mkF m 17 #[.val (.ref o0), .val (.int (0 : Int32)), .val (.int (3 : Int32)), .val (.int (((((0 : Int32) + x0) * (-1640531535 : Int32)) + x1) * (-1640531535 : Int32))), .val (.int (((0 : Int32) + (1 : Int32)) + (1 : Int32)))] [(.int (((0 : Int32) + (1 : Int32)) + (1 : Int32))), (.ref o0), (.int (((((0 : Int32) + x0) * (-1640531535 : Int32)) + x1) * (-1640531535 : Int32)))])) rfl rfl (hb hby d1_17)) ?_
  show Goes p.tables e below _ (s₁.setTop (mkF m 18 #[.val (.ref o0), .val (.int (0 : Int32)), .val (.int (3 : Int32)), .val (.int (((((0 : Int32) + x0) * (-1640531535 : Int32)) + x1) * (-1640531535 : Int32))), .val (.int (((0 : Int32) + (1 : Int32)) + (1 : Int32)))] [(.int x2), (.int (((((0 : Int32) + x0) * (-1640531535 : Int32)) + x1) * (-1640531535 : Int32)))]))
  refine go (fun t kt => XS.iadd X0.here hx rfl (hb hby d1_18) rfl kt) ?_
  show Goes p.tables e below _ (s₁.setTop (mkF m 19 #[.val (.ref o0), .val (.int (0 : Int32)), .val (.int (3 : Int32)), .val (.int (((((0 : Int32) + x0) * (-1640531535 : Int32)) + x1) * (-1640531535 : Int32))), .val (.int (((0 : Int32) + (1 : Int32)) + (1 : Int32)))] [(.int ((((((0 : Int32) + x0) * (-1640531535 : Int32)) + x1) * (-1640531535 : Int32)) + x2))]))
  refine go (X0.ldcInt hx hown (mvT hZ (hw _ (List.mem_of_getElem? (i := 6) rfl))) (g := (mkF m 19 #[.val (.ref o0), .val (.int (0 : Int32)), .val (.int (3 : Int32)), .val (.int (((((0 : Int32) + x0) * (-1640531535 : Int32)) + x1) * (-1640531535 : Int32))), .val (.int (((0 : Int32) + (1 : Int32)) + (1 : Int32)))] [(.int ((((((0 : Int32) + x0) * (-1640531535 : Int32)) + x1) * (-1640531535 : Int32)) + x2))])) rfl (hb hby d1_19)) ?_
  show Goes p.tables e below _ (s₁.setTop (mkF m 21 #[.val (.ref o0), .val (.int (0 : Int32)), .val (.int (3 : Int32)), .val (.int (((((0 : Int32) + x0) * (-1640531535 : Int32)) + x1) * (-1640531535 : Int32))), .val (.int (((0 : Int32) + (1 : Int32)) + (1 : Int32)))] [(.int (-1640531535 : Int32)), (.int ((((((0 : Int32) + x0) * (-1640531535 : Int32)) + x1) * (-1640531535 : Int32)) + x2))]))
  refine go (fun t kt => XS.imul X0.here hx rfl (hb hby d1_21) rfl kt) ?_
  show Goes p.tables e below _ (s₁.setTop (mkF m 22 #[.val (.ref o0), .val (.int (0 : Int32)), .val (.int (3 : Int32)), .val (.int (((((0 : Int32) + x0) * (-1640531535 : Int32)) + x1) * (-1640531535 : Int32))), .val (.int (((0 : Int32) + (1 : Int32)) + (1 : Int32)))] [(.int (((((((0 : Int32) + x0) * (-1640531535 : Int32)) + x1) * (-1640531535 : Int32)) + x2) * (-1640531535 : Int32)))]))
  refine go (fun t kt => XS.istoreN X0.here hx rfl (hb hby d1_22) rfl (l' := #[.val (.ref o0), .val (.int (0 : Int32)), .val (.int (3 : Int32)), .val (.int (((((((0 : Int32) + x0) * (-1640531535 : Int32)) + x1) * (-1640531535 : Int32)) + x2) * (-1640531535 : Int32))), .val (.int (((0 : Int32) + (1 : Int32)) + (1 : Int32)))]) rfl kt) ?_
  show Goes p.tables e below _ (s₁.setTop (mkF m 23 #[.val (.ref o0), .val (.int (0 : Int32)), .val (.int (3 : Int32)), .val (.int (((((((0 : Int32) + x0) * (-1640531535 : Int32)) + x1) * (-1640531535 : Int32)) + x2) * (-1640531535 : Int32))), .val (.int (((0 : Int32) + (1 : Int32)) + (1 : Int32)))] []))
  refine go (fun t kt => XS.iinc X0.here hx rfl (hb hby d1_23) rfl (l' := #[.val (.ref o0), .val (.int (0 : Int32)), .val (.int (3 : Int32)), .val (.int (((((((0 : Int32) + x0) * (-1640531535 : Int32)) + x1) * (-1640531535 : Int32)) + x2) * (-1640531535 : Int32))), .val (.int ((((0 : Int32) + (1 : Int32)) + (1 : Int32)) + (1 : Int32)))]) rfl kt) ?_
  show Goes p.tables e below _ (s₁.setTop (mkF m 26 #[.val (.ref o0), .val (.int (0 : Int32)), .val (.int (3 : Int32)), .val (.int (((((((0 : Int32) + x0) * (-1640531535 : Int32)) + x1) * (-1640531535 : Int32)) + x2) * (-1640531535 : Int32))), .val (.int ((((0 : Int32) + (1 : Int32)) + (1 : Int32)) + (1 : Int32)))] []))
  refine go (fun t kt => XS.goto X0.here hx rfl (pc0 := 26) (pc' := 5) rfl (hb hby d1_26) (by decide) (by decide) kt) ?_
  show Goes p.tables e below _ (s₁.setTop (mkF m 5 #[.val (.ref o0), .val (.int (0 : Int32)), .val (.int (3 : Int32)), .val (.int (((((((0 : Int32) + x0) * (-1640531535 : Int32)) + x1) * (-1640531535 : Int32)) + x2) * (-1640531535 : Int32))), .val (.int ((((0 : Int32) + (1 : Int32)) + (1 : Int32)) + (1 : Int32)))] []))
  refine go (fun t kt => XS.iload X0.here hx rfl (hb hby d1_5) rfl kt) ?_
  show Goes p.tables e below _ (s₁.setTop (mkF m 7 #[.val (.ref o0), .val (.int (0 : Int32)), .val (.int (3 : Int32)), .val (.int (((((((0 : Int32) + x0) * (-1640531535 : Int32)) + x1) * (-1640531535 : Int32)) + x2) * (-1640531535 : Int32))), .val (.int ((((0 : Int32) + (1 : Int32)) + (1 : Int32)) + (1 : Int32)))] [(.int ((((0 : Int32) + (1 : Int32)) + (1 : Int32)) + (1 : Int32)))]))
  refine go (fun t kt => XS.iloadN X0.here hx rfl (hb hby d1_7) rfl kt) ?_
  show Goes p.tables e below _ (s₁.setTop (mkF m 8 #[.val (.ref o0), .val (.int (0 : Int32)), .val (.int (3 : Int32)), .val (.int (((((((0 : Int32) + x0) * (-1640531535 : Int32)) + x1) * (-1640531535 : Int32)) + x2) * (-1640531535 : Int32))), .val (.int ((((0 : Int32) + (1 : Int32)) + (1 : Int32)) + (1 : Int32)))] [(.int (0 : Int32)), (.int ((((0 : Int32) + (1 : Int32)) + (1 : Int32)) + (1 : Int32)))]))
  refine go (fun t kt => XS.iloadN X0.here hx rfl (hb hby d1_8) rfl kt) ?_
  show Goes p.tables e below _ (s₁.setTop (mkF m 9 #[.val (.ref o0), .val (.int (0 : Int32)), .val (.int (3 : Int32)), .val (.int (((((((0 : Int32) + x0) * (-1640531535 : Int32)) + x1) * (-1640531535 : Int32)) + x2) * (-1640531535 : Int32))), .val (.int ((((0 : Int32) + (1 : Int32)) + (1 : Int32)) + (1 : Int32)))] [(.int (3 : Int32)), (.int (0 : Int32)), (.int ((((0 : Int32) + (1 : Int32)) + (1 : Int32)) + (1 : Int32)))]))
  refine go (fun t kt => XS.iadd X0.here hx rfl (hb hby d1_9) rfl kt) ?_
  show Goes p.tables e below _ (s₁.setTop (mkF m 10 #[.val (.ref o0), .val (.int (0 : Int32)), .val (.int (3 : Int32)), .val (.int (((((((0 : Int32) + x0) * (-1640531535 : Int32)) + x1) * (-1640531535 : Int32)) + x2) * (-1640531535 : Int32))), .val (.int ((((0 : Int32) + (1 : Int32)) + (1 : Int32)) + (1 : Int32)))] [(.int ((0 : Int32) + (3 : Int32))), (.int ((((0 : Int32) + (1 : Int32)) + (1 : Int32)) + (1 : Int32)))]))
  refine go (fun t kt => XS.icmpYes X0.here hx rfl (pc0 := 10) (pc' := 29) rfl (hb hby d1_10) rfl (flt (by decide : ¬ (((((0 : Int32) + (1 : Int32)) + (1 : Int32)) + (1 : Int32)) < ((0 : Int32) + (3 : Int32))))).2.1 (by decide) (by decide) kt) ?_
  show Goes p.tables e below _ (s₁.setTop (mkF m 29 #[.val (.ref o0), .val (.int (0 : Int32)), .val (.int (3 : Int32)), .val (.int (((((((0 : Int32) + x0) * (-1640531535 : Int32)) + x1) * (-1640531535 : Int32)) + x2) * (-1640531535 : Int32))), .val (.int ((((0 : Int32) + (1 : Int32)) + (1 : Int32)) + (1 : Int32)))] []))
  refine go (fun t kt => XS.iloadN X0.here hx rfl (hb hby d1_29) rfl kt) ?_
  show Goes p.tables e below _ (s₁.setTop (mkF m 30 #[.val (.ref o0), .val (.int (0 : Int32)), .val (.int (3 : Int32)), .val (.int (((((((0 : Int32) + x0) * (-1640531535 : Int32)) + x1) * (-1640531535 : Int32)) + x2) * (-1640531535 : Int32))), .val (.int ((((0 : Int32) + (1 : Int32)) + (1 : Int32)) + (1 : Int32)))] [(.int (((((((0 : Int32) + x0) * (-1640531535 : Int32)) + x1) * (-1640531535 : Int32)) + x2) * (-1640531535 : Int32)))]))
  refine go (fun t kt => XS.iloadN X0.here hx rfl (hb hby d1_30) rfl kt) ?_
  show Goes p.tables e below _ (s₁.setTop (mkF m 31 #[.val (.ref o0), .val (.int (0 : Int32)), .val (.int (3 : Int32)), .val (.int (((((((0 : Int32) + x0) * (-1640531535 : Int32)) + x1) * (-1640531535 : Int32)) + x2) * (-1640531535 : Int32))), .val (.int ((((0 : Int32) + (1 : Int32)) + (1 : Int32)) + (1 : Int32)))] [(.int (((((((0 : Int32) + x0) * (-1640531535 : Int32)) + x1) * (-1640531535 : Int32)) + x2) * (-1640531535 : Int32))), (.int (((((((0 : Int32) + x0) * (-1640531535 : Int32)) + x1) * (-1640531535 : Int32)) + x2) * (-1640531535 : Int32)))]))
  refine go (fun t kt => XS.bipush X0.here hx rfl (hb hby d1_31) kt) ?_
  show Goes p.tables e below _ (s₁.setTop (mkF m 33 #[.val (.ref o0), .val (.int (0 : Int32)), .val (.int (3 : Int32)), .val (.int (((((((0 : Int32) + x0) * (-1640531535 : Int32)) + x1) * (-1640531535 : Int32)) + x2) * (-1640531535 : Int32))), .val (.int ((((0 : Int32) + (1 : Int32)) + (1 : Int32)) + (1 : Int32)))] [(.int (16 : Int32)), (.int (((((((0 : Int32) + x0) * (-1640531535 : Int32)) + x1) * (-1640531535 : Int32)) + x2) * (-1640531535 : Int32))), (.int (((((((0 : Int32) + x0) * (-1640531535 : Int32)) + x1) * (-1640531535 : Int32)) + x2) * (-1640531535 : Int32)))]))
  refine go (fun t kt => XS.iushr X0.here hx rfl (hb hby d1_33) rfl kt) ?_
  show Goes p.tables e below _ (s₁.setTop (mkF m 34 #[.val (.ref o0), .val (.int (0 : Int32)), .val (.int (3 : Int32)), .val (.int (((((((0 : Int32) + x0) * (-1640531535 : Int32)) + x1) * (-1640531535 : Int32)) + x2) * (-1640531535 : Int32))), .val (.int ((((0 : Int32) + (1 : Int32)) + (1 : Int32)) + (1 : Int32)))] [(.int (((((((((0 : Int32) + x0) * (-1640531535 : Int32)) + x1) * (-1640531535 : Int32)) + x2) * (-1640531535 : Int32)).toUInt32 >>> ((16 : Int32) &&& 31).toUInt32).toInt32)), (.int (((((((0 : Int32) + x0) * (-1640531535 : Int32)) + x1) * (-1640531535 : Int32)) + x2) * (-1640531535 : Int32)))]))
  refine go (fun t kt => XS.ixor X0.here hx rfl (hb hby d1_34) rfl kt) ?_
  show Goes p.tables e below _ (s₁.setTop (mkF m 35 #[.val (.ref o0), .val (.int (0 : Int32)), .val (.int (3 : Int32)), .val (.int (((((((0 : Int32) + x0) * (-1640531535 : Int32)) + x1) * (-1640531535 : Int32)) + x2) * (-1640531535 : Int32))), .val (.int ((((0 : Int32) + (1 : Int32)) + (1 : Int32)) + (1 : Int32)))] [(.int ((((((((0 : Int32) + x0) * (-1640531535 : Int32)) + x1) * (-1640531535 : Int32)) + x2) * (-1640531535 : Int32)) ^^^ (((((((((0 : Int32) + x0) * (-1640531535 : Int32)) + x1) * (-1640531535 : Int32)) + x2) * (-1640531535 : Int32)).toUInt32 >>> ((16 : Int32) &&& 31).toUInt32).toInt32)))]))
  obtain ⟨fs, hr, hrun, hended, hW, hsame⟩ := X0.leave (v := some (.int ((((((((0 : Int32) + x0) * (-1640531535 : Int32)) + x1) * (-1640531535 : Int32)) + x2) * (-1640531535 : Int32)) ^^^ (((((((((0 : Int32) + x0) * (-1640531535 : Int32)) + x1) * (-1640531535 : Int32)) + x2) * (-1640531535 : Int32)).toUInt32 >>> ((16 : Int32) &&& 31).toUInt32).toInt32)))) (fun h => by rw [Bd.returns] at h; cases h)
  refine ⟨_, _, retOut X0 hx (i := .ireturn) Bd.returns rfl (Or.inl ⟨rfl, Or.inl rfl, _, rfl⟩) (hb hby d1_35) hr, hrun, hended, _, _, rfl, ?_, ⟨_, rfl⟩, hW, hsame.mono (by decide) (by decide)⟩
  show Qh03 Z o0 k0 x0 x1 x2 x3 h0 n0 _ s₁.heap _
  rw [e0]
  exact ⟨rfl, N0, rfl⟩
def own_h10  : Int32 := ((0 : Int32) ^^^ (((0 : Int32).toUInt32 >>> ((16 : Int32) &&& 31).toUInt32).toInt32))
theorem ef_h10 (m : MethodId) (o0 : Addr) : entryFrame m #[(.ref o0), (.int (1 : Int32)), (.int (0 : Int32))] 5 = mkF m 0 #[.val (.ref o0), .val (.int (1 : Int32)), .val (.int (0 : Int32)), .unset, .unset] [] := by first | (simp [entryFrame, mkF, argsToLocals, Value.category]; done) | rfl
def Qh10 (Z : State) (o0 : Addr) (k0 : ClassId) (x0 : Int32) (x1 : Int32) (x2 : Int32) (x3 : Int32) (h0 : Heap) (n0 : Nat) (v : Option Value) (h : Heap) (L : List Loc) : Prop := v = some (.int (own_h10)) ∧ Fr n0 L ∧ h = h0
set_option maxRecDepth 65536 in
set_option maxHeartbeats 40000000 in
theorem rmh10 (l : Launch) (Z : State) (a0 : Array Value) (hw : ∀ d ∈ tables_1, d.before a0 Z = true) (ws : List Jvm.Cond) (o0 : Addr) (k0 : ClassId) (x0 : Int32) (x1 : Int32) (x2 : Int32) (x3 : Int32) (h0 : Heap) (n0 : Nat) (Z0 : n0 ≤ h0.size) (V_o0 : Arv Z h0 o0 k0 .int (4 : Int32) [(.int x0), (.int x1), (.int x2), (.int x3)] (.int (0 : Int32))) :
    MetFree l (⟨"com/example/limpet/limpet/model/NodeLabel", "hashOf", "([III)I"⟩ : MethodName) (head1 (Jvm.Cond.code (⟨"com/example/limpet/limpet/model/NodeLabel", "hashOf", "([III)I"⟩ : MethodName) prog_42_method_23_code 5 (some .int) :: ws) ({ frames := 0, cells := 0, slots := 0, locals := 0 } : Room)) (fun a U => a = #[(.ref o0), (.int (1 : Int32)), (.int (0 : Int32))] ∧ Z.Warmed39 U.vm ∧ U.heap = h0) (fun _ _ _ _ _ => True) (fun _ U o U' => ∃ v L, o = .returned v ∧ Qh10 Z o0 k0 x0 x1 x2 x3 h0 n0 v U'.heap L ∧ FrameEnd U o U' L ({ frames := 0, cells := 0, slots := 0, locals := 0 } : Room).cells ({ frames := 0, cells := 0, slots := 0, locals := 0 } : Room).slots) := by
  refine MetFree.of_bodySF (plainFor_of_name pn_1) hisR ?_
  intro p e s m args below meth c s₁ Bd hml0 hP hK
  obtain ⟨rfl, hZ, hh⟩ := hP
  have hx := Bd.exec
  have hby := Bd.bytes
  have hml : c.maxLocals = 5 := hml0
  have hown : s.vm.findClass "com/example/limpet/limpet/model/NodeLabel" = some m.cls := findClass_of_methodNamed Bd.named
  have hnm := (name_of_methodNamed Bd.named Bd.method).1
  have X0 : Stand p l e ({ frames := 0, cells := 0, slots := 0, locals := 0 } : Room) s m #[(.ref o0), (.int (1 : Int32)), (.int (0 : Int32))] below meth c s₁ [] 0 0 := Stand.of_body Bd
  have e0 : s₁.heap = h0 := by rw [← hh, Bd.state]; rfl
  have N0 := Fr.nil n0
  have K0 := Keep.refl h0 []
  suffices hgo : Goes p.tables e below (fun s₂ o => ∃ v L, o = .returned v ∧ Qh10 Z o0 k0 x0 x1 x2 x3 h0 n0 v s₂.heap L ∧ FrameEnd s o s₂ L ({ frames := 0, cells := 0, slots := 0, locals := 0 } : Room).cells ({ frames := 0, cells := 0, slots := 0, locals := 0 } : Room).slots) (s₁.setTop (mkF m 0 #[.val (.ref o0), .val (.int (1 : Int32)), .val (.int (0 : Int32)), .unset, .unset] [])) from goEnd (fun t k => castTop (ef_h10 m o0) k) hgo
  refine go (fun t kt => XS.iconst X0.here hx rfl (hb hby d1_0) kt) ?_
  show Goes p.tables e below _ (s₁.setTop (mkF m 1 #[.val (.ref o0), .val (.int (1 : Int32)), .val (.int (0 : Int32)), .unset, .unset] [(.int (0 : Int32))]))
  refine go (fun t kt => XS.istoreN X0.here hx rfl (hb hby d1_1) rfl (l' := #[.val (.ref o0), .val (.int (1 : Int32)), .val (.int (0 : Int32)), .val (.int (0 : Int32)), .unset]) rfl kt) ?_
  show Goes p.tables e below _ (s₁.setTop (mkF m 2 #[.val (.ref o0), .val (.int (1 : Int32)), .val (.int (0 : Int32)), .val (.int (0 : Int32)), .unset] []))
  refine go (fun t kt => XS.iloadN X0.here hx rfl (hb hby d1_2) rfl kt) ?_
  show Goes p.tables e below _ (s₁.setTop (mkF m 3 #[.val (.ref o0), .val (.int (1 : Int32)), .val (.int (0 : Int32)), .val (.int (0 : Int32)), .unset] [(.int (1 : Int32))]))
  refine go (fun t kt => XS.istore X0.here hx rfl (hb hby d1_3) rfl (l' := #[.val (.ref o0), .val (.int (1 : Int32)), .val (.int (0 : Int32)), .val (.int (0 : Int32)), .val (.int (1 : Int32))]) rfl kt) ?_
  show Goes p.tables e below _ (s₁.setTop (mkF m 5 #[.val (.ref o0), .val (.int (1 : Int32)), .val (.int (0 : Int32)), .val (.int (0 : Int32)), .val (.int (1 : Int32))] []))
  refine go (fun t kt => XS.iload X0.here hx rfl (hb hby d1_5) rfl kt) ?_
  show Goes p.tables e below _ (s₁.setTop (mkF m 7 #[.val (.ref o0), .val (.int (1 : Int32)), .val (.int (0 : Int32)), .val (.int (0 : Int32)), .val (.int (1 : Int32))] [(.int (1 : Int32))]))
  refine go (fun t kt => XS.iloadN X0.here hx rfl (hb hby d1_7) rfl kt) ?_
  show Goes p.tables e below _ (s₁.setTop (mkF m 8 #[.val (.ref o0), .val (.int (1 : Int32)), .val (.int (0 : Int32)), .val (.int (0 : Int32)), .val (.int (1 : Int32))] [(.int (1 : Int32)), (.int (1 : Int32))]))
  refine go (fun t kt => XS.iloadN X0.here hx rfl (hb hby d1_8) rfl kt) ?_
  show Goes p.tables e below _ (s₁.setTop (mkF m 9 #[.val (.ref o0), .val (.int (1 : Int32)), .val (.int (0 : Int32)), .val (.int (0 : Int32)), .val (.int (1 : Int32))] [(.int (0 : Int32)), (.int (1 : Int32)), (.int (1 : Int32))]))
  refine go (fun t kt => XS.iadd X0.here hx rfl (hb hby d1_9) rfl kt) ?_
  show Goes p.tables e below _ (s₁.setTop (mkF m 10 #[.val (.ref o0), .val (.int (1 : Int32)), .val (.int (0 : Int32)), .val (.int (0 : Int32)), .val (.int (1 : Int32))] [(.int ((1 : Int32) + (0 : Int32))), (.int (1 : Int32))]))
  refine go (fun t kt => XS.icmpYes X0.here hx rfl (pc0 := 10) (pc' := 29) rfl (hb hby d1_10) rfl (flt (by decide : ¬ ((1 : Int32) < ((1 : Int32) + (0 : Int32))))).2.1 (by decide) (by decide) kt) ?_
  show Goes p.tables e below _ (s₁.setTop (mkF m 29 #[.val (.ref o0), .val (.int (1 : Int32)), .val (.int (0 : Int32)), .val (.int (0 : Int32)), .val (.int (1 : Int32))] []))
  refine go (fun t kt => XS.iloadN X0.here hx rfl (hb hby d1_29) rfl kt) ?_
  show Goes p.tables e below _ (s₁.setTop (mkF m 30 #[.val (.ref o0), .val (.int (1 : Int32)), .val (.int (0 : Int32)), .val (.int (0 : Int32)), .val (.int (1 : Int32))] [(.int (0 : Int32))]))
  refine go (fun t kt => XS.iloadN X0.here hx rfl (hb hby d1_30) rfl kt) ?_
  show Goes p.tables e below _ (s₁.setTop (mkF m 31 #[.val (.ref o0), .val (.int (1 : Int32)), .val (.int (0 : Int32)), .val (.int (0 : Int32)), .val (.int (1 : Int32))] [(.int (0 : Int32)), (.int (0 : Int32))]))
  refine go (fun t kt => XS.bipush X0.here hx rfl (hb hby d1_31) kt) ?_
  show Goes p.tables e below _ (s₁.setTop (mkF m 33 #[.val (.ref o0), .val (.int (1 : Int32)), .val (.int (0 : Int32)), .val (.int (0 : Int32)), .val (.int (1 : Int32))] [(.int (16 : Int32)), (.int (0 : Int32)), (.int (0 : Int32))]))
  refine go (fun t kt => XS.iushr X0.here hx rfl (hb hby d1_33) rfl kt) ?_
  show Goes p.tables e below _ (s₁.setTop (mkF m 34 #[.val (.ref o0), .val (.int (1 : Int32)), .val (.int (0 : Int32)), .val (.int (0 : Int32)), .val (.int (1 : Int32))] [(.int (((0 : Int32).toUInt32 >>> ((16 : Int32) &&& 31).toUInt32).toInt32)), (.int (0 : Int32))]))
  refine go (fun t kt => XS.ixor X0.here hx rfl (hb hby d1_34) rfl kt) ?_
  show Goes p.tables e below _ (s₁.setTop (mkF m 35 #[.val (.ref o0), .val (.int (1 : Int32)), .val (.int (0 : Int32)), .val (.int (0 : Int32)), .val (.int (1 : Int32))] [(.int ((0 : Int32) ^^^ (((0 : Int32).toUInt32 >>> ((16 : Int32) &&& 31).toUInt32).toInt32)))]))
  obtain ⟨fs, hr, hrun, hended, hW, hsame⟩ := X0.leave (v := some (.int ((0 : Int32) ^^^ (((0 : Int32).toUInt32 >>> ((16 : Int32) &&& 31).toUInt32).toInt32)))) (fun h => by rw [Bd.returns] at h; cases h)
  refine ⟨_, _, retOut X0 hx (i := .ireturn) Bd.returns rfl (Or.inl ⟨rfl, Or.inl rfl, _, rfl⟩) (hb hby d1_35) hr, hrun, hended, _, _, rfl, ?_, ⟨_, rfl⟩, hW, hsame.mono (by decide) (by decide)⟩
  show Qh10 Z o0 k0 x0 x1 x2 x3 h0 n0 _ s₁.heap _
  rw [e0]
  exact ⟨rfl, N0, rfl⟩
def own_h11 (x1 : Int32) : Int32 := ((((0 : Int32) + x1) * (-1640531535 : Int32)) ^^^ (((((0 : Int32) + x1) * (-1640531535 : Int32)).toUInt32 >>> ((16 : Int32) &&& 31).toUInt32).toInt32))
theorem ef_h11 (m : MethodId) (o0 : Addr) : entryFrame m #[(.ref o0), (.int (1 : Int32)), (.int (1 : Int32))] 5 = mkF m 0 #[.val (.ref o0), .val (.int (1 : Int32)), .val (.int (1 : Int32)), .unset, .unset] [] := by first | (simp [entryFrame, mkF, argsToLocals, Value.category]; done) | rfl
def Qh11 (Z : State) (o0 : Addr) (k0 : ClassId) (x0 : Int32) (x1 : Int32) (x2 : Int32) (x3 : Int32) (h0 : Heap) (n0 : Nat) (v : Option Value) (h : Heap) (L : List Loc) : Prop := v = some (.int (own_h11 x1)) ∧ Fr n0 L ∧ h = h0
set_option maxRecDepth 65536 in
set_option maxHeartbeats 40000000 in
theorem rmh11 (l : Launch) (Z : State) (a0 : Array Value) (hw : ∀ d ∈ tables_1, d.before a0 Z = true) (ws : List Jvm.Cond) (o0 : Addr) (k0 : ClassId) (x0 : Int32) (x1 : Int32) (x2 : Int32) (x3 : Int32) (h0 : Heap) (n0 : Nat) (Z0 : n0 ≤ h0.size) (V_o0 : Arv Z h0 o0 k0 .int (4 : Int32) [(.int x0), (.int x1), (.int x2), (.int x3)] (.int (0 : Int32))) :
    MetFree l (⟨"com/example/limpet/limpet/model/NodeLabel", "hashOf", "([III)I"⟩ : MethodName) (head1 (Jvm.Cond.code (⟨"com/example/limpet/limpet/model/NodeLabel", "hashOf", "([III)I"⟩ : MethodName) prog_42_method_23_code 5 (some .int) :: ws) ({ frames := 0, cells := 0, slots := 0, locals := 0 } : Room)) (fun a U => a = #[(.ref o0), (.int (1 : Int32)), (.int (1 : Int32))] ∧ Z.Warmed39 U.vm ∧ U.heap = h0) (fun _ _ _ _ _ => True) (fun _ U o U' => ∃ v L, o = .returned v ∧ Qh11 Z o0 k0 x0 x1 x2 x3 h0 n0 v U'.heap L ∧ FrameEnd U o U' L ({ frames := 0, cells := 0, slots := 0, locals := 0 } : Room).cells ({ frames := 0, cells := 0, slots := 0, locals := 0 } : Room).slots) := by
  refine MetFree.of_bodySF (plainFor_of_name pn_1) hisR ?_
  intro p e s m args below meth c s₁ Bd hml0 hP hK
  obtain ⟨rfl, hZ, hh⟩ := hP
  have hx := Bd.exec
  have hby := Bd.bytes
  have hml : c.maxLocals = 5 := hml0
  have hown : s.vm.findClass "com/example/limpet/limpet/model/NodeLabel" = some m.cls := findClass_of_methodNamed Bd.named
  have hnm := (name_of_methodNamed Bd.named Bd.method).1
  have X0 : Stand p l e ({ frames := 0, cells := 0, slots := 0, locals := 0 } : Room) s m #[(.ref o0), (.int (1 : Int32)), (.int (1 : Int32))] below meth c s₁ [] 0 0 := Stand.of_body Bd
  have e0 : s₁.heap = h0 := by rw [← hh, Bd.state]; rfl
  have N0 := Fr.nil n0
  have K0 := Keep.refl h0 []
  suffices hgo : Goes p.tables e below (fun s₂ o => ∃ v L, o = .returned v ∧ Qh11 Z o0 k0 x0 x1 x2 x3 h0 n0 v s₂.heap L ∧ FrameEnd s o s₂ L ({ frames := 0, cells := 0, slots := 0, locals := 0 } : Room).cells ({ frames := 0, cells := 0, slots := 0, locals := 0 } : Room).slots) (s₁.setTop (mkF m 0 #[.val (.ref o0), .val (.int (1 : Int32)), .val (.int (1 : Int32)), .unset, .unset] [])) from goEnd (fun t k => castTop (ef_h11 m o0) k) hgo
  refine go (fun t kt => XS.iconst X0.here hx rfl (hb hby d1_0) kt) ?_
  show Goes p.tables e below _ (s₁.setTop (mkF m 1 #[.val (.ref o0), .val (.int (1 : Int32)), .val (.int (1 : Int32)), .unset, .unset] [(.int (0 : Int32))]))
  refine go (fun t kt => XS.istoreN X0.here hx rfl (hb hby d1_1) rfl (l' := #[.val (.ref o0), .val (.int (1 : Int32)), .val (.int (1 : Int32)), .val (.int (0 : Int32)), .unset]) rfl kt) ?_
  show Goes p.tables e below _ (s₁.setTop (mkF m 2 #[.val (.ref o0), .val (.int (1 : Int32)), .val (.int (1 : Int32)), .val (.int (0 : Int32)), .unset] []))
  refine go (fun t kt => XS.iloadN X0.here hx rfl (hb hby d1_2) rfl kt) ?_
  show Goes p.tables e below _ (s₁.setTop (mkF m 3 #[.val (.ref o0), .val (.int (1 : Int32)), .val (.int (1 : Int32)), .val (.int (0 : Int32)), .unset] [(.int (1 : Int32))]))
  refine go (fun t kt => XS.istore X0.here hx rfl (hb hby d1_3) rfl (l' := #[.val (.ref o0), .val (.int (1 : Int32)), .val (.int (1 : Int32)), .val (.int (0 : Int32)), .val (.int (1 : Int32))]) rfl kt) ?_
  show Goes p.tables e below _ (s₁.setTop (mkF m 5 #[.val (.ref o0), .val (.int (1 : Int32)), .val (.int (1 : Int32)), .val (.int (0 : Int32)), .val (.int (1 : Int32))] []))
  refine go (fun t kt => XS.iload X0.here hx rfl (hb hby d1_5) rfl kt) ?_
  show Goes p.tables e below _ (s₁.setTop (mkF m 7 #[.val (.ref o0), .val (.int (1 : Int32)), .val (.int (1 : Int32)), .val (.int (0 : Int32)), .val (.int (1 : Int32))] [(.int (1 : Int32))]))
  refine go (fun t kt => XS.iloadN X0.here hx rfl (hb hby d1_7) rfl kt) ?_
  show Goes p.tables e below _ (s₁.setTop (mkF m 8 #[.val (.ref o0), .val (.int (1 : Int32)), .val (.int (1 : Int32)), .val (.int (0 : Int32)), .val (.int (1 : Int32))] [(.int (1 : Int32)), (.int (1 : Int32))]))
  refine go (fun t kt => XS.iloadN X0.here hx rfl (hb hby d1_8) rfl kt) ?_
  show Goes p.tables e below _ (s₁.setTop (mkF m 9 #[.val (.ref o0), .val (.int (1 : Int32)), .val (.int (1 : Int32)), .val (.int (0 : Int32)), .val (.int (1 : Int32))] [(.int (1 : Int32)), (.int (1 : Int32)), (.int (1 : Int32))]))
  refine go (fun t kt => XS.iadd X0.here hx rfl (hb hby d1_9) rfl kt) ?_
  show Goes p.tables e below _ (s₁.setTop (mkF m 10 #[.val (.ref o0), .val (.int (1 : Int32)), .val (.int (1 : Int32)), .val (.int (0 : Int32)), .val (.int (1 : Int32))] [(.int ((1 : Int32) + (1 : Int32))), (.int (1 : Int32))]))
  refine go (fun t kt => XS.icmpNo X0.here hx rfl (hb hby d1_10) rfl (tlt (by decide : ((1 : Int32) < ((1 : Int32) + (1 : Int32))))).2.1 kt) ?_
  show Goes p.tables e below _ (s₁.setTop (mkF m 13 #[.val (.ref o0), .val (.int (1 : Int32)), .val (.int (1 : Int32)), .val (.int (0 : Int32)), .val (.int (1 : Int32))] []))
  refine go (fun t kt => XS.iloadN X0.here hx rfl (hb hby d1_13) rfl kt) ?_
  show Goes p.tables e below _ (s₁.setTop (mkF m 14 #[.val (.ref o0), .val (.int (1 : Int32)), .val (.int (1 : Int32)), .val (.int (0 : Int32)), .val (.int (1 : Int32))] [(.int (0 : Int32))]))
  refine go (fun t kt => XS.aloadN X0.here hx rfl (hb hby d1_14) rfl rfl kt) ?_
  show Goes p.tables e below _ (s₁.setTop (mkF m 15 #[.val (.ref o0), .val (.int (1 : Int32)), .val (.int (1 : Int32)), .val (.int (0 : Int32)), .val (.int (1 : Int32))] [(.ref o0), (.int (0 : Int32))]))
  refine go (fun t kt => XS.iload X0.here hx rfl (hb hby d1_15) rfl kt) ?_
  show Goes p.tables e below _ (s₁.setTop (mkF m 17 #[.val (.ref o0), .val (.int (1 : Int32)), .val (.int (1 : Int32)), .val (.int (0 : Int32)), .val (.int (1 : Int32))] [(.int (1 : Int32)), (.ref o0), (.int (0 : Int32))]))
  obtain ⟨cl1, Ar1, q1, S1, M1, H1, G1⟩ := id V_o0
  have hin1 : ¬ ((1 : Int32) < 0 ∨ cl1.slots.size ≤ ((1 : Int32)).toNatClampNeg) := inb_of S1 ⟨by decide, by decide⟩
  have hat1 : cl1.slots[((1 : Int32)).toNatClampNeg]? = some (.int x1) := H1.at hin1 rfl
  refine go (X0.iaload hx (j := (1 : Int32)) (v := (.int x1)) (by rw [e0]; exact Ar1.1) (State.isArrayOf_alike hZ.alike Ar1.2.1) Ar1.2.2 hin1 hat1 (g := (mkF m 17 #[.val (.ref o0), .val (.int (1 : Int32)), .val (.int (1 : Int32)), .val (.int (0 : Int32)), .val (.int (1 : Int32))] [(.int (1 : Int32)), (.ref o0), (.int (0 : Int32))])) rfl rfl (hb hby d1_17)) ?_
  show Goes p.tables e below _ (s₁.setTop (mkF m 18 #[.val (.ref o0), .val (.int (1 : Int32)), .val (.int (1 : Int32)), .val (.int (0 : Int32)), .val (.int (1 : Int32))] [(.int x1), (.int (0 : Int32))]))
  refine go (fun t kt => XS.iadd X0.here hx rfl (hb hby d1_18) rfl kt) ?_
  show Goes p.tables e below _ (s₁.setTop (mkF m 19 #[.val (.ref o0), .val (.int (1 : Int32)), .val (.int (1 : Int32)), .val (.int (0 : Int32)), .val (.int (1 : Int32))] [(.int ((0 : Int32) + x1))]))
  refine go (X0.ldcInt hx hown (mvT hZ (hw _ (List.mem_of_getElem? (i := 6) rfl))) (g := (mkF m 19 #[.val (.ref o0), .val (.int (1 : Int32)), .val (.int (1 : Int32)), .val (.int (0 : Int32)), .val (.int (1 : Int32))] [(.int ((0 : Int32) + x1))])) rfl (hb hby d1_19)) ?_
  show Goes p.tables e below _ (s₁.setTop (mkF m 21 #[.val (.ref o0), .val (.int (1 : Int32)), .val (.int (1 : Int32)), .val (.int (0 : Int32)), .val (.int (1 : Int32))] [(.int (-1640531535 : Int32)), (.int ((0 : Int32) + x1))]))
  refine go (fun t kt => XS.imul X0.here hx rfl (hb hby d1_21) rfl kt) ?_
  show Goes p.tables e below _ (s₁.setTop (mkF m 22 #[.val (.ref o0), .val (.int (1 : Int32)), .val (.int (1 : Int32)), .val (.int (0 : Int32)), .val (.int (1 : Int32))] [(.int (((0 : Int32) + x1) * (-1640531535 : Int32)))]))
  refine go (fun t kt => XS.istoreN X0.here hx rfl (hb hby d1_22) rfl (l' := #[.val (.ref o0), .val (.int (1 : Int32)), .val (.int (1 : Int32)), .val (.int (((0 : Int32) + x1) * (-1640531535 : Int32))), .val (.int (1 : Int32))]) rfl kt) ?_
  show Goes p.tables e below _ (s₁.setTop (mkF m 23 #[.val (.ref o0), .val (.int (1 : Int32)), .val (.int (1 : Int32)), .val (.int (((0 : Int32) + x1) * (-1640531535 : Int32))), .val (.int (1 : Int32))] []))
  refine go (fun t kt => XS.iinc X0.here hx rfl (hb hby d1_23) rfl (l' := #[.val (.ref o0), .val (.int (1 : Int32)), .val (.int (1 : Int32)), .val (.int (((0 : Int32) + x1) * (-1640531535 : Int32))), .val (.int ((1 : Int32) + (1 : Int32)))]) rfl kt) ?_
  show Goes p.tables e below _ (s₁.setTop (mkF m 26 #[.val (.ref o0), .val (.int (1 : Int32)), .val (.int (1 : Int32)), .val (.int (((0 : Int32) + x1) * (-1640531535 : Int32))), .val (.int ((1 : Int32) + (1 : Int32)))] []))
  refine go (fun t kt => XS.goto X0.here hx rfl (pc0 := 26) (pc' := 5) rfl (hb hby d1_26) (by decide) (by decide) kt) ?_
  show Goes p.tables e below _ (s₁.setTop (mkF m 5 #[.val (.ref o0), .val (.int (1 : Int32)), .val (.int (1 : Int32)), .val (.int (((0 : Int32) + x1) * (-1640531535 : Int32))), .val (.int ((1 : Int32) + (1 : Int32)))] []))
  refine go (fun t kt => XS.iload X0.here hx rfl (hb hby d1_5) rfl kt) ?_
  show Goes p.tables e below _ (s₁.setTop (mkF m 7 #[.val (.ref o0), .val (.int (1 : Int32)), .val (.int (1 : Int32)), .val (.int (((0 : Int32) + x1) * (-1640531535 : Int32))), .val (.int ((1 : Int32) + (1 : Int32)))] [(.int ((1 : Int32) + (1 : Int32)))]))
  refine go (fun t kt => XS.iloadN X0.here hx rfl (hb hby d1_7) rfl kt) ?_
  show Goes p.tables e below _ (s₁.setTop (mkF m 8 #[.val (.ref o0), .val (.int (1 : Int32)), .val (.int (1 : Int32)), .val (.int (((0 : Int32) + x1) * (-1640531535 : Int32))), .val (.int ((1 : Int32) + (1 : Int32)))] [(.int (1 : Int32)), (.int ((1 : Int32) + (1 : Int32)))]))
  refine go (fun t kt => XS.iloadN X0.here hx rfl (hb hby d1_8) rfl kt) ?_
  show Goes p.tables e below _ (s₁.setTop (mkF m 9 #[.val (.ref o0), .val (.int (1 : Int32)), .val (.int (1 : Int32)), .val (.int (((0 : Int32) + x1) * (-1640531535 : Int32))), .val (.int ((1 : Int32) + (1 : Int32)))] [(.int (1 : Int32)), (.int (1 : Int32)), (.int ((1 : Int32) + (1 : Int32)))]))
  refine go (fun t kt => XS.iadd X0.here hx rfl (hb hby d1_9) rfl kt) ?_
  show Goes p.tables e below _ (s₁.setTop (mkF m 10 #[.val (.ref o0), .val (.int (1 : Int32)), .val (.int (1 : Int32)), .val (.int (((0 : Int32) + x1) * (-1640531535 : Int32))), .val (.int ((1 : Int32) + (1 : Int32)))] [(.int ((1 : Int32) + (1 : Int32))), (.int ((1 : Int32) + (1 : Int32)))]))
  refine go (fun t kt => XS.icmpYes X0.here hx rfl (pc0 := 10) (pc' := 29) rfl (hb hby d1_10) rfl (flt (by decide : ¬ (((1 : Int32) + (1 : Int32)) < ((1 : Int32) + (1 : Int32))))).2.1 (by decide) (by decide) kt) ?_
  show Goes p.tables e below _ (s₁.setTop (mkF m 29 #[.val (.ref o0), .val (.int (1 : Int32)), .val (.int (1 : Int32)), .val (.int (((0 : Int32) + x1) * (-1640531535 : Int32))), .val (.int ((1 : Int32) + (1 : Int32)))] []))
  refine go (fun t kt => XS.iloadN X0.here hx rfl (hb hby d1_29) rfl kt) ?_
  show Goes p.tables e below _ (s₁.setTop (mkF m 30 #[.val (.ref o0), .val (.int (1 : Int32)), .val (.int (1 : Int32)), .val (.int (((0 : Int32) + x1) * (-1640531535 : Int32))), .val (.int ((1 : Int32) + (1 : Int32)))] [(.int (((0 : Int32) + x1) * (-1640531535 : Int32)))]))
  refine go (fun t kt => XS.iloadN X0.here hx rfl (hb hby d1_30) rfl kt) ?_
  show Goes p.tables e below _ (s₁.setTop (mkF m 31 #[.val (.ref o0), .val (.int (1 : Int32)), .val (.int (1 : Int32)), .val (.int (((0 : Int32) + x1) * (-1640531535 : Int32))), .val (.int ((1 : Int32) + (1 : Int32)))] [(.int (((0 : Int32) + x1) * (-1640531535 : Int32))), (.int (((0 : Int32) + x1) * (-1640531535 : Int32)))]))
  refine go (fun t kt => XS.bipush X0.here hx rfl (hb hby d1_31) kt) ?_
  show Goes p.tables e below _ (s₁.setTop (mkF m 33 #[.val (.ref o0), .val (.int (1 : Int32)), .val (.int (1 : Int32)), .val (.int (((0 : Int32) + x1) * (-1640531535 : Int32))), .val (.int ((1 : Int32) + (1 : Int32)))] [(.int (16 : Int32)), (.int (((0 : Int32) + x1) * (-1640531535 : Int32))), (.int (((0 : Int32) + x1) * (-1640531535 : Int32)))]))
  refine go (fun t kt => XS.iushr X0.here hx rfl (hb hby d1_33) rfl kt) ?_
  show Goes p.tables e below _ (s₁.setTop (mkF m 34 #[.val (.ref o0), .val (.int (1 : Int32)), .val (.int (1 : Int32)), .val (.int (((0 : Int32) + x1) * (-1640531535 : Int32))), .val (.int ((1 : Int32) + (1 : Int32)))] [(.int (((((0 : Int32) + x1) * (-1640531535 : Int32)).toUInt32 >>> ((16 : Int32) &&& 31).toUInt32).toInt32)), (.int (((0 : Int32) + x1) * (-1640531535 : Int32)))]))
  refine go (fun t kt => XS.ixor X0.here hx rfl (hb hby d1_34) rfl kt) ?_
  show Goes p.tables e below _ (s₁.setTop (mkF m 35 #[.val (.ref o0), .val (.int (1 : Int32)), .val (.int (1 : Int32)), .val (.int (((0 : Int32) + x1) * (-1640531535 : Int32))), .val (.int ((1 : Int32) + (1 : Int32)))] [(.int ((((0 : Int32) + x1) * (-1640531535 : Int32)) ^^^ (((((0 : Int32) + x1) * (-1640531535 : Int32)).toUInt32 >>> ((16 : Int32) &&& 31).toUInt32).toInt32)))]))
  obtain ⟨fs, hr, hrun, hended, hW, hsame⟩ := X0.leave (v := some (.int ((((0 : Int32) + x1) * (-1640531535 : Int32)) ^^^ (((((0 : Int32) + x1) * (-1640531535 : Int32)).toUInt32 >>> ((16 : Int32) &&& 31).toUInt32).toInt32)))) (fun h => by rw [Bd.returns] at h; cases h)
  refine ⟨_, _, retOut X0 hx (i := .ireturn) Bd.returns rfl (Or.inl ⟨rfl, Or.inl rfl, _, rfl⟩) (hb hby d1_35) hr, hrun, hended, _, _, rfl, ?_, ⟨_, rfl⟩, hW, hsame.mono (by decide) (by decide)⟩
  show Qh11 Z o0 k0 x0 x1 x2 x3 h0 n0 _ s₁.heap _
  rw [e0]
  exact ⟨rfl, N0, rfl⟩
def own_h12 (x1 : Int32) (x2 : Int32) : Int32 := ((((((0 : Int32) + x1) * (-1640531535 : Int32)) + x2) * (-1640531535 : Int32)) ^^^ (((((((0 : Int32) + x1) * (-1640531535 : Int32)) + x2) * (-1640531535 : Int32)).toUInt32 >>> ((16 : Int32) &&& 31).toUInt32).toInt32))
theorem ef_h12 (m : MethodId) (o0 : Addr) : entryFrame m #[(.ref o0), (.int (1 : Int32)), (.int (2 : Int32))] 5 = mkF m 0 #[.val (.ref o0), .val (.int (1 : Int32)), .val (.int (2 : Int32)), .unset, .unset] [] := by first | (simp [entryFrame, mkF, argsToLocals, Value.category]; done) | rfl
def Qh12 (Z : State) (o0 : Addr) (k0 : ClassId) (x0 : Int32) (x1 : Int32) (x2 : Int32) (x3 : Int32) (h0 : Heap) (n0 : Nat) (v : Option Value) (h : Heap) (L : List Loc) : Prop := v = some (.int (own_h12 x1 x2)) ∧ Fr n0 L ∧ h = h0
set_option maxRecDepth 65536 in
set_option maxHeartbeats 40000000 in
theorem rmh12 (l : Launch) (Z : State) (a0 : Array Value) (hw : ∀ d ∈ tables_1, d.before a0 Z = true) (ws : List Jvm.Cond) (o0 : Addr) (k0 : ClassId) (x0 : Int32) (x1 : Int32) (x2 : Int32) (x3 : Int32) (h0 : Heap) (n0 : Nat) (Z0 : n0 ≤ h0.size) (V_o0 : Arv Z h0 o0 k0 .int (4 : Int32) [(.int x0), (.int x1), (.int x2), (.int x3)] (.int (0 : Int32))) :
    MetFree l (⟨"com/example/limpet/limpet/model/NodeLabel", "hashOf", "([III)I"⟩ : MethodName) (head1 (Jvm.Cond.code (⟨"com/example/limpet/limpet/model/NodeLabel", "hashOf", "([III)I"⟩ : MethodName) prog_42_method_23_code 5 (some .int) :: ws) ({ frames := 0, cells := 0, slots := 0, locals := 0 } : Room)) (fun a U => a = #[(.ref o0), (.int (1 : Int32)), (.int (2 : Int32))] ∧ Z.Warmed39 U.vm ∧ U.heap = h0) (fun _ _ _ _ _ => True) (fun _ U o U' => ∃ v L, o = .returned v ∧ Qh12 Z o0 k0 x0 x1 x2 x3 h0 n0 v U'.heap L ∧ FrameEnd U o U' L ({ frames := 0, cells := 0, slots := 0, locals := 0 } : Room).cells ({ frames := 0, cells := 0, slots := 0, locals := 0 } : Room).slots) := by
  refine MetFree.of_bodySF (plainFor_of_name pn_1) hisR ?_
  intro p e s m args below meth c s₁ Bd hml0 hP hK
  obtain ⟨rfl, hZ, hh⟩ := hP
  have hx := Bd.exec
  have hby := Bd.bytes
  have hml : c.maxLocals = 5 := hml0
  have hown : s.vm.findClass "com/example/limpet/limpet/model/NodeLabel" = some m.cls := findClass_of_methodNamed Bd.named
  have hnm := (name_of_methodNamed Bd.named Bd.method).1
  have X0 : Stand p l e ({ frames := 0, cells := 0, slots := 0, locals := 0 } : Room) s m #[(.ref o0), (.int (1 : Int32)), (.int (2 : Int32))] below meth c s₁ [] 0 0 := Stand.of_body Bd
  have e0 : s₁.heap = h0 := by rw [← hh, Bd.state]; rfl
  have N0 := Fr.nil n0
  have K0 := Keep.refl h0 []
  suffices hgo : Goes p.tables e below (fun s₂ o => ∃ v L, o = .returned v ∧ Qh12 Z o0 k0 x0 x1 x2 x3 h0 n0 v s₂.heap L ∧ FrameEnd s o s₂ L ({ frames := 0, cells := 0, slots := 0, locals := 0 } : Room).cells ({ frames := 0, cells := 0, slots := 0, locals := 0 } : Room).slots) (s₁.setTop (mkF m 0 #[.val (.ref o0), .val (.int (1 : Int32)), .val (.int (2 : Int32)), .unset, .unset] [])) from goEnd (fun t k => castTop (ef_h12 m o0) k) hgo
  refine go (fun t kt => XS.iconst X0.here hx rfl (hb hby d1_0) kt) ?_
  show Goes p.tables e below _ (s₁.setTop (mkF m 1 #[.val (.ref o0), .val (.int (1 : Int32)), .val (.int (2 : Int32)), .unset, .unset] [(.int (0 : Int32))]))
  refine go (fun t kt => XS.istoreN X0.here hx rfl (hb hby d1_1) rfl (l' := #[.val (.ref o0), .val (.int (1 : Int32)), .val (.int (2 : Int32)), .val (.int (0 : Int32)), .unset]) rfl kt) ?_
  show Goes p.tables e below _ (s₁.setTop (mkF m 2 #[.val (.ref o0), .val (.int (1 : Int32)), .val (.int (2 : Int32)), .val (.int (0 : Int32)), .unset] []))
  refine go (fun t kt => XS.iloadN X0.here hx rfl (hb hby d1_2) rfl kt) ?_
  show Goes p.tables e below _ (s₁.setTop (mkF m 3 #[.val (.ref o0), .val (.int (1 : Int32)), .val (.int (2 : Int32)), .val (.int (0 : Int32)), .unset] [(.int (1 : Int32))]))
  refine go (fun t kt => XS.istore X0.here hx rfl (hb hby d1_3) rfl (l' := #[.val (.ref o0), .val (.int (1 : Int32)), .val (.int (2 : Int32)), .val (.int (0 : Int32)), .val (.int (1 : Int32))]) rfl kt) ?_
  show Goes p.tables e below _ (s₁.setTop (mkF m 5 #[.val (.ref o0), .val (.int (1 : Int32)), .val (.int (2 : Int32)), .val (.int (0 : Int32)), .val (.int (1 : Int32))] []))
  refine go (fun t kt => XS.iload X0.here hx rfl (hb hby d1_5) rfl kt) ?_
  show Goes p.tables e below _ (s₁.setTop (mkF m 7 #[.val (.ref o0), .val (.int (1 : Int32)), .val (.int (2 : Int32)), .val (.int (0 : Int32)), .val (.int (1 : Int32))] [(.int (1 : Int32))]))
  refine go (fun t kt => XS.iloadN X0.here hx rfl (hb hby d1_7) rfl kt) ?_
  show Goes p.tables e below _ (s₁.setTop (mkF m 8 #[.val (.ref o0), .val (.int (1 : Int32)), .val (.int (2 : Int32)), .val (.int (0 : Int32)), .val (.int (1 : Int32))] [(.int (1 : Int32)), (.int (1 : Int32))]))
  refine go (fun t kt => XS.iloadN X0.here hx rfl (hb hby d1_8) rfl kt) ?_
  show Goes p.tables e below _ (s₁.setTop (mkF m 9 #[.val (.ref o0), .val (.int (1 : Int32)), .val (.int (2 : Int32)), .val (.int (0 : Int32)), .val (.int (1 : Int32))] [(.int (2 : Int32)), (.int (1 : Int32)), (.int (1 : Int32))]))
  refine go (fun t kt => XS.iadd X0.here hx rfl (hb hby d1_9) rfl kt) ?_
  show Goes p.tables e below _ (s₁.setTop (mkF m 10 #[.val (.ref o0), .val (.int (1 : Int32)), .val (.int (2 : Int32)), .val (.int (0 : Int32)), .val (.int (1 : Int32))] [(.int ((1 : Int32) + (2 : Int32))), (.int (1 : Int32))]))
  refine go (fun t kt => XS.icmpNo X0.here hx rfl (hb hby d1_10) rfl (tlt (by decide : ((1 : Int32) < ((1 : Int32) + (2 : Int32))))).2.1 kt) ?_
  show Goes p.tables e below _ (s₁.setTop (mkF m 13 #[.val (.ref o0), .val (.int (1 : Int32)), .val (.int (2 : Int32)), .val (.int (0 : Int32)), .val (.int (1 : Int32))] []))
  refine go (fun t kt => XS.iloadN X0.here hx rfl (hb hby d1_13) rfl kt) ?_
  show Goes p.tables e below _ (s₁.setTop (mkF m 14 #[.val (.ref o0), .val (.int (1 : Int32)), .val (.int (2 : Int32)), .val (.int (0 : Int32)), .val (.int (1 : Int32))] [(.int (0 : Int32))]))
  refine go (fun t kt => XS.aloadN X0.here hx rfl (hb hby d1_14) rfl rfl kt) ?_
  show Goes p.tables e below _ (s₁.setTop (mkF m 15 #[.val (.ref o0), .val (.int (1 : Int32)), .val (.int (2 : Int32)), .val (.int (0 : Int32)), .val (.int (1 : Int32))] [(.ref o0), (.int (0 : Int32))]))
  refine go (fun t kt => XS.iload X0.here hx rfl (hb hby d1_15) rfl kt) ?_
  show Goes p.tables e below _ (s₁.setTop (mkF m 17 #[.val (.ref o0), .val (.int (1 : Int32)), .val (.int (2 : Int32)), .val (.int (0 : Int32)), .val (.int (1 : Int32))] [(.int (1 : Int32)), (.ref o0), (.int (0 : Int32))]))
  obtain ⟨cl1, Ar1, q1, S1, M1, H1, G1⟩ := id V_o0
  have hin1 : ¬ ((1 : Int32) < 0 ∨ cl1.slots.size ≤ ((1 : Int32)).toNatClampNeg) := inb_of S1 ⟨by decide, by decide⟩
  have hat1 : cl1.slots[((1 : Int32)).toNatClampNeg]? = some (.int x1) := H1.at hin1 rfl
  refine go (X0.iaload hx (j := (1 : Int32)) (v := (.int x1)) (by rw [e0]; exact Ar1.1) (State.isArrayOf_alike hZ.alike Ar1.2.1) Ar1.2.2 hin1 hat1 (g := (mkF m 17 #[.val (.ref o0), .val (.int (1 : Int32)), .val (.int (2 : Int32)), .val (.int (0 : Int32)), .val (.int (1 : Int32))] [(.int (1 : Int32)), (.ref o0), (.int (0 : Int32))])) rfl rfl (hb hby d1_17)) ?_
  show Goes p.tables e below _ (s₁.setTop (mkF m 18 #[.val (.ref o0), .val (.int (1 : Int32)), .val (.int (2 : Int32)), .val (.int (0 : Int32)), .val (.int (1 : Int32))] [(.int x1), (.int (0 : Int32))]))
  refine go (fun t kt => XS.iadd X0.here hx rfl (hb hby d1_18) rfl kt) ?_
  show Goes p.tables e below _ (s₁.setTop (mkF m 19 #[.val (.ref o0), .val (.int (1 : Int32)), .val (.int (2 : Int32)), .val (.int (0 : Int32)), .val (.int (1 : Int32))] [(.int ((0 : Int32) + x1))]))
  refine go (X0.ldcInt hx hown (mvT hZ (hw _ (List.mem_of_getElem? (i := 6) rfl))) (g := (mkF m 19 #[.val (.ref o0), .val (.int (1 : Int32)), .val (.int (2 : Int32)), .val (.int (0 : Int32)), .val (.int (1 : Int32))] [(.int ((0 : Int32) + x1))])) rfl (hb hby d1_19)) ?_
  show Goes p.tables e below _ (s₁.setTop (mkF m 21 #[.val (.ref o0), .val (.int (1 : Int32)), .val (.int (2 : Int32)), .val (.int (0 : Int32)), .val (.int (1 : Int32))] [(.int (-1640531535 : Int32)), (.int ((0 : Int32) + x1))]))
  refine go (fun t kt => XS.imul X0.here hx rfl (hb hby d1_21) rfl kt) ?_
  show Goes p.tables e below _ (s₁.setTop (mkF m 22 #[.val (.ref o0), .val (.int (1 : Int32)), .val (.int (2 : Int32)), .val (.int (0 : Int32)), .val (.int (1 : Int32))] [(.int (((0 : Int32) + x1) * (-1640531535 : Int32)))]))
  refine go (fun t kt => XS.istoreN X0.here hx rfl (hb hby d1_22) rfl (l' := #[.val (.ref o0), .val (.int (1 : Int32)), .val (.int (2 : Int32)), .val (.int (((0 : Int32) + x1) * (-1640531535 : Int32))), .val (.int (1 : Int32))]) rfl kt) ?_
  show Goes p.tables e below _ (s₁.setTop (mkF m 23 #[.val (.ref o0), .val (.int (1 : Int32)), .val (.int (2 : Int32)), .val (.int (((0 : Int32) + x1) * (-1640531535 : Int32))), .val (.int (1 : Int32))] []))
  refine go (fun t kt => XS.iinc X0.here hx rfl (hb hby d1_23) rfl (l' := #[.val (.ref o0), .val (.int (1 : Int32)), .val (.int (2 : Int32)), .val (.int (((0 : Int32) + x1) * (-1640531535 : Int32))), .val (.int ((1 : Int32) + (1 : Int32)))]) rfl kt) ?_
  show Goes p.tables e below _ (s₁.setTop (mkF m 26 #[.val (.ref o0), .val (.int (1 : Int32)), .val (.int (2 : Int32)), .val (.int (((0 : Int32) + x1) * (-1640531535 : Int32))), .val (.int ((1 : Int32) + (1 : Int32)))] []))
  refine go (fun t kt => XS.goto X0.here hx rfl (pc0 := 26) (pc' := 5) rfl (hb hby d1_26) (by decide) (by decide) kt) ?_
  show Goes p.tables e below _ (s₁.setTop (mkF m 5 #[.val (.ref o0), .val (.int (1 : Int32)), .val (.int (2 : Int32)), .val (.int (((0 : Int32) + x1) * (-1640531535 : Int32))), .val (.int ((1 : Int32) + (1 : Int32)))] []))
  refine go (fun t kt => XS.iload X0.here hx rfl (hb hby d1_5) rfl kt) ?_
  show Goes p.tables e below _ (s₁.setTop (mkF m 7 #[.val (.ref o0), .val (.int (1 : Int32)), .val (.int (2 : Int32)), .val (.int (((0 : Int32) + x1) * (-1640531535 : Int32))), .val (.int ((1 : Int32) + (1 : Int32)))] [(.int ((1 : Int32) + (1 : Int32)))]))
  refine go (fun t kt => XS.iloadN X0.here hx rfl (hb hby d1_7) rfl kt) ?_
  show Goes p.tables e below _ (s₁.setTop (mkF m 8 #[.val (.ref o0), .val (.int (1 : Int32)), .val (.int (2 : Int32)), .val (.int (((0 : Int32) + x1) * (-1640531535 : Int32))), .val (.int ((1 : Int32) + (1 : Int32)))] [(.int (1 : Int32)), (.int ((1 : Int32) + (1 : Int32)))]))
  refine go (fun t kt => XS.iloadN X0.here hx rfl (hb hby d1_8) rfl kt) ?_
  show Goes p.tables e below _ (s₁.setTop (mkF m 9 #[.val (.ref o0), .val (.int (1 : Int32)), .val (.int (2 : Int32)), .val (.int (((0 : Int32) + x1) * (-1640531535 : Int32))), .val (.int ((1 : Int32) + (1 : Int32)))] [(.int (2 : Int32)), (.int (1 : Int32)), (.int ((1 : Int32) + (1 : Int32)))]))
  refine go (fun t kt => XS.iadd X0.here hx rfl (hb hby d1_9) rfl kt) ?_
  show Goes p.tables e below _ (s₁.setTop (mkF m 10 #[.val (.ref o0), .val (.int (1 : Int32)), .val (.int (2 : Int32)), .val (.int (((0 : Int32) + x1) * (-1640531535 : Int32))), .val (.int ((1 : Int32) + (1 : Int32)))] [(.int ((1 : Int32) + (2 : Int32))), (.int ((1 : Int32) + (1 : Int32)))]))
  refine go (fun t kt => XS.icmpNo X0.here hx rfl (hb hby d1_10) rfl (tlt (by decide : (((1 : Int32) + (1 : Int32)) < ((1 : Int32) + (2 : Int32))))).2.1 kt) ?_
  show Goes p.tables e below _ (s₁.setTop (mkF m 13 #[.val (.ref o0), .val (.int (1 : Int32)), .val (.int (2 : Int32)), .val (.int (((0 : Int32) + x1) * (-1640531535 : Int32))), .val (.int ((1 : Int32) + (1 : Int32)))] []))
  refine go (fun t kt => XS.iloadN X0.here hx rfl (hb hby d1_13) rfl kt) ?_
  show Goes p.tables e below _ (s₁.setTop (mkF m 14 #[.val (.ref o0), .val (.int (1 : Int32)), .val (.int (2 : Int32)), .val (.int (((0 : Int32) + x1) * (-1640531535 : Int32))), .val (.int ((1 : Int32) + (1 : Int32)))] [(.int (((0 : Int32) + x1) * (-1640531535 : Int32)))]))
  refine go (fun t kt => XS.aloadN X0.here hx rfl (hb hby d1_14) rfl rfl kt) ?_
  show Goes p.tables e below _ (s₁.setTop (mkF m 15 #[.val (.ref o0), .val (.int (1 : Int32)), .val (.int (2 : Int32)), .val (.int (((0 : Int32) + x1) * (-1640531535 : Int32))), .val (.int ((1 : Int32) + (1 : Int32)))] [(.ref o0), (.int (((0 : Int32) + x1) * (-1640531535 : Int32)))]))
  refine go (fun t kt => XS.iload X0.here hx rfl (hb hby d1_15) rfl kt) ?_
  show Goes p.tables e below _ (s₁.setTop (mkF m 17 #[.val (.ref o0), .val (.int (1 : Int32)), .val (.int (2 : Int32)), .val (.int (((0 : Int32) + x1) * (-1640531535 : Int32))), .val (.int ((1 : Int32) + (1 : Int32)))] [(.int ((1 : Int32) + (1 : Int32))), (.ref o0), (.int (((0 : Int32) + x1) * (-1640531535 : Int32)))]))
  obtain ⟨cl2, Ar2, q2, S2, M2, H2, G2⟩ := id V_o0
  have hin2 : ¬ (((1 : Int32) + (1 : Int32)) < 0 ∨ cl2.slots.size ≤ (((1 : Int32) + (1 : Int32))).toNatClampNeg) := inb_of S2 ⟨by decide, by decide⟩
  have hat2 : cl2.slots[(((1 : Int32) + (1 : Int32))).toNatClampNeg]? = some (.int x2) := H2.at hin2 rfl
  refine go (X0.iaload hx (j := ((1 : Int32) + (1 : Int32))) (v := (.int x2)) (by rw [e0]; exact Ar2.1) (State.isArrayOf_alike hZ.alike Ar2.2.1) Ar2.2.2 hin2 hat2 (g := (mkF m 17 #[.val (.ref o0), .val (.int (1 : Int32)), .val (.int (2 : Int32)), .val (.int (((0 : Int32) + x1) * (-1640531535 : Int32))), .val (.int ((1 : Int32) + (1 : Int32)))] [(.int ((1 : Int32) + (1 : Int32))), (.ref o0), (.int (((0 : Int32) + x1) * (-1640531535 : Int32)))])) rfl rfl (hb hby d1_17)) ?_
  show Goes p.tables e below _ (s₁.setTop (mkF m 18 #[.val (.ref o0), .val (.int (1 : Int32)), .val (.int (2 : Int32)), .val (.int (((0 : Int32) + x1) * (-1640531535 : Int32))), .val (.int ((1 : Int32) + (1 : Int32)))] [(.int x2), (.int (((0 : Int32) + x1) * (-1640531535 : Int32)))]))
  refine go (fun t kt => XS.iadd X0.here hx rfl (hb hby d1_18) rfl kt) ?_
  show Goes p.tables e below _ (s₁.setTop (mkF m 19 #[.val (.ref o0), .val (.int (1 : Int32)), .val (.int (2 : Int32)), .val (.int (((0 : Int32) + x1) * (-1640531535 : Int32))), .val (.int ((1 : Int32) + (1 : Int32)))] [(.int ((((0 : Int32) + x1) * (-1640531535 : Int32)) + x2))]))
  refine go (X0.ldcInt hx hown (mvT hZ (hw _ (List.mem_of_getElem? (i := 6) rfl))) (g := (mkF m 19 #[.val (.ref o0), .val (.int (1 : Int32)), .val (.int (2 : Int32)), .val (.int (((0 : Int32) + x1) * (-1640531535 : Int32))), .val (.int ((1 : Int32) + (1 : Int32)))] [(.int ((((0 : Int32) + x1) * (-1640531535 : Int32)) + x2))])) rfl (hb hby d1_19)) ?_
  show Goes p.tables e below _ (s₁.setTop (mkF m 21 #[.val (.ref o0), .val (.int (1 : Int32)), .val (.int (2 : Int32)), .val (.int (((0 : Int32) + x1) * (-1640531535 : Int32))), .val (.int ((1 : Int32) + (1 : Int32)))] [(.int (-1640531535 : Int32)), (.int ((((0 : Int32) + x1) * (-1640531535 : Int32)) + x2))]))
  refine go (fun t kt => XS.imul X0.here hx rfl (hb hby d1_21) rfl kt) ?_
  show Goes p.tables e below _ (s₁.setTop (mkF m 22 #[.val (.ref o0), .val (.int (1 : Int32)), .val (.int (2 : Int32)), .val (.int (((0 : Int32) + x1) * (-1640531535 : Int32))), .val (.int ((1 : Int32) + (1 : Int32)))] [(.int (((((0 : Int32) + x1) * (-1640531535 : Int32)) + x2) * (-1640531535 : Int32)))]))
  refine go (fun t kt => XS.istoreN X0.here hx rfl (hb hby d1_22) rfl (l' := #[.val (.ref o0), .val (.int (1 : Int32)), .val (.int (2 : Int32)), .val (.int (((((0 : Int32) + x1) * (-1640531535 : Int32)) + x2) * (-1640531535 : Int32))), .val (.int ((1 : Int32) + (1 : Int32)))]) rfl kt) ?_
  show Goes p.tables e below _ (s₁.setTop (mkF m 23 #[.val (.ref o0), .val (.int (1 : Int32)), .val (.int (2 : Int32)), .val (.int (((((0 : Int32) + x1) * (-1640531535 : Int32)) + x2) * (-1640531535 : Int32))), .val (.int ((1 : Int32) + (1 : Int32)))] []))
  refine go (fun t kt => XS.iinc X0.here hx rfl (hb hby d1_23) rfl (l' := #[.val (.ref o0), .val (.int (1 : Int32)), .val (.int (2 : Int32)), .val (.int (((((0 : Int32) + x1) * (-1640531535 : Int32)) + x2) * (-1640531535 : Int32))), .val (.int (((1 : Int32) + (1 : Int32)) + (1 : Int32)))]) rfl kt) ?_
  show Goes p.tables e below _ (s₁.setTop (mkF m 26 #[.val (.ref o0), .val (.int (1 : Int32)), .val (.int (2 : Int32)), .val (.int (((((0 : Int32) + x1) * (-1640531535 : Int32)) + x2) * (-1640531535 : Int32))), .val (.int (((1 : Int32) + (1 : Int32)) + (1 : Int32)))] []))
  refine go (fun t kt => XS.goto X0.here hx rfl (pc0 := 26) (pc' := 5) rfl (hb hby d1_26) (by decide) (by decide) kt) ?_
  show Goes p.tables e below _ (s₁.setTop (mkF m 5 #[.val (.ref o0), .val (.int (1 : Int32)), .val (.int (2 : Int32)), .val (.int (((((0 : Int32) + x1) * (-1640531535 : Int32)) + x2) * (-1640531535 : Int32))), .val (.int (((1 : Int32) + (1 : Int32)) + (1 : Int32)))] []))
  refine go (fun t kt => XS.iload X0.here hx rfl (hb hby d1_5) rfl kt) ?_
  show Goes p.tables e below _ (s₁.setTop (mkF m 7 #[.val (.ref o0), .val (.int (1 : Int32)), .val (.int (2 : Int32)), .val (.int (((((0 : Int32) + x1) * (-1640531535 : Int32)) + x2) * (-1640531535 : Int32))), .val (.int (((1 : Int32) + (1 : Int32)) + (1 : Int32)))] [(.int (((1 : Int32) + (1 : Int32)) + (1 : Int32)))]))
  refine go (fun t kt => XS.iloadN X0.here hx rfl (hb hby d1_7) rfl kt) ?_
  show Goes p.tables e below _ (s₁.setTop (mkF m 8 #[.val (.ref o0), .val (.int (1 : Int32)), .val (.int (2 : Int32)), .val (.int (((((0 : Int32) + x1) * (-1640531535 : Int32)) + x2) * (-1640531535 : Int32))), .val (.int (((1 : Int32) + (1 : Int32)) + (1 : Int32)))] [(.int (1 : Int32)), (.int (((1 : Int32) + (1 : Int32)) + (1 : Int32)))]))
  refine go (fun t kt => XS.iloadN X0.here hx rfl (hb hby d1_8) rfl kt) ?_
  show Goes p.tables e below _ (s₁.setTop (mkF m 9 #[.val (.ref o0), .val (.int (1 : Int32)), .val (.int (2 : Int32)), .val (.int (((((0 : Int32) + x1) * (-1640531535 : Int32)) + x2) * (-1640531535 : Int32))), .val (.int (((1 : Int32) + (1 : Int32)) + (1 : Int32)))] [(.int (2 : Int32)), (.int (1 : Int32)), (.int (((1 : Int32) + (1 : Int32)) + (1 : Int32)))]))
  refine go (fun t kt => XS.iadd X0.here hx rfl (hb hby d1_9) rfl kt) ?_
  show Goes p.tables e below _ (s₁.setTop (mkF m 10 #[.val (.ref o0), .val (.int (1 : Int32)), .val (.int (2 : Int32)), .val (.int (((((0 : Int32) + x1) * (-1640531535 : Int32)) + x2) * (-1640531535 : Int32))), .val (.int (((1 : Int32) + (1 : Int32)) + (1 : Int32)))] [(.int ((1 : Int32) + (2 : Int32))), (.int (((1 : Int32) + (1 : Int32)) + (1 : Int32)))]))
  refine go (fun t kt => XS.icmpYes X0.here hx rfl (pc0 := 10) (pc' := 29) rfl (hb hby d1_10) rfl (flt (by decide : ¬ ((((1 : Int32) + (1 : Int32)) + (1 : Int32)) < ((1 : Int32) + (2 : Int32))))).2.1 (by decide) (by decide) kt) ?_
  show Goes p.tables e below _ (s₁.setTop (mkF m 29 #[.val (.ref o0), .val (.int (1 : Int32)), .val (.int (2 : Int32)), .val (.int (((((0 : Int32) + x1) * (-1640531535 : Int32)) + x2) * (-1640531535 : Int32))), .val (.int (((1 : Int32) + (1 : Int32)) + (1 : Int32)))] []))
  refine go (fun t kt => XS.iloadN X0.here hx rfl (hb hby d1_29) rfl kt) ?_
  show Goes p.tables e below _ (s₁.setTop (mkF m 30 #[.val (.ref o0), .val (.int (1 : Int32)), .val (.int (2 : Int32)), .val (.int (((((0 : Int32) + x1) * (-1640531535 : Int32)) + x2) * (-1640531535 : Int32))), .val (.int (((1 : Int32) + (1 : Int32)) + (1 : Int32)))] [(.int (((((0 : Int32) + x1) * (-1640531535 : Int32)) + x2) * (-1640531535 : Int32)))]))
  refine go (fun t kt => XS.iloadN X0.here hx rfl (hb hby d1_30) rfl kt) ?_
  show Goes p.tables e below _ (s₁.setTop (mkF m 31 #[.val (.ref o0), .val (.int (1 : Int32)), .val (.int (2 : Int32)), .val (.int (((((0 : Int32) + x1) * (-1640531535 : Int32)) + x2) * (-1640531535 : Int32))), .val (.int (((1 : Int32) + (1 : Int32)) + (1 : Int32)))] [(.int (((((0 : Int32) + x1) * (-1640531535 : Int32)) + x2) * (-1640531535 : Int32))), (.int (((((0 : Int32) + x1) * (-1640531535 : Int32)) + x2) * (-1640531535 : Int32)))]))
  refine go (fun t kt => XS.bipush X0.here hx rfl (hb hby d1_31) kt) ?_
  show Goes p.tables e below _ (s₁.setTop (mkF m 33 #[.val (.ref o0), .val (.int (1 : Int32)), .val (.int (2 : Int32)), .val (.int (((((0 : Int32) + x1) * (-1640531535 : Int32)) + x2) * (-1640531535 : Int32))), .val (.int (((1 : Int32) + (1 : Int32)) + (1 : Int32)))] [(.int (16 : Int32)), (.int (((((0 : Int32) + x1) * (-1640531535 : Int32)) + x2) * (-1640531535 : Int32))), (.int (((((0 : Int32) + x1) * (-1640531535 : Int32)) + x2) * (-1640531535 : Int32)))]))
  refine go (fun t kt => XS.iushr X0.here hx rfl (hb hby d1_33) rfl kt) ?_
  show Goes p.tables e below _ (s₁.setTop (mkF m 34 #[.val (.ref o0), .val (.int (1 : Int32)), .val (.int (2 : Int32)), .val (.int (((((0 : Int32) + x1) * (-1640531535 : Int32)) + x2) * (-1640531535 : Int32))), .val (.int (((1 : Int32) + (1 : Int32)) + (1 : Int32)))] [(.int (((((((0 : Int32) + x1) * (-1640531535 : Int32)) + x2) * (-1640531535 : Int32)).toUInt32 >>> ((16 : Int32) &&& 31).toUInt32).toInt32)), (.int (((((0 : Int32) + x1) * (-1640531535 : Int32)) + x2) * (-1640531535 : Int32)))]))
  refine go (fun t kt => XS.ixor X0.here hx rfl (hb hby d1_34) rfl kt) ?_
  show Goes p.tables e below _ (s₁.setTop (mkF m 35 #[.val (.ref o0), .val (.int (1 : Int32)), .val (.int (2 : Int32)), .val (.int (((((0 : Int32) + x1) * (-1640531535 : Int32)) + x2) * (-1640531535 : Int32))), .val (.int (((1 : Int32) + (1 : Int32)) + (1 : Int32)))] [(.int ((((((0 : Int32) + x1) * (-1640531535 : Int32)) + x2) * (-1640531535 : Int32)) ^^^ (((((((0 : Int32) + x1) * (-1640531535 : Int32)) + x2) * (-1640531535 : Int32)).toUInt32 >>> ((16 : Int32) &&& 31).toUInt32).toInt32)))]))
  obtain ⟨fs, hr, hrun, hended, hW, hsame⟩ := X0.leave (v := some (.int ((((((0 : Int32) + x1) * (-1640531535 : Int32)) + x2) * (-1640531535 : Int32)) ^^^ (((((((0 : Int32) + x1) * (-1640531535 : Int32)) + x2) * (-1640531535 : Int32)).toUInt32 >>> ((16 : Int32) &&& 31).toUInt32).toInt32)))) (fun h => by rw [Bd.returns] at h; cases h)
  refine ⟨_, _, retOut X0 hx (i := .ireturn) Bd.returns rfl (Or.inl ⟨rfl, Or.inl rfl, _, rfl⟩) (hb hby d1_35) hr, hrun, hended, _, _, rfl, ?_, ⟨_, rfl⟩, hW, hsame.mono (by decide) (by decide)⟩
  show Qh12 Z o0 k0 x0 x1 x2 x3 h0 n0 _ s₁.heap _
  rw [e0]
  exact ⟨rfl, N0, rfl⟩
def own_h13 (x1 : Int32) (x2 : Int32) (x3 : Int32) : Int32 := ((((((((0 : Int32) + x1) * (-1640531535 : Int32)) + x2) * (-1640531535 : Int32)) + x3) * (-1640531535 : Int32)) ^^^ (((((((((0 : Int32) + x1) * (-1640531535 : Int32)) + x2) * (-1640531535 : Int32)) + x3) * (-1640531535 : Int32)).toUInt32 >>> ((16 : Int32) &&& 31).toUInt32).toInt32))
theorem ef_h13 (m : MethodId) (o0 : Addr) : entryFrame m #[(.ref o0), (.int (1 : Int32)), (.int (3 : Int32))] 5 = mkF m 0 #[.val (.ref o0), .val (.int (1 : Int32)), .val (.int (3 : Int32)), .unset, .unset] [] := by first | (simp [entryFrame, mkF, argsToLocals, Value.category]; done) | rfl
def Qh13 (Z : State) (o0 : Addr) (k0 : ClassId) (x0 : Int32) (x1 : Int32) (x2 : Int32) (x3 : Int32) (h0 : Heap) (n0 : Nat) (v : Option Value) (h : Heap) (L : List Loc) : Prop := v = some (.int (own_h13 x1 x2 x3)) ∧ Fr n0 L ∧ h = h0
set_option maxRecDepth 65536 in
set_option maxHeartbeats 40000000 in
theorem rmh13 (l : Launch) (Z : State) (a0 : Array Value) (hw : ∀ d ∈ tables_1, d.before a0 Z = true) (ws : List Jvm.Cond) (o0 : Addr) (k0 : ClassId) (x0 : Int32) (x1 : Int32) (x2 : Int32) (x3 : Int32) (h0 : Heap) (n0 : Nat) (Z0 : n0 ≤ h0.size) (V_o0 : Arv Z h0 o0 k0 .int (4 : Int32) [(.int x0), (.int x1), (.int x2), (.int x3)] (.int (0 : Int32))) :
    MetFree l (⟨"com/example/limpet/limpet/model/NodeLabel", "hashOf", "([III)I"⟩ : MethodName) (head1 (Jvm.Cond.code (⟨"com/example/limpet/limpet/model/NodeLabel", "hashOf", "([III)I"⟩ : MethodName) prog_42_method_23_code 5 (some .int) :: ws) ({ frames := 0, cells := 0, slots := 0, locals := 0 } : Room)) (fun a U => a = #[(.ref o0), (.int (1 : Int32)), (.int (3 : Int32))] ∧ Z.Warmed39 U.vm ∧ U.heap = h0) (fun _ _ _ _ _ => True) (fun _ U o U' => ∃ v L, o = .returned v ∧ Qh13 Z o0 k0 x0 x1 x2 x3 h0 n0 v U'.heap L ∧ FrameEnd U o U' L ({ frames := 0, cells := 0, slots := 0, locals := 0 } : Room).cells ({ frames := 0, cells := 0, slots := 0, locals := 0 } : Room).slots) := by
  refine MetFree.of_bodySF (plainFor_of_name pn_1) hisR ?_
  intro p e s m args below meth c s₁ Bd hml0 hP hK
  obtain ⟨rfl, hZ, hh⟩ := hP
  have hx := Bd.exec
  have hby := Bd.bytes
  have hml : c.maxLocals = 5 := hml0
  have hown : s.vm.findClass "com/example/limpet/limpet/model/NodeLabel" = some m.cls := findClass_of_methodNamed Bd.named
  have hnm := (name_of_methodNamed Bd.named Bd.method).1
  have X0 : Stand p l e ({ frames := 0, cells := 0, slots := 0, locals := 0 } : Room) s m #[(.ref o0), (.int (1 : Int32)), (.int (3 : Int32))] below meth c s₁ [] 0 0 := Stand.of_body Bd
  have e0 : s₁.heap = h0 := by rw [← hh, Bd.state]; rfl
  have N0 := Fr.nil n0
  have K0 := Keep.refl h0 []
  suffices hgo : Goes p.tables e below (fun s₂ o => ∃ v L, o = .returned v ∧ Qh13 Z o0 k0 x0 x1 x2 x3 h0 n0 v s₂.heap L ∧ FrameEnd s o s₂ L ({ frames := 0, cells := 0, slots := 0, locals := 0 } : Room).cells ({ frames := 0, cells := 0, slots := 0, locals := 0 } : Room).slots) (s₁.setTop (mkF m 0 #[.val (.ref o0), .val (.int (1 : Int32)), .val (.int (3 : Int32)), .unset, .unset] [])) from goEnd (fun t k => castTop (ef_h13 m o0) k) hgo
  refine go (fun t kt => XS.iconst X0.here hx rfl (hb hby d1_0) kt) ?_
  show Goes p.tables e below _ (s₁.setTop (mkF m 1 #[.val (.ref o0), .val (.int (1 : Int32)), .val (.int (3 : Int32)), .unset, .unset] [(.int (0 : Int32))]))
  refine go (fun t kt => XS.istoreN X0.here hx rfl (hb hby d1_1) rfl (l' := #[.val (.ref o0), .val (.int (1 : Int32)), .val (.int (3 : Int32)), .val (.int (0 : Int32)), .unset]) rfl kt) ?_
  show Goes p.tables e below _ (s₁.setTop (mkF m 2 #[.val (.ref o0), .val (.int (1 : Int32)), .val (.int (3 : Int32)), .val (.int (0 : Int32)), .unset] []))
  refine go (fun t kt => XS.iloadN X0.here hx rfl (hb hby d1_2) rfl kt) ?_
  show Goes p.tables e below _ (s₁.setTop (mkF m 3 #[.val (.ref o0), .val (.int (1 : Int32)), .val (.int (3 : Int32)), .val (.int (0 : Int32)), .unset] [(.int (1 : Int32))]))
  refine go (fun t kt => XS.istore X0.here hx rfl (hb hby d1_3) rfl (l' := #[.val (.ref o0), .val (.int (1 : Int32)), .val (.int (3 : Int32)), .val (.int (0 : Int32)), .val (.int (1 : Int32))]) rfl kt) ?_
  show Goes p.tables e below _ (s₁.setTop (mkF m 5 #[.val (.ref o0), .val (.int (1 : Int32)), .val (.int (3 : Int32)), .val (.int (0 : Int32)), .val (.int (1 : Int32))] []))
  refine go (fun t kt => XS.iload X0.here hx rfl (hb hby d1_5) rfl kt) ?_
  show Goes p.tables e below _ (s₁.setTop (mkF m 7 #[.val (.ref o0), .val (.int (1 : Int32)), .val (.int (3 : Int32)), .val (.int (0 : Int32)), .val (.int (1 : Int32))] [(.int (1 : Int32))]))
  refine go (fun t kt => XS.iloadN X0.here hx rfl (hb hby d1_7) rfl kt) ?_
  show Goes p.tables e below _ (s₁.setTop (mkF m 8 #[.val (.ref o0), .val (.int (1 : Int32)), .val (.int (3 : Int32)), .val (.int (0 : Int32)), .val (.int (1 : Int32))] [(.int (1 : Int32)), (.int (1 : Int32))]))
  refine go (fun t kt => XS.iloadN X0.here hx rfl (hb hby d1_8) rfl kt) ?_
  show Goes p.tables e below _ (s₁.setTop (mkF m 9 #[.val (.ref o0), .val (.int (1 : Int32)), .val (.int (3 : Int32)), .val (.int (0 : Int32)), .val (.int (1 : Int32))] [(.int (3 : Int32)), (.int (1 : Int32)), (.int (1 : Int32))]))
  refine go (fun t kt => XS.iadd X0.here hx rfl (hb hby d1_9) rfl kt) ?_
  show Goes p.tables e below _ (s₁.setTop (mkF m 10 #[.val (.ref o0), .val (.int (1 : Int32)), .val (.int (3 : Int32)), .val (.int (0 : Int32)), .val (.int (1 : Int32))] [(.int ((1 : Int32) + (3 : Int32))), (.int (1 : Int32))]))
  refine go (fun t kt => XS.icmpNo X0.here hx rfl (hb hby d1_10) rfl (tlt (by decide : ((1 : Int32) < ((1 : Int32) + (3 : Int32))))).2.1 kt) ?_
  show Goes p.tables e below _ (s₁.setTop (mkF m 13 #[.val (.ref o0), .val (.int (1 : Int32)), .val (.int (3 : Int32)), .val (.int (0 : Int32)), .val (.int (1 : Int32))] []))
  refine go (fun t kt => XS.iloadN X0.here hx rfl (hb hby d1_13) rfl kt) ?_
  show Goes p.tables e below _ (s₁.setTop (mkF m 14 #[.val (.ref o0), .val (.int (1 : Int32)), .val (.int (3 : Int32)), .val (.int (0 : Int32)), .val (.int (1 : Int32))] [(.int (0 : Int32))]))
  refine go (fun t kt => XS.aloadN X0.here hx rfl (hb hby d1_14) rfl rfl kt) ?_
  show Goes p.tables e below _ (s₁.setTop (mkF m 15 #[.val (.ref o0), .val (.int (1 : Int32)), .val (.int (3 : Int32)), .val (.int (0 : Int32)), .val (.int (1 : Int32))] [(.ref o0), (.int (0 : Int32))]))
  refine go (fun t kt => XS.iload X0.here hx rfl (hb hby d1_15) rfl kt) ?_
  show Goes p.tables e below _ (s₁.setTop (mkF m 17 #[.val (.ref o0), .val (.int (1 : Int32)), .val (.int (3 : Int32)), .val (.int (0 : Int32)), .val (.int (1 : Int32))] [(.int (1 : Int32)), (.ref o0), (.int (0 : Int32))]))
  obtain ⟨cl1, Ar1, q1, S1, M1, H1, G1⟩ := id V_o0
  have hin1 : ¬ ((1 : Int32) < 0 ∨ cl1.slots.size ≤ ((1 : Int32)).toNatClampNeg) := inb_of S1 ⟨by decide, by decide⟩
  have hat1 : cl1.slots[((1 : Int32)).toNatClampNeg]? = some (.int x1) := H1.at hin1 rfl
  refine go (X0.iaload hx (j := (1 : Int32)) (v := (.int x1)) (by rw [e0]; exact Ar1.1) (State.isArrayOf_alike hZ.alike Ar1.2.1) Ar1.2.2 hin1 hat1 (g := (mkF m 17 #[.val (.ref o0), .val (.int (1 : Int32)), .val (.int (3 : Int32)), .val (.int (0 : Int32)), .val (.int (1 : Int32))] [(.int (1 : Int32)), (.ref o0), (.int (0 : Int32))])) rfl rfl (hb hby d1_17)) ?_
  show Goes p.tables e below _ (s₁.setTop (mkF m 18 #[.val (.ref o0), .val (.int (1 : Int32)), .val (.int (3 : Int32)), .val (.int (0 : Int32)), .val (.int (1 : Int32))] [(.int x1), (.int (0 : Int32))]))
  refine go (fun t kt => XS.iadd X0.here hx rfl (hb hby d1_18) rfl kt) ?_
  show Goes p.tables e below _ (s₁.setTop (mkF m 19 #[.val (.ref o0), .val (.int (1 : Int32)), .val (.int (3 : Int32)), .val (.int (0 : Int32)), .val (.int (1 : Int32))] [(.int ((0 : Int32) + x1))]))
  refine go (X0.ldcInt hx hown (mvT hZ (hw _ (List.mem_of_getElem? (i := 6) rfl))) (g := (mkF m 19 #[.val (.ref o0), .val (.int (1 : Int32)), .val (.int (3 : Int32)), .val (.int (0 : Int32)), .val (.int (1 : Int32))] [(.int ((0 : Int32) + x1))])) rfl (hb hby d1_19)) ?_
  show Goes p.tables e below _ (s₁.setTop (mkF m 21 #[.val (.ref o0), .val (.int (1 : Int32)), .val (.int (3 : Int32)), .val (.int (0 : Int32)), .val (.int (1 : Int32))] [(.int (-1640531535 : Int32)), (.int ((0 : Int32) + x1))]))
  refine go (fun t kt => XS.imul X0.here hx rfl (hb hby d1_21) rfl kt) ?_
  show Goes p.tables e below _ (s₁.setTop (mkF m 22 #[.val (.ref o0), .val (.int (1 : Int32)), .val (.int (3 : Int32)), .val (.int (0 : Int32)), .val (.int (1 : Int32))] [(.int (((0 : Int32) + x1) * (-1640531535 : Int32)))]))
  refine go (fun t kt => XS.istoreN X0.here hx rfl (hb hby d1_22) rfl (l' := #[.val (.ref o0), .val (.int (1 : Int32)), .val (.int (3 : Int32)), .val (.int (((0 : Int32) + x1) * (-1640531535 : Int32))), .val (.int (1 : Int32))]) rfl kt) ?_
  show Goes p.tables e below _ (s₁.setTop (mkF m 23 #[.val (.ref o0), .val (.int (1 : Int32)), .val (.int (3 : Int32)), .val (.int (((0 : Int32) + x1) * (-1640531535 : Int32))), .val (.int (1 : Int32))] []))
  refine go (fun t kt => XS.iinc X0.here hx rfl (hb hby d1_23) rfl (l' := #[.val (.ref o0), .val (.int (1 : Int32)), .val (.int (3 : Int32)), .val (.int (((0 : Int32) + x1) * (-1640531535 : Int32))), .val (.int ((1 : Int32) + (1 : Int32)))]) rfl kt) ?_
  show Goes p.tables e below _ (s₁.setTop (mkF m 26 #[.val (.ref o0), .val (.int (1 : Int32)), .val (.int (3 : Int32)), .val (.int (((0 : Int32) + x1) * (-1640531535 : Int32))), .val (.int ((1 : Int32) + (1 : Int32)))] []))
  refine go (fun t kt => XS.goto X0.here hx rfl (pc0 := 26) (pc' := 5) rfl (hb hby d1_26) (by decide) (by decide) kt) ?_
  show Goes p.tables e below _ (s₁.setTop (mkF m 5 #[.val (.ref o0), .val (.int (1 : Int32)), .val (.int (3 : Int32)), .val (.int (((0 : Int32) + x1) * (-1640531535 : Int32))), .val (.int ((1 : Int32) + (1 : Int32)))] []))
  refine go (fun t kt => XS.iload X0.here hx rfl (hb hby d1_5) rfl kt) ?_
  show Goes p.tables e below _ (s₁.setTop (mkF m 7 #[.val (.ref o0), .val (.int (1 : Int32)), .val (.int (3 : Int32)), .val (.int (((0 : Int32) + x1) * (-1640531535 : Int32))), .val (.int ((1 : Int32) + (1 : Int32)))] [(.int ((1 : Int32) + (1 : Int32)))]))
  refine go (fun t kt => XS.iloadN X0.here hx rfl (hb hby d1_7) rfl kt) ?_
  show Goes p.tables e below _ (s₁.setTop (mkF m 8 #[.val (.ref o0), .val (.int (1 : Int32)), .val (.int (3 : Int32)), .val (.int (((0 : Int32) + x1) * (-1640531535 : Int32))), .val (.int ((1 : Int32) + (1 : Int32)))] [(.int (1 : Int32)), (.int ((1 : Int32) + (1 : Int32)))]))
  refine go (fun t kt => XS.iloadN X0.here hx rfl (hb hby d1_8) rfl kt) ?_
  show Goes p.tables e below _ (s₁.setTop (mkF m 9 #[.val (.ref o0), .val (.int (1 : Int32)), .val (.int (3 : Int32)), .val (.int (((0 : Int32) + x1) * (-1640531535 : Int32))), .val (.int ((1 : Int32) + (1 : Int32)))] [(.int (3 : Int32)), (.int (1 : Int32)), (.int ((1 : Int32) + (1 : Int32)))]))
  refine go (fun t kt => XS.iadd X0.here hx rfl (hb hby d1_9) rfl kt) ?_
  show Goes p.tables e below _ (s₁.setTop (mkF m 10 #[.val (.ref o0), .val (.int (1 : Int32)), .val (.int (3 : Int32)), .val (.int (((0 : Int32) + x1) * (-1640531535 : Int32))), .val (.int ((1 : Int32) + (1 : Int32)))] [(.int ((1 : Int32) + (3 : Int32))), (.int ((1 : Int32) + (1 : Int32)))]))
  refine go (fun t kt => XS.icmpNo X0.here hx rfl (hb hby d1_10) rfl (tlt (by decide : (((1 : Int32) + (1 : Int32)) < ((1 : Int32) + (3 : Int32))))).2.1 kt) ?_
  show Goes p.tables e below _ (s₁.setTop (mkF m 13 #[.val (.ref o0), .val (.int (1 : Int32)), .val (.int (3 : Int32)), .val (.int (((0 : Int32) + x1) * (-1640531535 : Int32))), .val (.int ((1 : Int32) + (1 : Int32)))] []))
  refine go (fun t kt => XS.iloadN X0.here hx rfl (hb hby d1_13) rfl kt) ?_
  show Goes p.tables e below _ (s₁.setTop (mkF m 14 #[.val (.ref o0), .val (.int (1 : Int32)), .val (.int (3 : Int32)), .val (.int (((0 : Int32) + x1) * (-1640531535 : Int32))), .val (.int ((1 : Int32) + (1 : Int32)))] [(.int (((0 : Int32) + x1) * (-1640531535 : Int32)))]))
  refine go (fun t kt => XS.aloadN X0.here hx rfl (hb hby d1_14) rfl rfl kt) ?_
  show Goes p.tables e below _ (s₁.setTop (mkF m 15 #[.val (.ref o0), .val (.int (1 : Int32)), .val (.int (3 : Int32)), .val (.int (((0 : Int32) + x1) * (-1640531535 : Int32))), .val (.int ((1 : Int32) + (1 : Int32)))] [(.ref o0), (.int (((0 : Int32) + x1) * (-1640531535 : Int32)))]))
  refine go (fun t kt => XS.iload X0.here hx rfl (hb hby d1_15) rfl kt) ?_
  show Goes p.tables e below _ (s₁.setTop (mkF m 17 #[.val (.ref o0), .val (.int (1 : Int32)), .val (.int (3 : Int32)), .val (.int (((0 : Int32) + x1) * (-1640531535 : Int32))), .val (.int ((1 : Int32) + (1 : Int32)))] [(.int ((1 : Int32) + (1 : Int32))), (.ref o0), (.int (((0 : Int32) + x1) * (-1640531535 : Int32)))]))
  obtain ⟨cl2, Ar2, q2, S2, M2, H2, G2⟩ := id V_o0
  have hin2 : ¬ (((1 : Int32) + (1 : Int32)) < 0 ∨ cl2.slots.size ≤ (((1 : Int32) + (1 : Int32))).toNatClampNeg) := inb_of S2 ⟨by decide, by decide⟩
  have hat2 : cl2.slots[(((1 : Int32) + (1 : Int32))).toNatClampNeg]? = some (.int x2) := H2.at hin2 rfl
  refine go (X0.iaload hx (j := ((1 : Int32) + (1 : Int32))) (v := (.int x2)) (by rw [e0]; exact Ar2.1) (State.isArrayOf_alike hZ.alike Ar2.2.1) Ar2.2.2 hin2 hat2 (g := (mkF m 17 #[.val (.ref o0), .val (.int (1 : Int32)), .val (.int (3 : Int32)), .val (.int (((0 : Int32) + x1) * (-1640531535 : Int32))), .val (.int ((1 : Int32) + (1 : Int32)))] [(.int ((1 : Int32) + (1 : Int32))), (.ref o0), (.int (((0 : Int32) + x1) * (-1640531535 : Int32)))])) rfl rfl (hb hby d1_17)) ?_
  show Goes p.tables e below _ (s₁.setTop (mkF m 18 #[.val (.ref o0), .val (.int (1 : Int32)), .val (.int (3 : Int32)), .val (.int (((0 : Int32) + x1) * (-1640531535 : Int32))), .val (.int ((1 : Int32) + (1 : Int32)))] [(.int x2), (.int (((0 : Int32) + x1) * (-1640531535 : Int32)))]))
  refine go (fun t kt => XS.iadd X0.here hx rfl (hb hby d1_18) rfl kt) ?_
  show Goes p.tables e below _ (s₁.setTop (mkF m 19 #[.val (.ref o0), .val (.int (1 : Int32)), .val (.int (3 : Int32)), .val (.int (((0 : Int32) + x1) * (-1640531535 : Int32))), .val (.int ((1 : Int32) + (1 : Int32)))] [(.int ((((0 : Int32) + x1) * (-1640531535 : Int32)) + x2))]))
  refine go (X0.ldcInt hx hown (mvT hZ (hw _ (List.mem_of_getElem? (i := 6) rfl))) (g := (mkF m 19 #[.val (.ref o0), .val (.int (1 : Int32)), .val (.int (3 : Int32)), .val (.int (((0 : Int32) + x1) * (-1640531535 : Int32))), .val (.int ((1 : Int32) + (1 : Int32)))] [(.int ((((0 : Int32) + x1) * (-1640531535 : Int32)) + x2))])) rfl (hb hby d1_19)) ?_
  show Goes p.tables e below _ (s₁.setTop (mkF m 21 #[.val (.ref o0), .val (.int (1 : Int32)), .val (.int (3 : Int32)), .val (.int (((0 : Int32) + x1) * (-1640531535 : Int32))), .val (.int ((1 : Int32) + (1 : Int32)))] [(.int (-1640531535 : Int32)), (.int ((((0 : Int32) + x1) * (-1640531535 : Int32)) + x2))]))
  refine go (fun t kt => XS.imul X0.here hx rfl (hb hby d1_21) rfl kt) ?_
  show Goes p.tables e below _ (s₁.setTop (mkF m 22 #[.val (.ref o0), .val (.int (1 : Int32)), .val (.int (3 : Int32)), .val (.int (((0 : Int32) + x1) * (-1640531535 : Int32))), .val (.int ((1 : Int32) + (1 : Int32)))] [(.int (((((0 : Int32) + x1) * (-1640531535 : Int32)) + x2) * (-1640531535 : Int32)))]))
  refine go (fun t kt => XS.istoreN X0.here hx rfl (hb hby d1_22) rfl (l' := #[.val (.ref o0), .val (.int (1 : Int32)), .val (.int (3 : Int32)), .val (.int (((((0 : Int32) + x1) * (-1640531535 : Int32)) + x2) * (-1640531535 : Int32))), .val (.int ((1 : Int32) + (1 : Int32)))]) rfl kt) ?_
  show Goes p.tables e below _ (s₁.setTop (mkF m 23 #[.val (.ref o0), .val (.int (1 : Int32)), .val (.int (3 : Int32)), .val (.int (((((0 : Int32) + x1) * (-1640531535 : Int32)) + x2) * (-1640531535 : Int32))), .val (.int ((1 : Int32) + (1 : Int32)))] []))
  refine go (fun t kt => XS.iinc X0.here hx rfl (hb hby d1_23) rfl (l' := #[.val (.ref o0), .val (.int (1 : Int32)), .val (.int (3 : Int32)), .val (.int (((((0 : Int32) + x1) * (-1640531535 : Int32)) + x2) * (-1640531535 : Int32))), .val (.int (((1 : Int32) + (1 : Int32)) + (1 : Int32)))]) rfl kt) ?_
  show Goes p.tables e below _ (s₁.setTop (mkF m 26 #[.val (.ref o0), .val (.int (1 : Int32)), .val (.int (3 : Int32)), .val (.int (((((0 : Int32) + x1) * (-1640531535 : Int32)) + x2) * (-1640531535 : Int32))), .val (.int (((1 : Int32) + (1 : Int32)) + (1 : Int32)))] []))
  refine go (fun t kt => XS.goto X0.here hx rfl (pc0 := 26) (pc' := 5) rfl (hb hby d1_26) (by decide) (by decide) kt) ?_
  show Goes p.tables e below _ (s₁.setTop (mkF m 5 #[.val (.ref o0), .val (.int (1 : Int32)), .val (.int (3 : Int32)), .val (.int (((((0 : Int32) + x1) * (-1640531535 : Int32)) + x2) * (-1640531535 : Int32))), .val (.int (((1 : Int32) + (1 : Int32)) + (1 : Int32)))] []))
  refine go (fun t kt => XS.iload X0.here hx rfl (hb hby d1_5) rfl kt) ?_
  show Goes p.tables e below _ (s₁.setTop (mkF m 7 #[.val (.ref o0), .val (.int (1 : Int32)), .val (.int (3 : Int32)), .val (.int (((((0 : Int32) + x1) * (-1640531535 : Int32)) + x2) * (-1640531535 : Int32))), .val (.int (((1 : Int32) + (1 : Int32)) + (1 : Int32)))] [(.int (((1 : Int32) + (1 : Int32)) + (1 : Int32)))]))
  refine go (fun t kt => XS.iloadN X0.here hx rfl (hb hby d1_7) rfl kt) ?_
  show Goes p.tables e below _ (s₁.setTop (mkF m 8 #[.val (.ref o0), .val (.int (1 : Int32)), .val (.int (3 : Int32)), .val (.int (((((0 : Int32) + x1) * (-1640531535 : Int32)) + x2) * (-1640531535 : Int32))), .val (.int (((1 : Int32) + (1 : Int32)) + (1 : Int32)))] [(.int (1 : Int32)), (.int (((1 : Int32) + (1 : Int32)) + (1 : Int32)))]))
  refine go (fun t kt => XS.iloadN X0.here hx rfl (hb hby d1_8) rfl kt) ?_
  show Goes p.tables e below _ (s₁.setTop (mkF m 9 #[.val (.ref o0), .val (.int (1 : Int32)), .val (.int (3 : Int32)), .val (.int (((((0 : Int32) + x1) * (-1640531535 : Int32)) + x2) * (-1640531535 : Int32))), .val (.int (((1 : Int32) + (1 : Int32)) + (1 : Int32)))] [(.int (3 : Int32)), (.int (1 : Int32)), (.int (((1 : Int32) + (1 : Int32)) + (1 : Int32)))]))
  refine go (fun t kt => XS.iadd X0.here hx rfl (hb hby d1_9) rfl kt) ?_
  show Goes p.tables e below _ (s₁.setTop (mkF m 10 #[.val (.ref o0), .val (.int (1 : Int32)), .val (.int (3 : Int32)), .val (.int (((((0 : Int32) + x1) * (-1640531535 : Int32)) + x2) * (-1640531535 : Int32))), .val (.int (((1 : Int32) + (1 : Int32)) + (1 : Int32)))] [(.int ((1 : Int32) + (3 : Int32))), (.int (((1 : Int32) + (1 : Int32)) + (1 : Int32)))]))
  refine go (fun t kt => XS.icmpNo X0.here hx rfl (hb hby d1_10) rfl (tlt (by decide : ((((1 : Int32) + (1 : Int32)) + (1 : Int32)) < ((1 : Int32) + (3 : Int32))))).2.1 kt) ?_
  show Goes p.tables e below _ (s₁.setTop (mkF m 13 #[.val (.ref o0), .val (.int (1 : Int32)), .val (.int (3 : Int32)), .val (.int (((((0 : Int32) + x1) * (-1640531535 : Int32)) + x2) * (-1640531535 : Int32))), .val (.int (((1 : Int32) + (1 : Int32)) + (1 : Int32)))] []))
  refine go (fun t kt => XS.iloadN X0.here hx rfl (hb hby d1_13) rfl kt) ?_
  show Goes p.tables e below _ (s₁.setTop (mkF m 14 #[.val (.ref o0), .val (.int (1 : Int32)), .val (.int (3 : Int32)), .val (.int (((((0 : Int32) + x1) * (-1640531535 : Int32)) + x2) * (-1640531535 : Int32))), .val (.int (((1 : Int32) + (1 : Int32)) + (1 : Int32)))] [(.int (((((0 : Int32) + x1) * (-1640531535 : Int32)) + x2) * (-1640531535 : Int32)))]))
  refine go (fun t kt => XS.aloadN X0.here hx rfl (hb hby d1_14) rfl rfl kt) ?_
  show Goes p.tables e below _ (s₁.setTop (mkF m 15 #[.val (.ref o0), .val (.int (1 : Int32)), .val (.int (3 : Int32)), .val (.int (((((0 : Int32) + x1) * (-1640531535 : Int32)) + x2) * (-1640531535 : Int32))), .val (.int (((1 : Int32) + (1 : Int32)) + (1 : Int32)))] [(.ref o0), (.int (((((0 : Int32) + x1) * (-1640531535 : Int32)) + x2) * (-1640531535 : Int32)))]))
  refine go (fun t kt => XS.iload X0.here hx rfl (hb hby d1_15) rfl kt) ?_
  show Goes p.tables e below _ (s₁.setTop (mkF m 17 #[.val (.ref o0), .val (.int (1 : Int32)), .val (.int (3 : Int32)), .val (.int (((((0 : Int32) + x1) * (-1640531535 : Int32)) + x2) * (-1640531535 : Int32))), .val (.int (((1 : Int32) + (1 : Int32)) + (1 : Int32)))] [(.int (((1 : Int32) + (1 : Int32)) + (1 : Int32))), (.ref o0), (.int (((((0 : Int32) + x1) * (-1640531535 : Int32)) + x2) * (-1640531535 : Int32)))]))
  obtain ⟨cl3, Ar3, q3, S3, M3, H3, G3⟩ := id V_o0
  have hin3 : ¬ ((((1 : Int32) + (1 : Int32)) + (1 : Int32)) < 0 ∨ cl3.slots.size ≤ ((((1 : Int32) + (1 : Int32)) + (1 : Int32))).toNatClampNeg) := inb_of S3 ⟨by decide, by decide⟩
  have hat3 : cl3.slots[((((1 : Int32) + (1 : Int32)) + (1 : Int32))).toNatClampNeg]? = some (.int x3) := H3.at hin3 rfl
  refine go (X0.iaload hx (j := (((1 : Int32) + (1 : Int32)) + (1 : Int32))) (v := (.int x3)) (by rw [e0]; exact Ar3.1) (State.isArrayOf_alike hZ.alike Ar3.2.1) Ar3.2.2 hin3 hat3 (g := (mkF m 17 #[.val (.ref o0), .val (.int (1 : Int32)), .val (.int (3 : Int32)), .val (.int (((((0 : Int32) + x1) * (-1640531535 : Int32)) + x2) * (-1640531535 : Int32))), .val (.int (((1 : Int32) + (1 : Int32)) + (1 : Int32)))] [(.int (((1 : Int32) + (1 : Int32)) + (1 : Int32))), (.ref o0), (.int (((((0 : Int32) + x1) * (-1640531535 : Int32)) + x2) * (-1640531535 : Int32)))])) rfl rfl (hb hby d1_17)) ?_
  show Goes p.tables e below _ (s₁.setTop (mkF m 18 #[.val (.ref o0), .val (.int (1 : Int32)), .val (.int (3 : Int32)), .val (.int (((((0 : Int32) + x1) * (-1640531535 : Int32)) + x2) * (-1640531535 : Int32))), .val (.int (((1 : Int32) + (1 : Int32)) + (1 : Int32)))] [(.int x3), (.int (((((0 : Int32) + x1) * (-1640531535 : Int32)) + x2) * (-1640531535 : Int32)))]))
  refine go (fun t kt => XS.iadd X0.here hx rfl (hb hby d1_18) rfl kt) ?_
  show Goes p.tables e below _ (s₁.setTop (mkF m 19 #[.val (.ref o0), .val (.int (1 : Int32)), .val (.int (3 : Int32)), .val (.int (((((0 : Int32) + x1) * (-1640531535 : Int32)) + x2) * (-1640531535 : Int32))), .val (.int (((1 : Int32) + (1 : Int32)) + (1 : Int32)))] [(.int ((((((0 : Int32) + x1) * (-1640531535 : Int32)) + x2) * (-1640531535 : Int32)) + x3))]))
  refine go (X0.ldcInt hx hown (mvT hZ (hw _ (List.mem_of_getElem? (i := 6) rfl))) (g := (mkF m 19 #[.val (.ref o0), .val (.int (1 : Int32)), .val (.int (3 : Int32)), .val (.int (((((0 : Int32) + x1) * (-1640531535 : Int32)) + x2) * (-1640531535 : Int32))), .val (.int (((1 : Int32) + (1 : Int32)) + (1 : Int32)))] [(.int ((((((0 : Int32) + x1) * (-1640531535 : Int32)) + x2) * (-1640531535 : Int32)) + x3))])) rfl (hb hby d1_19)) ?_
  show Goes p.tables e below _ (s₁.setTop (mkF m 21 #[.val (.ref o0), .val (.int (1 : Int32)), .val (.int (3 : Int32)), .val (.int (((((0 : Int32) + x1) * (-1640531535 : Int32)) + x2) * (-1640531535 : Int32))), .val (.int (((1 : Int32) + (1 : Int32)) + (1 : Int32)))] [(.int (-1640531535 : Int32)), (.int ((((((0 : Int32) + x1) * (-1640531535 : Int32)) + x2) * (-1640531535 : Int32)) + x3))]))
  refine go (fun t kt => XS.imul X0.here hx rfl (hb hby d1_21) rfl kt) ?_
  show Goes p.tables e below _ (s₁.setTop (mkF m 22 #[.val (.ref o0), .val (.int (1 : Int32)), .val (.int (3 : Int32)), .val (.int (((((0 : Int32) + x1) * (-1640531535 : Int32)) + x2) * (-1640531535 : Int32))), .val (.int (((1 : Int32) + (1 : Int32)) + (1 : Int32)))] [(.int (((((((0 : Int32) + x1) * (-1640531535 : Int32)) + x2) * (-1640531535 : Int32)) + x3) * (-1640531535 : Int32)))]))
  refine go (fun t kt => XS.istoreN X0.here hx rfl (hb hby d1_22) rfl (l' := #[.val (.ref o0), .val (.int (1 : Int32)), .val (.int (3 : Int32)), .val (.int (((((((0 : Int32) + x1) * (-1640531535 : Int32)) + x2) * (-1640531535 : Int32)) + x3) * (-1640531535 : Int32))), .val (.int (((1 : Int32) + (1 : Int32)) + (1 : Int32)))]) rfl kt) ?_
  show Goes p.tables e below _ (s₁.setTop (mkF m 23 #[.val (.ref o0), .val (.int (1 : Int32)), .val (.int (3 : Int32)), .val (.int (((((((0 : Int32) + x1) * (-1640531535 : Int32)) + x2) * (-1640531535 : Int32)) + x3) * (-1640531535 : Int32))), .val (.int (((1 : Int32) + (1 : Int32)) + (1 : Int32)))] []))
  refine go (fun t kt => XS.iinc X0.here hx rfl (hb hby d1_23) rfl (l' := #[.val (.ref o0), .val (.int (1 : Int32)), .val (.int (3 : Int32)), .val (.int (((((((0 : Int32) + x1) * (-1640531535 : Int32)) + x2) * (-1640531535 : Int32)) + x3) * (-1640531535 : Int32))), .val (.int ((((1 : Int32) + (1 : Int32)) + (1 : Int32)) + (1 : Int32)))]) rfl kt) ?_
  show Goes p.tables e below _ (s₁.setTop (mkF m 26 #[.val (.ref o0), .val (.int (1 : Int32)), .val (.int (3 : Int32)), .val (.int (((((((0 : Int32) + x1) * (-1640531535 : Int32)) + x2) * (-1640531535 : Int32)) + x3) * (-1640531535 : Int32))), .val (.int ((((1 : Int32) + (1 : Int32)) + (1 : Int32)) + (1 : Int32)))] []))
  refine go (fun t kt => XS.goto X0.here hx rfl (pc0 := 26) (pc' := 5) rfl (hb hby d1_26) (by decide) (by decide) kt) ?_
  show Goes p.tables e below _ (s₁.setTop (mkF m 5 #[.val (.ref o0), .val (.int (1 : Int32)), .val (.int (3 : Int32)), .val (.int (((((((0 : Int32) + x1) * (-1640531535 : Int32)) + x2) * (-1640531535 : Int32)) + x3) * (-1640531535 : Int32))), .val (.int ((((1 : Int32) + (1 : Int32)) + (1 : Int32)) + (1 : Int32)))] []))
  refine go (fun t kt => XS.iload X0.here hx rfl (hb hby d1_5) rfl kt) ?_
  show Goes p.tables e below _ (s₁.setTop (mkF m 7 #[.val (.ref o0), .val (.int (1 : Int32)), .val (.int (3 : Int32)), .val (.int (((((((0 : Int32) + x1) * (-1640531535 : Int32)) + x2) * (-1640531535 : Int32)) + x3) * (-1640531535 : Int32))), .val (.int ((((1 : Int32) + (1 : Int32)) + (1 : Int32)) + (1 : Int32)))] [(.int ((((1 : Int32) + (1 : Int32)) + (1 : Int32)) + (1 : Int32)))]))
  refine go (fun t kt => XS.iloadN X0.here hx rfl (hb hby d1_7) rfl kt) ?_
  show Goes p.tables e below _ (s₁.setTop (mkF m 8 #[.val (.ref o0), .val (.int (1 : Int32)), .val (.int (3 : Int32)), .val (.int (((((((0 : Int32) + x1) * (-1640531535 : Int32)) + x2) * (-1640531535 : Int32)) + x3) * (-1640531535 : Int32))), .val (.int ((((1 : Int32) + (1 : Int32)) + (1 : Int32)) + (1 : Int32)))] [(.int (1 : Int32)), (.int ((((1 : Int32) + (1 : Int32)) + (1 : Int32)) + (1 : Int32)))]))
  refine go (fun t kt => XS.iloadN X0.here hx rfl (hb hby d1_8) rfl kt) ?_
  show Goes p.tables e below _ (s₁.setTop (mkF m 9 #[.val (.ref o0), .val (.int (1 : Int32)), .val (.int (3 : Int32)), .val (.int (((((((0 : Int32) + x1) * (-1640531535 : Int32)) + x2) * (-1640531535 : Int32)) + x3) * (-1640531535 : Int32))), .val (.int ((((1 : Int32) + (1 : Int32)) + (1 : Int32)) + (1 : Int32)))] [(.int (3 : Int32)), (.int (1 : Int32)), (.int ((((1 : Int32) + (1 : Int32)) + (1 : Int32)) + (1 : Int32)))]))
  refine go (fun t kt => XS.iadd X0.here hx rfl (hb hby d1_9) rfl kt) ?_
  show Goes p.tables e below _ (s₁.setTop (mkF m 10 #[.val (.ref o0), .val (.int (1 : Int32)), .val (.int (3 : Int32)), .val (.int (((((((0 : Int32) + x1) * (-1640531535 : Int32)) + x2) * (-1640531535 : Int32)) + x3) * (-1640531535 : Int32))), .val (.int ((((1 : Int32) + (1 : Int32)) + (1 : Int32)) + (1 : Int32)))] [(.int ((1 : Int32) + (3 : Int32))), (.int ((((1 : Int32) + (1 : Int32)) + (1 : Int32)) + (1 : Int32)))]))
  refine go (fun t kt => XS.icmpYes X0.here hx rfl (pc0 := 10) (pc' := 29) rfl (hb hby d1_10) rfl (flt (by decide : ¬ (((((1 : Int32) + (1 : Int32)) + (1 : Int32)) + (1 : Int32)) < ((1 : Int32) + (3 : Int32))))).2.1 (by decide) (by decide) kt) ?_
  show Goes p.tables e below _ (s₁.setTop (mkF m 29 #[.val (.ref o0), .val (.int (1 : Int32)), .val (.int (3 : Int32)), .val (.int (((((((0 : Int32) + x1) * (-1640531535 : Int32)) + x2) * (-1640531535 : Int32)) + x3) * (-1640531535 : Int32))), .val (.int ((((1 : Int32) + (1 : Int32)) + (1 : Int32)) + (1 : Int32)))] []))
  refine go (fun t kt => XS.iloadN X0.here hx rfl (hb hby d1_29) rfl kt) ?_
  show Goes p.tables e below _ (s₁.setTop (mkF m 30 #[.val (.ref o0), .val (.int (1 : Int32)), .val (.int (3 : Int32)), .val (.int (((((((0 : Int32) + x1) * (-1640531535 : Int32)) + x2) * (-1640531535 : Int32)) + x3) * (-1640531535 : Int32))), .val (.int ((((1 : Int32) + (1 : Int32)) + (1 : Int32)) + (1 : Int32)))] [(.int (((((((0 : Int32) + x1) * (-1640531535 : Int32)) + x2) * (-1640531535 : Int32)) + x3) * (-1640531535 : Int32)))]))
  refine go (fun t kt => XS.iloadN X0.here hx rfl (hb hby d1_30) rfl kt) ?_
  show Goes p.tables e below _ (s₁.setTop (mkF m 31 #[.val (.ref o0), .val (.int (1 : Int32)), .val (.int (3 : Int32)), .val (.int (((((((0 : Int32) + x1) * (-1640531535 : Int32)) + x2) * (-1640531535 : Int32)) + x3) * (-1640531535 : Int32))), .val (.int ((((1 : Int32) + (1 : Int32)) + (1 : Int32)) + (1 : Int32)))] [(.int (((((((0 : Int32) + x1) * (-1640531535 : Int32)) + x2) * (-1640531535 : Int32)) + x3) * (-1640531535 : Int32))), (.int (((((((0 : Int32) + x1) * (-1640531535 : Int32)) + x2) * (-1640531535 : Int32)) + x3) * (-1640531535 : Int32)))]))
  refine go (fun t kt => XS.bipush X0.here hx rfl (hb hby d1_31) kt) ?_
  show Goes p.tables e below _ (s₁.setTop (mkF m 33 #[.val (.ref o0), .val (.int (1 : Int32)), .val (.int (3 : Int32)), .val (.int (((((((0 : Int32) + x1) * (-1640531535 : Int32)) + x2) * (-1640531535 : Int32)) + x3) * (-1640531535 : Int32))), .val (.int ((((1 : Int32) + (1 : Int32)) + (1 : Int32)) + (1 : Int32)))] [(.int (16 : Int32)), (.int (((((((0 : Int32) + x1) * (-1640531535 : Int32)) + x2) * (-1640531535 : Int32)) + x3) * (-1640531535 : Int32))), (.int (((((((0 : Int32) + x1) * (-1640531535 : Int32)) + x2) * (-1640531535 : Int32)) + x3) * (-1640531535 : Int32)))]))
  refine go (fun t kt => XS.iushr X0.here hx rfl (hb hby d1_33) rfl kt) ?_
  show Goes p.tables e below _ (s₁.setTop (mkF m 34 #[.val (.ref o0), .val (.int (1 : Int32)), .val (.int (3 : Int32)), .val (.int (((((((0 : Int32) + x1) * (-1640531535 : Int32)) + x2) * (-1640531535 : Int32)) + x3) * (-1640531535 : Int32))), .val (.int ((((1 : Int32) + (1 : Int32)) + (1 : Int32)) + (1 : Int32)))] [(.int (((((((((0 : Int32) + x1) * (-1640531535 : Int32)) + x2) * (-1640531535 : Int32)) + x3) * (-1640531535 : Int32)).toUInt32 >>> ((16 : Int32) &&& 31).toUInt32).toInt32)), (.int (((((((0 : Int32) + x1) * (-1640531535 : Int32)) + x2) * (-1640531535 : Int32)) + x3) * (-1640531535 : Int32)))]))
  refine go (fun t kt => XS.ixor X0.here hx rfl (hb hby d1_34) rfl kt) ?_
  show Goes p.tables e below _ (s₁.setTop (mkF m 35 #[.val (.ref o0), .val (.int (1 : Int32)), .val (.int (3 : Int32)), .val (.int (((((((0 : Int32) + x1) * (-1640531535 : Int32)) + x2) * (-1640531535 : Int32)) + x3) * (-1640531535 : Int32))), .val (.int ((((1 : Int32) + (1 : Int32)) + (1 : Int32)) + (1 : Int32)))] [(.int ((((((((0 : Int32) + x1) * (-1640531535 : Int32)) + x2) * (-1640531535 : Int32)) + x3) * (-1640531535 : Int32)) ^^^ (((((((((0 : Int32) + x1) * (-1640531535 : Int32)) + x2) * (-1640531535 : Int32)) + x3) * (-1640531535 : Int32)).toUInt32 >>> ((16 : Int32) &&& 31).toUInt32).toInt32)))]))
  obtain ⟨fs, hr, hrun, hended, hW, hsame⟩ := X0.leave (v := some (.int ((((((((0 : Int32) + x1) * (-1640531535 : Int32)) + x2) * (-1640531535 : Int32)) + x3) * (-1640531535 : Int32)) ^^^ (((((((((0 : Int32) + x1) * (-1640531535 : Int32)) + x2) * (-1640531535 : Int32)) + x3) * (-1640531535 : Int32)).toUInt32 >>> ((16 : Int32) &&& 31).toUInt32).toInt32)))) (fun h => by rw [Bd.returns] at h; cases h)
  refine ⟨_, _, retOut X0 hx (i := .ireturn) Bd.returns rfl (Or.inl ⟨rfl, Or.inl rfl, _, rfl⟩) (hb hby d1_35) hr, hrun, hended, _, _, rfl, ?_, ⟨_, rfl⟩, hW, hsame.mono (by decide) (by decide)⟩
  show Qh13 Z o0 k0 x0 x1 x2 x3 h0 n0 _ s₁.heap _
  rw [e0]
  exact ⟨rfl, N0, rfl⟩
theorem own_c4 (x : Int32) : (x &&& 3) = 0 ∨ (x &&& 3) = 1 ∨ (x &&& 3) = 2 ∨ (x &&& 3) = 3 := by
  have e := Jvm.Kit.i32_mask x 3 (k := 2) (by decide) (by decide)
  have e0 : (0 : Int32).toInt = 0 := rfl
  have e1 : (1 : Int32).toInt = 1 := rfl
  have e2 : (2 : Int32).toInt = 2 := rfl
  have e3 : (3 : Int32).toInt = 3 := rfl
  rw [← Int32.toInt_inj, ← Int32.toInt_inj, ← Int32.toInt_inj, ← Int32.toInt_inj, e, e0, e1, e2, e3]
  omega
theorem own_c2 (x : Int32) : (x &&& 1) = 0 ∨ (x &&& 1) = 1 := and_one x
theorem own_e1 (a f : Int32) : ((0 : Int32) + a) * f = a * f := by rw [Int32.zero_add]
theorem own_e2 (a b f : Int32) : (((0 : Int32) + a) * f + b) * f = a * (f * f) + b * f := by rw [Int32.zero_add, Int32.add_mul, Int32.mul_assoc]
theorem own_e3 (a b c f : Int32) : ((((0 : Int32) + a) * f + b) * f + c) * f = a * ((f * f) * f) + b * (f * f) + c * f := by rw [Int32.zero_add, Int32.add_mul, Int32.add_mul, Int32.add_mul, Int32.mul_assoc, Int32.mul_assoc, Int32.mul_assoc, Int32.mul_assoc]
theorem pd_0 : parseMethodDescriptor "([III)I" = some ⟨[(.array .int), .int, .int], some .int⟩ := by decide +kernel
theorem pn_0 : plainName "com/example/limpet/limpet/model/NodeLabelHashOfPinLaw" = true := by first | (simp [plainName, overriddenIn]; done) | decide +kernel
theorem ef_0 (m : MethodId) (p0 : Int32) (p1 : Int32) (p2 : Int32) (p3 : Int32) (p4 : Int32) : entryFrame m #[(.int p0), (.int p1), (.int p2), (.int p3), (.int p4)] maxLocals = mkF m 0 #[.val (.int p0), .val (.int p1), .val (.int p2), .val (.int p3), .val (.int p4), .unset, .unset, .unset, .unset, .unset, .unset, .unset, .unset] [] := by first | (simp [entryFrame, mkF, argsToLocals, Value.category, maxLocals]; done) | rfl
def Q0 (Z : State) (p0 : Int32) (p1 : Int32) (p2 : Int32) (p3 : Int32) (p4 : Int32) (h0 : Heap) (n0 : Nat) (v : Option Value) (h : Heap) (L : List Loc) : Prop := v = some (.int (1 : Int32)) ∧ Fr n0 L
set_option maxRecDepth 65536 in
set_option maxHeartbeats 40000000 in
theorem rm0 (l : Launch) (Z : State) (a0 : Array Value) (hw : ∀ d ∈ tables_1, d.before a0 Z = true) (ws : List Jvm.Cond) (p0 : Int32) (p1 : Int32) (p2 : Int32) (p3 : Int32) (p4 : Int32) (h0 : Heap) (n0 : Nat) (Z0 : n0 ≤ h0.size)  :
    MetFree l x (head1 (Jvm.Cond.code x code maxLocals ret :: ws) room_1) (fun a U => a = #[(.int p0), (.int p1), (.int p2), (.int p3), (.int p4)] ∧ Z.Warmed39 U.vm ∧ U.heap = h0) (fun _ _ _ _ _ => True) (fun _ U o U' => ∃ v L, o = .returned v ∧ Q0 Z p0 p1 p2 p3 p4 h0 n0 v U'.heap L ∧ FrameEnd U o U' L 1 4) := by
  refine MetFree.of_bodySF (plainFor_of_name pn_0) hisR ?_
  intro p e s m args below meth c s₁ Bd hml0 hP hK
  obtain ⟨rfl, hZ, hh⟩ := hP
  have hx := Bd.exec
  have hby := Bd.bytes
  have hml : c.maxLocals = 13 := hml0
  have hown : s.vm.findClass "com/example/limpet/limpet/model/NodeLabelHashOfPinLaw" = some m.cls := findClass_of_methodNamed Bd.named
  have hnm := (name_of_methodNamed Bd.named Bd.method).1
  have X0 : Stand p l e room_1 s m #[(.int p0), (.int p1), (.int p2), (.int p3), (.int p4)] below meth c s₁ [] 0 0 := Stand.of_body Bd
  have e0 : s₁.heap = h0 := by rw [← hh, Bd.state]; rfl
  have N0 := Fr.nil n0
  have K0 := Keep.refl h0 []
  suffices hgo : Goes p.tables e below (fun s₂ o => ∃ v L, o = .returned v ∧ Q0 Z p0 p1 p2 p3 p4 h0 n0 v s₂.heap L ∧ FrameEnd s o s₂ L 1 4) (s₁.setTop (mkF m 0 #[.val (.int p0), .val (.int p1), .val (.int p2), .val (.int p3), .val (.int p4), .unset, .unset, .unset, .unset, .unset, .unset, .unset, .unset] [])) from goEnd (fun t k => castTop (ef_0 m p0 p1 p2 p3 p4) k) hgo
  refine go (fun t kt => XS.iload X0.here hx rfl (hb hby at_0) rfl kt) ?_
  show Goes p.tables e below _ (s₁.setTop (mkF m 2 #[.val (.int p0), .val (.int p1), .val (.int p2), .val (.int p3), .val (.int p4), .unset, .unset, .unset, .unset, .unset, .unset, .unset, .unset] [(.int p4)]))
  refine go (fun t kt => XS.iconst X0.here hx rfl (hb hby at_2) kt) ?_
  show Goes p.tables e below _ (s₁.setTop (mkF m 3 #[.val (.int p0), .val (.int p1), .val (.int p2), .val (.int p3), .val (.int p4), .unset, .unset, .unset, .unset, .unset, .unset, .unset, .unset] [(.int (3 : Int32)), (.int p4)]))
  refine go (fun t kt => XS.iand X0.here hx rfl (hb hby at_3) rfl kt) ?_
  show Goes p.tables e below _ (s₁.setTop (mkF m 4 #[.val (.int p0), .val (.int p1), .val (.int p2), .val (.int p3), .val (.int p4), .unset, .unset, .unset, .unset, .unset, .unset, .unset, .unset] [(.int (p4 &&& (3 : Int32)))]))
  refine go (fun t kt => XS.istore X0.here hx rfl (hb hby at_4) rfl (l' := #[.val (.int p0), .val (.int p1), .val (.int p2), .val (.int p3), .val (.int p4), .val (.int (p4 &&& (3 : Int32))), .unset, .unset, .unset, .unset, .unset, .unset, .unset]) rfl kt) ?_
  show Goes p.tables e below _ (s₁.setTop (mkF m 6 #[.val (.int p0), .val (.int p1), .val (.int p2), .val (.int p3), .val (.int p4), .val (.int (p4 &&& (3 : Int32))), .unset, .unset, .unset, .unset, .unset, .unset, .unset] []))
  refine go (fun t kt => XS.iload X0.here hx rfl (hb hby at_6) rfl kt) ?_
  show Goes p.tables e below _ (s₁.setTop (mkF m 8 #[.val (.int p0), .val (.int p1), .val (.int p2), .val (.int p3), .val (.int p4), .val (.int (p4 &&& (3 : Int32))), .unset, .unset, .unset, .unset, .unset, .unset, .unset] [(.int p4)]))
  refine go (fun t kt => XS.iconst X0.here hx rfl (hb hby at_8) kt) ?_
  show Goes p.tables e below _ (s₁.setTop (mkF m 9 #[.val (.int p0), .val (.int p1), .val (.int p2), .val (.int p3), .val (.int p4), .val (.int (p4 &&& (3 : Int32))), .unset, .unset, .unset, .unset, .unset, .unset, .unset] [(.int (2 : Int32)), (.int p4)]))
  refine go (fun t kt => XS.iushr X0.here hx rfl (hb hby at_9) rfl kt) ?_
  show Goes p.tables e below _ (s₁.setTop (mkF m 10 #[.val (.int p0), .val (.int p1), .val (.int p2), .val (.int p3), .val (.int p4), .val (.int (p4 &&& (3 : Int32))), .unset, .unset, .unset, .unset, .unset, .unset, .unset] [(.int ((p4.toUInt32 >>> ((2 : Int32) &&& 31).toUInt32).toInt32))]))
  refine go (fun t kt => XS.iconst X0.here hx rfl (hb hby at_10) kt) ?_
  show Goes p.tables e below _ (s₁.setTop (mkF m 11 #[.val (.int p0), .val (.int p1), .val (.int p2), .val (.int p3), .val (.int p4), .val (.int (p4 &&& (3 : Int32))), .unset, .unset, .unset, .unset, .unset, .unset, .unset] [(.int (1 : Int32)), (.int ((p4.toUInt32 >>> ((2 : Int32) &&& 31).toUInt32).toInt32))]))
  refine go (fun t kt => XS.iand X0.here hx rfl (hb hby at_11) rfl kt) ?_
  show Goes p.tables e below _ (s₁.setTop (mkF m 12 #[.val (.int p0), .val (.int p1), .val (.int p2), .val (.int p3), .val (.int p4), .val (.int (p4 &&& (3 : Int32))), .unset, .unset, .unset, .unset, .unset, .unset, .unset] [(.int (((p4.toUInt32 >>> ((2 : Int32) &&& 31).toUInt32).toInt32) &&& (1 : Int32)))]))
  refine go (fun t kt => XS.istore X0.here hx rfl (hb hby at_12) rfl (l' := #[.val (.int p0), .val (.int p1), .val (.int p2), .val (.int p3), .val (.int p4), .val (.int (p4 &&& (3 : Int32))), .val (.int (((p4.toUInt32 >>> ((2 : Int32) &&& 31).toUInt32).toInt32) &&& (1 : Int32))), .unset, .unset, .unset, .unset, .unset, .unset]) rfl kt) ?_
  show Goes p.tables e below _ (s₁.setTop (mkF m 14 #[.val (.int p0), .val (.int p1), .val (.int p2), .val (.int p3), .val (.int p4), .val (.int (p4 &&& (3 : Int32))), .val (.int (((p4.toUInt32 >>> ((2 : Int32) &&& 31).toUInt32).toInt32) &&& (1 : Int32))), .unset, .unset, .unset, .unset, .unset, .unset] []))
  rcases own_c4 p4 with hk1 | hk1 | hk1 | hk1
  ·
    rw [hk1]
    rcases own_c2 ((p4.toUInt32 >>> ((2 : Int32) &&& 31).toUInt32).toInt32) with hj2 | hj2
    ·
      rw [hj2]
      show Goes p.tables e below _ (s₁.setTop (mkF m 14 #[.val (.int p0), .val (.int p1), .val (.int p2), .val (.int p3), .val (.int p4), .val (.int (0 : Int32)), .val (.int (0 : Int32)), .unset, .unset, .unset, .unset, .unset, .unset] []))
      refine go (fun t kt => XS.iconst X0.here hx rfl (hb hby at_14) kt) ?_
      show Goes p.tables e below _ (s₁.setTop (mkF m 15 #[.val (.int p0), .val (.int p1), .val (.int p2), .val (.int p3), .val (.int p4), .val (.int (0 : Int32)), .val (.int (0 : Int32)), .unset, .unset, .unset, .unset, .unset, .unset] [(.int (4 : Int32))]))
      obtain ⟨T3, h3, k3, X3, e3, E3, A3, st3⟩ := newP X0 hx hZ (hw _ (List.mem_of_getElem? (i := 0) rfl)) e0 (g := (mkF m 15 #[.val (.int p0), .val (.int p1), .val (.int p2), .val (.int p3), .val (.int p4), .val (.int (0 : Int32)), .val (.int (0 : Int32)), .unset, .unset, .unset, .unset, .unset, .unset] [(.int (4 : Int32))])) rfl (hb hby at_15) rfl (by decide) (cap := 4) (by decide) (by decide) (by decide) (by decide)
      obtain ⟨b3, g3⟩ : ∃ z, z = h0.size := ⟨_, rfl⟩
      rw [← g3] at A3 st3
      have g_b3 : n0 ≤ b3 := Nat.le_trans Z0 (Nat.le_of_eq g3.symm)
      have sz_b3 : h0.size ≤ b3 := Nat.le_trans K0.1 (Nat.le_of_eq g3.symm)
      have Zz3 := Nat.le_trans Z0 E3.1
      have Kk3 := K0.ext E3
      have V_b3 : Arv Z h3 b3 k3 .int (4 : Int32) [(.int (0 : Int32)), (.int (0 : Int32)), (.int (0 : Int32)), (.int (0 : Int32))] (.int (0 : Int32)) := (Arv.new A3 (by decide)).pad (pad_rep [] (.int (0 : Int32)) 4)
      refine go st3 ?_
      show Goes p.tables e below _ (T3.setTop (mkF m 17 #[.val (.int p0), .val (.int p1), .val (.int p2), .val (.int p3), .val (.int p4), .val (.int (0 : Int32)), .val (.int (0 : Int32)), .unset, .unset, .unset, .unset, .unset, .unset] [(.ref b3)]))
      refine go (fun t kt => XS.astore X3.here hx rfl (hb hby at_17) rfl rfl (l' := #[.val (.int p0), .val (.int p1), .val (.int p2), .val (.int p3), .val (.int p4), .val (.int (0 : Int32)), .val (.int (0 : Int32)), .val (.ref b3), .unset, .unset, .unset, .unset, .unset]) rfl kt) ?_
      show Goes p.tables e below _ (T3.setTop (mkF m 19 #[.val (.int p0), .val (.int p1), .val (.int p2), .val (.int p3), .val (.int p4), .val (.int (0 : Int32)), .val (.int (0 : Int32)), .val (.ref b3), .unset, .unset, .unset, .unset, .unset] []))
      refine go (fun t kt => XS.iload X3.here hx rfl (hb hby at_19) rfl kt) ?_
      show Goes p.tables e below _ (T3.setTop (mkF m 21 #[.val (.int p0), .val (.int p1), .val (.int p2), .val (.int p3), .val (.int p4), .val (.int (0 : Int32)), .val (.int (0 : Int32)), .val (.ref b3), .unset, .unset, .unset, .unset, .unset] [(.int (0 : Int32))]))
      refine go (fun t kt => XS.ifNo X3.here hx rfl (hb hby at_21) rfl ((if0 _ _).trans (teq (by decide : ((0 : Int32) = (0 : Int32)))).2) kt) ?_
      show Goes p.tables e below _ (T3.setTop (mkF m 24 #[.val (.int p0), .val (.int p1), .val (.int p2), .val (.int p3), .val (.int p4), .val (.int (0 : Int32)), .val (.int (0 : Int32)), .val (.ref b3), .unset, .unset, .unset, .unset, .unset] []))
      refine go (fun t kt => XS.aload X3.here hx rfl (hb hby at_24) rfl rfl kt) ?_
      show Goes p.tables e below _ (T3.setTop (mkF m 26 #[.val (.int p0), .val (.int p1), .val (.int p2), .val (.int p3), .val (.int p4), .val (.int (0 : Int32)), .val (.int (0 : Int32)), .val (.ref b3), .unset, .unset, .unset, .unset, .unset] [(.ref b3)]))
      refine go (fun t kt => XS.iconst X3.here hx rfl (hb hby at_26) kt) ?_
      show Goes p.tables e below _ (T3.setTop (mkF m 27 #[.val (.int p0), .val (.int p1), .val (.int p2), .val (.int p3), .val (.int p4), .val (.int (0 : Int32)), .val (.int (0 : Int32)), .val (.ref b3), .unset, .unset, .unset, .unset, .unset] [(.int (0 : Int32)), (.ref b3)]))
      refine go (fun t kt => XS.iloadN X3.here hx rfl (hb hby at_27) rfl kt) ?_
      show Goes p.tables e below _ (T3.setTop (mkF m 28 #[.val (.int p0), .val (.int p1), .val (.int p2), .val (.int p3), .val (.int p4), .val (.int (0 : Int32)), .val (.int (0 : Int32)), .val (.ref b3), .unset, .unset, .unset, .unset, .unset] [(.int p0), (.int (0 : Int32)), (.ref b3)]))
      obtain ⟨cl4, Ar4, q4, S4, M4, H4, G4⟩ := V_b3
      have hin4 : ¬ ((0 : Int32) < 0 ∨ cl4.slots.size ≤ ((0 : Int32)).toNatClampNeg) := inb_of S4 ⟨by decide, by decide⟩
      obtain ⟨T4, h4, X4, e4, W4, st4⟩ := stI X3 hx hZ e3 Ar4 (j := (0 : Int32)) hin4 (g := (mkF m 28 #[.val (.int p0), .val (.int p1), .val (.int p2), .val (.int p3), .val (.int p4), .val (.int (0 : Int32)), .val (.int (0 : Int32)), .val (.ref b3), .unset, .unset, .unset, .unset, .unset] [(.int p0), (.int (0 : Int32)), (.ref b3)])) rfl rfl (hb hby at_28)
      have V_b3 : Arv Z h4 b3 k3 .int (4 : Int32) [(.int p0), (.int (0 : Int32)), (.int (0 : Int32)), (.int (0 : Int32))] (.int (0 : Int32)) := Arv.set Ar4 q4 S4 M4 H4 G4 rfl W4 0 rfl (Nat.le_of_ble_eq_true rfl)
      have Zz4 := Nat.le_trans Zz3 (Keep.of_wr W4).1
      have Kk4 := Kk3.wr W4 (Or.inr sz_b3)
      have N4 := Fr.snoc X4 N0 g_b3
      refine go st4 ?_
      show Goes p.tables e below _ (T4.setTop (mkF m 29 #[.val (.int p0), .val (.int p1), .val (.int p2), .val (.int p3), .val (.int p4), .val (.int (0 : Int32)), .val (.int (0 : Int32)), .val (.ref b3), .unset, .unset, .unset, .unset, .unset] []))
      refine go (fun t kt => XS.aload X4.here hx rfl (hb hby at_29) rfl rfl kt) ?_
      show Goes p.tables e below _ (T4.setTop (mkF m 31 #[.val (.int p0), .val (.int p1), .val (.int p2), .val (.int p3), .val (.int p4), .val (.int (0 : Int32)), .val (.int (0 : Int32)), .val (.ref b3), .unset, .unset, .unset, .unset, .unset] [(.ref b3)]))
      refine go (fun t kt => XS.iconst X4.here hx rfl (hb hby at_31) kt) ?_
      show Goes p.tables e below _ (T4.setTop (mkF m 32 #[.val (.int p0), .val (.int p1), .val (.int p2), .val (.int p3), .val (.int p4), .val (.int (0 : Int32)), .val (.int (0 : Int32)), .val (.ref b3), .unset, .unset, .unset, .unset, .unset] [(.int (1 : Int32)), (.ref b3)]))
      refine go (fun t kt => XS.iloadN X4.here hx rfl (hb hby at_32) rfl kt) ?_
      show Goes p.tables e below _ (T4.setTop (mkF m 33 #[.val (.int p0), .val (.int p1), .val (.int p2), .val (.int p3), .val (.int p4), .val (.int (0 : Int32)), .val (.int (0 : Int32)), .val (.ref b3), .unset, .unset, .unset, .unset, .unset] [(.int p1), (.int (1 : Int32)), (.ref b3)]))
      obtain ⟨cl5, Ar5, q5, S5, M5, H5, G5⟩ := V_b3
      have hin5 : ¬ ((1 : Int32) < 0 ∨ cl5.slots.size ≤ ((1 : Int32)).toNatClampNeg) := inb_of S5 ⟨by decide, by decide⟩
      obtain ⟨T5, h5, X5, e5, W5, st5⟩ := stI X4 hx hZ e4 Ar5 (j := (1 : Int32)) hin5 (g := (mkF m 33 #[.val (.int p0), .val (.int p1), .val (.int p2), .val (.int p3), .val (.int p4), .val (.int (0 : Int32)), .val (.int (0 : Int32)), .val (.ref b3), .unset, .unset, .unset, .unset, .unset] [(.int p1), (.int (1 : Int32)), (.ref b3)])) rfl rfl (hb hby at_33)
      have V_b3 : Arv Z h5 b3 k3 .int (4 : Int32) [(.int p0), (.int p1), (.int (0 : Int32)), (.int (0 : Int32))] (.int (0 : Int32)) := Arv.set Ar5 q5 S5 M5 H5 G5 rfl W5 1 rfl (Nat.le_of_ble_eq_true rfl)
      have Zz5 := Nat.le_trans Zz4 (Keep.of_wr W5).1
      have Kk5 := Kk4.wr W5 (Or.inr sz_b3)
      have N5 := Fr.snoc X5 N4 g_b3
      refine go st5 ?_
      show Goes p.tables e below _ (T5.setTop (mkF m 34 #[.val (.int p0), .val (.int p1), .val (.int p2), .val (.int p3), .val (.int p4), .val (.int (0 : Int32)), .val (.int (0 : Int32)), .val (.ref b3), .unset, .unset, .unset, .unset, .unset] []))
      refine go (fun t kt => XS.aload X5.here hx rfl (hb hby at_34) rfl rfl kt) ?_
      show Goes p.tables e below _ (T5.setTop (mkF m 36 #[.val (.int p0), .val (.int p1), .val (.int p2), .val (.int p3), .val (.int p4), .val (.int (0 : Int32)), .val (.int (0 : Int32)), .val (.ref b3), .unset, .unset, .unset, .unset, .unset] [(.ref b3)]))
      refine go (fun t kt => XS.iconst X5.here hx rfl (hb hby at_36) kt) ?_
      show Goes p.tables e below _ (T5.setTop (mkF m 37 #[.val (.int p0), .val (.int p1), .val (.int p2), .val (.int p3), .val (.int p4), .val (.int (0 : Int32)), .val (.int (0 : Int32)), .val (.ref b3), .unset, .unset, .unset, .unset, .unset] [(.int (2 : Int32)), (.ref b3)]))
      refine go (fun t kt => XS.iloadN X5.here hx rfl (hb hby at_37) rfl kt) ?_
      show Goes p.tables e below _ (T5.setTop (mkF m 38 #[.val (.int p0), .val (.int p1), .val (.int p2), .val (.int p3), .val (.int p4), .val (.int (0 : Int32)), .val (.int (0 : Int32)), .val (.ref b3), .unset, .unset, .unset, .unset, .unset] [(.int p2), (.int (2 : Int32)), (.ref b3)]))
      obtain ⟨cl6, Ar6, q6, S6, M6, H6, G6⟩ := V_b3
      have hin6 : ¬ ((2 : Int32) < 0 ∨ cl6.slots.size ≤ ((2 : Int32)).toNatClampNeg) := inb_of S6 ⟨by decide, by decide⟩
      obtain ⟨T6, h6, X6, e6, W6, st6⟩ := stI X5 hx hZ e5 Ar6 (j := (2 : Int32)) hin6 (g := (mkF m 38 #[.val (.int p0), .val (.int p1), .val (.int p2), .val (.int p3), .val (.int p4), .val (.int (0 : Int32)), .val (.int (0 : Int32)), .val (.ref b3), .unset, .unset, .unset, .unset, .unset] [(.int p2), (.int (2 : Int32)), (.ref b3)])) rfl rfl (hb hby at_38)
      have V_b3 : Arv Z h6 b3 k3 .int (4 : Int32) [(.int p0), (.int p1), (.int p2), (.int (0 : Int32))] (.int (0 : Int32)) := Arv.set Ar6 q6 S6 M6 H6 G6 rfl W6 2 rfl (Nat.le_of_ble_eq_true rfl)
      have Zz6 := Nat.le_trans Zz5 (Keep.of_wr W6).1
      have Kk6 := Kk5.wr W6 (Or.inr sz_b3)
      have N6 := Fr.snoc X6 N5 g_b3
      refine go st6 ?_
      show Goes p.tables e below _ (T6.setTop (mkF m 39 #[.val (.int p0), .val (.int p1), .val (.int p2), .val (.int p3), .val (.int p4), .val (.int (0 : Int32)), .val (.int (0 : Int32)), .val (.ref b3), .unset, .unset, .unset, .unset, .unset] []))
      refine go (fun t kt => XS.aload X6.here hx rfl (hb hby at_39) rfl rfl kt) ?_
      show Goes p.tables e below _ (T6.setTop (mkF m 41 #[.val (.int p0), .val (.int p1), .val (.int p2), .val (.int p3), .val (.int p4), .val (.int (0 : Int32)), .val (.int (0 : Int32)), .val (.ref b3), .unset, .unset, .unset, .unset, .unset] [(.ref b3)]))
      refine go (fun t kt => XS.iconst X6.here hx rfl (hb hby at_41) kt) ?_
      show Goes p.tables e below _ (T6.setTop (mkF m 42 #[.val (.int p0), .val (.int p1), .val (.int p2), .val (.int p3), .val (.int p4), .val (.int (0 : Int32)), .val (.int (0 : Int32)), .val (.ref b3), .unset, .unset, .unset, .unset, .unset] [(.int (3 : Int32)), (.ref b3)]))
      refine go (fun t kt => XS.iloadN X6.here hx rfl (hb hby at_42) rfl kt) ?_
      show Goes p.tables e below _ (T6.setTop (mkF m 43 #[.val (.int p0), .val (.int p1), .val (.int p2), .val (.int p3), .val (.int p4), .val (.int (0 : Int32)), .val (.int (0 : Int32)), .val (.ref b3), .unset, .unset, .unset, .unset, .unset] [(.int p3), (.int (3 : Int32)), (.ref b3)]))
      obtain ⟨cl7, Ar7, q7, S7, M7, H7, G7⟩ := V_b3
      have hin7 : ¬ ((3 : Int32) < 0 ∨ cl7.slots.size ≤ ((3 : Int32)).toNatClampNeg) := inb_of S7 ⟨by decide, by decide⟩
      obtain ⟨T7, h7, X7, e7, W7, st7⟩ := stI X6 hx hZ e6 Ar7 (j := (3 : Int32)) hin7 (g := (mkF m 43 #[.val (.int p0), .val (.int p1), .val (.int p2), .val (.int p3), .val (.int p4), .val (.int (0 : Int32)), .val (.int (0 : Int32)), .val (.ref b3), .unset, .unset, .unset, .unset, .unset] [(.int p3), (.int (3 : Int32)), (.ref b3)])) rfl rfl (hb hby at_43)
      have V_b3 : Arv Z h7 b3 k3 .int (4 : Int32) [(.int p0), (.int p1), (.int p2), (.int p3)] (.int (0 : Int32)) := Arv.set Ar7 q7 S7 M7 H7 G7 rfl W7 3 rfl (Nat.le_of_ble_eq_true rfl)
      have Zz7 := Nat.le_trans Zz6 (Keep.of_wr W7).1
      have Kk7 := Kk6.wr W7 (Or.inr sz_b3)
      have N7 := Fr.snoc X7 N6 g_b3
      refine go st7 ?_
      show Goes p.tables e below _ (T7.setTop (mkF m 44 #[.val (.int p0), .val (.int p1), .val (.int p2), .val (.int p3), .val (.int p4), .val (.int (0 : Int32)), .val (.int (0 : Int32)), .val (.ref b3), .unset, .unset, .unset, .unset, .unset] []))
      refine go (fun t kt => XS.goto X7.here hx rfl (pc0 := 44) (pc' := 67) rfl (hb hby at_44) (by decide) (by decide) kt) ?_
      show Goes p.tables e below _ (T7.setTop (mkF m 67 #[.val (.int p0), .val (.int p1), .val (.int p2), .val (.int p3), .val (.int p4), .val (.int (0 : Int32)), .val (.int (0 : Int32)), .val (.ref b3), .unset, .unset, .unset, .unset, .unset] []))
      refine go (X7.ldcInt hx hown (mvT hZ (hw _ (List.mem_of_getElem? (i := 1) rfl))) (g := (mkF m 67 #[.val (.int p0), .val (.int p1), .val (.int p2), .val (.int p3), .val (.int p4), .val (.int (0 : Int32)), .val (.int (0 : Int32)), .val (.ref b3), .unset, .unset, .unset, .unset, .unset] [])) rfl (hb hby at_67)) ?_
      show Goes p.tables e below _ (T7.setTop (mkF m 69 #[.val (.int p0), .val (.int p1), .val (.int p2), .val (.int p3), .val (.int p4), .val (.int (0 : Int32)), .val (.int (0 : Int32)), .val (.ref b3), .unset, .unset, .unset, .unset, .unset] [(.int (-1640531535 : Int32))]))
      refine go (fun t kt => XS.istore X7.here hx rfl (hb hby at_69) rfl (l' := #[.val (.int p0), .val (.int p1), .val (.int p2), .val (.int p3), .val (.int p4), .val (.int (0 : Int32)), .val (.int (0 : Int32)), .val (.ref b3), .val (.int (-1640531535 : Int32)), .unset, .unset, .unset, .unset]) rfl kt) ?_
      show Goes p.tables e below _ (T7.setTop (mkF m 71 #[.val (.int p0), .val (.int p1), .val (.int p2), .val (.int p3), .val (.int p4), .val (.int (0 : Int32)), .val (.int (0 : Int32)), .val (.ref b3), .val (.int (-1640531535 : Int32)), .unset, .unset, .unset, .unset] []))
      refine go (fun t kt => XS.iload X7.here hx rfl (hb hby at_71) rfl kt) ?_
      show Goes p.tables e below _ (T7.setTop (mkF m 73 #[.val (.int p0), .val (.int p1), .val (.int p2), .val (.int p3), .val (.int p4), .val (.int (0 : Int32)), .val (.int (0 : Int32)), .val (.ref b3), .val (.int (-1640531535 : Int32)), .unset, .unset, .unset, .unset] [(.int (-1640531535 : Int32))]))
      refine go (fun t kt => XS.iload X7.here hx rfl (hb hby at_73) rfl kt) ?_
      show Goes p.tables e below _ (T7.setTop (mkF m 75 #[.val (.int p0), .val (.int p1), .val (.int p2), .val (.int p3), .val (.int p4), .val (.int (0 : Int32)), .val (.int (0 : Int32)), .val (.ref b3), .val (.int (-1640531535 : Int32)), .unset, .unset, .unset, .unset] [(.int (-1640531535 : Int32)), (.int (-1640531535 : Int32))]))
      refine go (fun t kt => XS.imul X7.here hx rfl (hb hby at_75) rfl kt) ?_
      show Goes p.tables e below _ (T7.setTop (mkF m 76 #[.val (.int p0), .val (.int p1), .val (.int p2), .val (.int p3), .val (.int p4), .val (.int (0 : Int32)), .val (.int (0 : Int32)), .val (.ref b3), .val (.int (-1640531535 : Int32)), .unset, .unset, .unset, .unset] [(.int ((-1640531535 : Int32) * (-1640531535 : Int32)))]))
      refine go (fun t kt => XS.istore X7.here hx rfl (hb hby at_76) rfl (l' := #[.val (.int p0), .val (.int p1), .val (.int p2), .val (.int p3), .val (.int p4), .val (.int (0 : Int32)), .val (.int (0 : Int32)), .val (.ref b3), .val (.int (-1640531535 : Int32)), .val (.int ((-1640531535 : Int32) * (-1640531535 : Int32))), .unset, .unset, .unset]) rfl kt) ?_
      show Goes p.tables e below _ (T7.setTop (mkF m 78 #[.val (.int p0), .val (.int p1), .val (.int p2), .val (.int p3), .val (.int p4), .val (.int (0 : Int32)), .val (.int (0 : Int32)), .val (.ref b3), .val (.int (-1640531535 : Int32)), .val (.int ((-1640531535 : Int32) * (-1640531535 : Int32))), .unset, .unset, .unset] []))
      refine go (fun t kt => XS.iload X7.here hx rfl (hb hby at_78) rfl kt) ?_
      show Goes p.tables e below _ (T7.setTop (mkF m 80 #[.val (.int p0), .val (.int p1), .val (.int p2), .val (.int p3), .val (.int p4), .val (.int (0 : Int32)), .val (.int (0 : Int32)), .val (.ref b3), .val (.int (-1640531535 : Int32)), .val (.int ((-1640531535 : Int32) * (-1640531535 : Int32))), .unset, .unset, .unset] [(.int ((-1640531535 : Int32) * (-1640531535 : Int32)))]))
      refine go (fun t kt => XS.iload X7.here hx rfl (hb hby at_80) rfl kt) ?_
      show Goes p.tables e below _ (T7.setTop (mkF m 82 #[.val (.int p0), .val (.int p1), .val (.int p2), .val (.int p3), .val (.int p4), .val (.int (0 : Int32)), .val (.int (0 : Int32)), .val (.ref b3), .val (.int (-1640531535 : Int32)), .val (.int ((-1640531535 : Int32) * (-1640531535 : Int32))), .unset, .unset, .unset] [(.int (-1640531535 : Int32)), (.int ((-1640531535 : Int32) * (-1640531535 : Int32)))]))
      refine go (fun t kt => XS.imul X7.here hx rfl (hb hby at_82) rfl kt) ?_
      show Goes p.tables e below _ (T7.setTop (mkF m 83 #[.val (.int p0), .val (.int p1), .val (.int p2), .val (.int p3), .val (.int p4), .val (.int (0 : Int32)), .val (.int (0 : Int32)), .val (.ref b3), .val (.int (-1640531535 : Int32)), .val (.int ((-1640531535 : Int32) * (-1640531535 : Int32))), .unset, .unset, .unset] [(.int (((-1640531535 : Int32) * (-1640531535 : Int32)) * (-1640531535 : Int32)))]))
      refine go (fun t kt => XS.istore X7.here hx rfl (hb hby at_83) rfl (l' := #[.val (.int p0), .val (.int p1), .val (.int p2), .val (.int p3), .val (.int p4), .val (.int (0 : Int32)), .val (.int (0 : Int32)), .val (.ref b3), .val (.int (-1640531535 : Int32)), .val (.int ((-1640531535 : Int32) * (-1640531535 : Int32))), .val (.int (((-1640531535 : Int32) * (-1640531535 : Int32)) * (-1640531535 : Int32))), .unset, .unset]) rfl kt) ?_
      show Goes p.tables e below _ (T7.setTop (mkF m 85 #[.val (.int p0), .val (.int p1), .val (.int p2), .val (.int p3), .val (.int p4), .val (.int (0 : Int32)), .val (.int (0 : Int32)), .val (.ref b3), .val (.int (-1640531535 : Int32)), .val (.int ((-1640531535 : Int32) * (-1640531535 : Int32))), .val (.int (((-1640531535 : Int32) * (-1640531535 : Int32)) * (-1640531535 : Int32))), .unset, .unset] []))
      refine go (fun t kt => XS.iload X7.here hx rfl (hb hby at_85) rfl kt) ?_
      show Goes p.tables e below _ (T7.setTop (mkF m 87 #[.val (.int p0), .val (.int p1), .val (.int p2), .val (.int p3), .val (.int p4), .val (.int (0 : Int32)), .val (.int (0 : Int32)), .val (.ref b3), .val (.int (-1640531535 : Int32)), .val (.int ((-1640531535 : Int32) * (-1640531535 : Int32))), .val (.int (((-1640531535 : Int32) * (-1640531535 : Int32)) * (-1640531535 : Int32))), .unset, .unset] [(.int (0 : Int32))]))
      refine go (fun t kt => XS.ifNo X7.here hx rfl (hb hby at_87) rfl ((if0 _ _).trans (teq (by decide : ((0 : Int32) = (0 : Int32)))).2) kt) ?_
      show Goes p.tables e below _ (T7.setTop (mkF m 90 #[.val (.int p0), .val (.int p1), .val (.int p2), .val (.int p3), .val (.int p4), .val (.int (0 : Int32)), .val (.int (0 : Int32)), .val (.ref b3), .val (.int (-1640531535 : Int32)), .val (.int ((-1640531535 : Int32) * (-1640531535 : Int32))), .val (.int (((-1640531535 : Int32) * (-1640531535 : Int32)) * (-1640531535 : Int32))), .unset, .unset] []))
      refine go (fun t kt => XS.iconst X7.here hx rfl (hb hby at_90) kt) ?_
      show Goes p.tables e below _ (T7.setTop (mkF m 91 #[.val (.int p0), .val (.int p1), .val (.int p2), .val (.int p3), .val (.int p4), .val (.int (0 : Int32)), .val (.int (0 : Int32)), .val (.ref b3), .val (.int (-1640531535 : Int32)), .val (.int ((-1640531535 : Int32) * (-1640531535 : Int32))), .val (.int (((-1640531535 : Int32) * (-1640531535 : Int32)) * (-1640531535 : Int32))), .unset, .unset] [(.int (0 : Int32))]))
      refine go (fun t kt => XS.istore X7.here hx rfl (hb hby at_91) rfl (l' := #[.val (.int p0), .val (.int p1), .val (.int p2), .val (.int p3), .val (.int p4), .val (.int (0 : Int32)), .val (.int (0 : Int32)), .val (.ref b3), .val (.int (-1640531535 : Int32)), .val (.int ((-1640531535 : Int32) * (-1640531535 : Int32))), .val (.int (((-1640531535 : Int32) * (-1640531535 : Int32)) * (-1640531535 : Int32))), .val (.int (0 : Int32)), .unset]) rfl kt) ?_
      show Goes p.tables e below _ (T7.setTop (mkF m 93 #[.val (.int p0), .val (.int p1), .val (.int p2), .val (.int p3), .val (.int p4), .val (.int (0 : Int32)), .val (.int (0 : Int32)), .val (.ref b3), .val (.int (-1640531535 : Int32)), .val (.int ((-1640531535 : Int32) * (-1640531535 : Int32))), .val (.int (((-1640531535 : Int32) * (-1640531535 : Int32)) * (-1640531535 : Int32))), .val (.int (0 : Int32)), .unset] []))
      refine go (fun t kt => XS.goto X7.here hx rfl (pc0 := 93) (pc' := 147) rfl (hb hby at_93) (by decide) (by decide) kt) ?_
      show Goes p.tables e below _ (T7.setTop (mkF m 147 #[.val (.int p0), .val (.int p1), .val (.int p2), .val (.int p3), .val (.int p4), .val (.int (0 : Int32)), .val (.int (0 : Int32)), .val (.ref b3), .val (.int (-1640531535 : Int32)), .val (.int ((-1640531535 : Int32) * (-1640531535 : Int32))), .val (.int (((-1640531535 : Int32) * (-1640531535 : Int32)) * (-1640531535 : Int32))), .val (.int (0 : Int32)), .unset] []))
      refine go (fun t kt => XS.iload X7.here hx rfl (hb hby at_147) rfl kt) ?_
      show Goes p.tables e below _ (T7.setTop (mkF m 149 #[.val (.int p0), .val (.int p1), .val (.int p2), .val (.int p3), .val (.int p4), .val (.int (0 : Int32)), .val (.int (0 : Int32)), .val (.ref b3), .val (.int (-1640531535 : Int32)), .val (.int ((-1640531535 : Int32) * (-1640531535 : Int32))), .val (.int (((-1640531535 : Int32) * (-1640531535 : Int32)) * (-1640531535 : Int32))), .val (.int (0 : Int32)), .unset] [(.int (0 : Int32))]))
      refine go (fun t kt => XS.iload X7.here hx rfl (hb hby at_149) rfl kt) ?_
      show Goes p.tables e below _ (T7.setTop (mkF m 151 #[.val (.int p0), .val (.int p1), .val (.int p2), .val (.int p3), .val (.int p4), .val (.int (0 : Int32)), .val (.int (0 : Int32)), .val (.ref b3), .val (.int (-1640531535 : Int32)), .val (.int ((-1640531535 : Int32) * (-1640531535 : Int32))), .val (.int (((-1640531535 : Int32) * (-1640531535 : Int32)) * (-1640531535 : Int32))), .val (.int (0 : Int32)), .unset] [(.int (0 : Int32)), (.int (0 : Int32))]))
      refine go (fun t kt => XS.bipush X7.here hx rfl (hb hby at_151) kt) ?_
      show Goes p.tables e below _ (T7.setTop (mkF m 153 #[.val (.int p0), .val (.int p1), .val (.int p2), .val (.int p3), .val (.int p4), .val (.int (0 : Int32)), .val (.int (0 : Int32)), .val (.ref b3), .val (.int (-1640531535 : Int32)), .val (.int ((-1640531535 : Int32) * (-1640531535 : Int32))), .val (.int (((-1640531535 : Int32) * (-1640531535 : Int32)) * (-1640531535 : Int32))), .val (.int (0 : Int32)), .unset] [(.int (16 : Int32)), (.int (0 : Int32)), (.int (0 : Int32))]))
      refine go (fun t kt => XS.iushr X7.here hx rfl (hb hby at_153) rfl kt) ?_
      show Goes p.tables e below _ (T7.setTop (mkF m 154 #[.val (.int p0), .val (.int p1), .val (.int p2), .val (.int p3), .val (.int p4), .val (.int (0 : Int32)), .val (.int (0 : Int32)), .val (.ref b3), .val (.int (-1640531535 : Int32)), .val (.int ((-1640531535 : Int32) * (-1640531535 : Int32))), .val (.int (((-1640531535 : Int32) * (-1640531535 : Int32)) * (-1640531535 : Int32))), .val (.int (0 : Int32)), .unset] [(.int (((0 : Int32).toUInt32 >>> ((16 : Int32) &&& 31).toUInt32).toInt32)), (.int (0 : Int32))]))
      refine go (fun t kt => XS.ixor X7.here hx rfl (hb hby at_154) rfl kt) ?_
      show Goes p.tables e below _ (T7.setTop (mkF m 155 #[.val (.int p0), .val (.int p1), .val (.int p2), .val (.int p3), .val (.int p4), .val (.int (0 : Int32)), .val (.int (0 : Int32)), .val (.ref b3), .val (.int (-1640531535 : Int32)), .val (.int ((-1640531535 : Int32) * (-1640531535 : Int32))), .val (.int (((-1640531535 : Int32) * (-1640531535 : Int32)) * (-1640531535 : Int32))), .val (.int (0 : Int32)), .unset] [(.int ((0 : Int32) ^^^ (((0 : Int32).toUInt32 >>> ((16 : Int32) &&& 31).toUInt32).toInt32)))]))
      refine go (fun t kt => XS.istore X7.here hx rfl (hb hby at_155) rfl (l' := #[.val (.int p0), .val (.int p1), .val (.int p2), .val (.int p3), .val (.int p4), .val (.int (0 : Int32)), .val (.int (0 : Int32)), .val (.ref b3), .val (.int (-1640531535 : Int32)), .val (.int ((-1640531535 : Int32) * (-1640531535 : Int32))), .val (.int (((-1640531535 : Int32) * (-1640531535 : Int32)) * (-1640531535 : Int32))), .val (.int (0 : Int32)), .val (.int ((0 : Int32) ^^^ (((0 : Int32).toUInt32 >>> ((16 : Int32) &&& 31).toUInt32).toInt32)))]) rfl kt) ?_
      show Goes p.tables e below _ (T7.setTop (mkF m 157 #[.val (.int p0), .val (.int p1), .val (.int p2), .val (.int p3), .val (.int p4), .val (.int (0 : Int32)), .val (.int (0 : Int32)), .val (.ref b3), .val (.int (-1640531535 : Int32)), .val (.int ((-1640531535 : Int32) * (-1640531535 : Int32))), .val (.int (((-1640531535 : Int32) * (-1640531535 : Int32)) * (-1640531535 : Int32))), .val (.int (0 : Int32)), .val (.int ((0 : Int32) ^^^ (((0 : Int32).toUInt32 >>> ((16 : Int32) &&& 31).toUInt32).toInt32)))] []))
      refine go (fun t kt => XS.aload X7.here hx rfl (hb hby at_157) rfl rfl kt) ?_
      show Goes p.tables e below _ (T7.setTop (mkF m 159 #[.val (.int p0), .val (.int p1), .val (.int p2), .val (.int p3), .val (.int p4), .val (.int (0 : Int32)), .val (.int (0 : Int32)), .val (.ref b3), .val (.int (-1640531535 : Int32)), .val (.int ((-1640531535 : Int32) * (-1640531535 : Int32))), .val (.int (((-1640531535 : Int32) * (-1640531535 : Int32)) * (-1640531535 : Int32))), .val (.int (0 : Int32)), .val (.int ((0 : Int32) ^^^ (((0 : Int32).toUInt32 >>> ((16 : Int32) &&& 31).toUInt32).toInt32)))] [(.ref b3)]))
      refine go (fun t kt => XS.iload X7.here hx rfl (hb hby at_159) rfl kt) ?_
      show Goes p.tables e below _ (T7.setTop (mkF m 161 #[.val (.int p0), .val (.int p1), .val (.int p2), .val (.int p3), .val (.int p4), .val (.int (0 : Int32)), .val (.int (0 : Int32)), .val (.ref b3), .val (.int (-1640531535 : Int32)), .val (.int ((-1640531535 : Int32) * (-1640531535 : Int32))), .val (.int (((-1640531535 : Int32) * (-1640531535 : Int32)) * (-1640531535 : Int32))), .val (.int (0 : Int32)), .val (.int ((0 : Int32) ^^^ (((0 : Int32).toUInt32 >>> ((16 : Int32) &&& 31).toUInt32).toInt32)))] [(.int (0 : Int32)), (.ref b3)]))
      refine go (fun t kt => XS.iload X7.here hx rfl (hb hby at_161) rfl kt) ?_
      show Goes p.tables e below _ (T7.setTop (mkF m 163 #[.val (.int p0), .val (.int p1), .val (.int p2), .val (.int p3), .val (.int p4), .val (.int (0 : Int32)), .val (.int (0 : Int32)), .val (.ref b3), .val (.int (-1640531535 : Int32)), .val (.int ((-1640531535 : Int32) * (-1640531535 : Int32))), .val (.int (((-1640531535 : Int32) * (-1640531535 : Int32)) * (-1640531535 : Int32))), .val (.int (0 : Int32)), .val (.int ((0 : Int32) ^^^ (((0 : Int32).toUInt32 >>> ((16 : Int32) &&& 31).toUInt32).toInt32)))] [(.int (0 : Int32)), (.int (0 : Int32)), (.ref b3)]))
      obtain ⟨_, _, ⟨T8, L8, k8, n8⟩, -, X8, ⟨Lc8, hQ8, l8, y8, z8⟩, st8⟩ := Jvm.LawKit.callS X7 hx (y := (⟨"com/example/limpet/limpet/model/NodeLabel", "hashOf", "([III)I"⟩ : MethodName)) hown (mvT hZ (hw _ (List.mem_of_getElem? (i := 2) rfl))) (mvT hZ (hw _ (List.mem_of_getElem? (i := 3) rfl))) (mvT hZ (hw _ (List.mem_of_getElem? (i := 4) rfl))) (mvT hZ (hw _ (List.mem_of_getElem? (i := 5) rfl))) (by decide) (backOf (W := 0) (rmh00 l Z a0 hw [] b3 k3 p0 p1 p2 p3 h7 n0 Zz7 V_b3) hZ (hw _ (List.mem_of_getElem? (i := 5) rfl)) (hw _ (List.mem_of_getElem? (i := 4) rfl)) (by decide) (by decide)) (g := (mkF m 163 #[.val (.int p0), .val (.int p1), .val (.int p2), .val (.int p3), .val (.int p4), .val (.int (0 : Int32)), .val (.int (0 : Int32)), .val (.ref b3), .val (.int (-1640531535 : Int32)), .val (.int ((-1640531535 : Int32) * (-1640531535 : Int32))), .val (.int (((-1640531535 : Int32) * (-1640531535 : Int32)) * (-1640531535 : Int32))), .val (.int (0 : Int32)), .val (.int ((0 : Int32) ^^^ (((0 : Int32).toUInt32 >>> ((16 : Int32) &&& 31).toUInt32).toInt32)))] [(.int (0 : Int32)), (.int (0 : Int32)), (.ref b3)])) rfl (by rw [hml]; rfl) (argsL := [(.ref b3), (.int (0 : Int32)), (.int (0 : Int32))]) (rest := []) (lenOf pd_0 rfl) rfl (by show 2 * 0 + _ ≤ _; exact Nat.le_of_eq rfl) (hb hby at_163) (fun _ _ => ⟨rfl, e7, (by decide : 1 + 0 ≤ _), (by decide : 4 + 0 ≤ _)⟩)
      dsimp only [Pt.U, Pt.locs, Pt.cells, Pt.slots] at X8 l8 y8 z8 st8 hQ8
      subst l8 y8 z8
      obtain ⟨rfl, Nq8, e8⟩ := hQ8
      have N8 := Fr.app N7 Nq8
      refine go st8 ?_
      show Goes p.tables e below _ (T8.setTop (mkF m 166 #[.val (.int p0), .val (.int p1), .val (.int p2), .val (.int p3), .val (.int p4), .val (.int (0 : Int32)), .val (.int (0 : Int32)), .val (.ref b3), .val (.int (-1640531535 : Int32)), .val (.int ((-1640531535 : Int32) * (-1640531535 : Int32))), .val (.int (((-1640531535 : Int32) * (-1640531535 : Int32)) * (-1640531535 : Int32))), .val (.int (0 : Int32)), .val (.int ((0 : Int32) ^^^ (((0 : Int32).toUInt32 >>> ((16 : Int32) &&& 31).toUInt32).toInt32)))] [(.int (own_h00))]))
      refine go (fun t kt => XS.iload X8.here hx rfl (hb hby at_166) rfl kt) ?_
      show Goes p.tables e below _ (T8.setTop (mkF m 168 #[.val (.int p0), .val (.int p1), .val (.int p2), .val (.int p3), .val (.int p4), .val (.int (0 : Int32)), .val (.int (0 : Int32)), .val (.ref b3), .val (.int (-1640531535 : Int32)), .val (.int ((-1640531535 : Int32) * (-1640531535 : Int32))), .val (.int (((-1640531535 : Int32) * (-1640531535 : Int32)) * (-1640531535 : Int32))), .val (.int (0 : Int32)), .val (.int ((0 : Int32) ^^^ (((0 : Int32).toUInt32 >>> ((16 : Int32) &&& 31).toUInt32).toInt32)))] [(.int ((0 : Int32) ^^^ (((0 : Int32).toUInt32 >>> ((16 : Int32) &&& 31).toUInt32).toInt32))), (.int (own_h00))]))
      refine go (fun t kt => XS.icmpNo X8.here hx rfl (hb hby at_168) rfl (teq (rfl : (own_h00) = ((0 : Int32) ^^^ (((0 : Int32).toUInt32 >>> ((16 : Int32) &&& 31).toUInt32).toInt32)))).2 kt) ?_
      show Goes p.tables e below _ (T8.setTop (mkF m 171 #[.val (.int p0), .val (.int p1), .val (.int p2), .val (.int p3), .val (.int p4), .val (.int (0 : Int32)), .val (.int (0 : Int32)), .val (.ref b3), .val (.int (-1640531535 : Int32)), .val (.int ((-1640531535 : Int32) * (-1640531535 : Int32))), .val (.int (((-1640531535 : Int32) * (-1640531535 : Int32)) * (-1640531535 : Int32))), .val (.int (0 : Int32)), .val (.int ((0 : Int32) ^^^ (((0 : Int32).toUInt32 >>> ((16 : Int32) &&& 31).toUInt32).toInt32)))] []))
      refine go (fun t kt => XS.iconst X8.here hx rfl (hb hby at_171) kt) ?_
      show Goes p.tables e below _ (T8.setTop (mkF m 172 #[.val (.int p0), .val (.int p1), .val (.int p2), .val (.int p3), .val (.int p4), .val (.int (0 : Int32)), .val (.int (0 : Int32)), .val (.ref b3), .val (.int (-1640531535 : Int32)), .val (.int ((-1640531535 : Int32) * (-1640531535 : Int32))), .val (.int (((-1640531535 : Int32) * (-1640531535 : Int32)) * (-1640531535 : Int32))), .val (.int (0 : Int32)), .val (.int ((0 : Int32) ^^^ (((0 : Int32).toUInt32 >>> ((16 : Int32) &&& 31).toUInt32).toInt32)))] [(.int (1 : Int32))]))
      refine go (fun t kt => XS.goto X8.here hx rfl (pc0 := 172) (pc' := 176) rfl (hb hby at_172) (by decide) (by decide) kt) ?_
      show Goes p.tables e below _ (T8.setTop (mkF m 176 #[.val (.int p0), .val (.int p1), .val (.int p2), .val (.int p3), .val (.int p4), .val (.int (0 : Int32)), .val (.int (0 : Int32)), .val (.ref b3), .val (.int (-1640531535 : Int32)), .val (.int ((-1640531535 : Int32) * (-1640531535 : Int32))), .val (.int (((-1640531535 : Int32) * (-1640531535 : Int32)) * (-1640531535 : Int32))), .val (.int (0 : Int32)), .val (.int ((0 : Int32) ^^^ (((0 : Int32).toUInt32 >>> ((16 : Int32) &&& 31).toUInt32).toInt32)))] [(.int (1 : Int32))]))
      obtain ⟨fs, hr, hrun, hended, hW, hsame⟩ := X8.leave (v := some (.int (1 : Int32))) (fun h => by rw [Bd.returns] at h; cases h)
      refine ⟨_, _, retN X8 hx (t := .boolean) Bd.returns (by simp) (hb hby at_176) hr, hrun, hended, _, _, rfl, ?_, ⟨_, rfl⟩, hW, hsame.mono (by decide) (by decide)⟩
      show Q0 Z p0 p1 p2 p3 p4 h0 n0 _ T8.heap _
      rw [e8]
      exact ⟨rfl, N8⟩
    ·
      rw [hj2]
      show Goes p.tables e below _ (s₁.setTop (mkF m 14 #[.val (.int p0), .val (.int p1), .val (.int p2), .val (.int p3), .val (.int p4), .val (.int (0 : Int32)), .val (.int (1 : Int32)), .unset, .unset, .unset, .unset, .unset, .unset] []))
      refine go (fun t kt => XS.iconst X0.here hx rfl (hb hby at_14) kt) ?_
      show Goes p.tables e below _ (s₁.setTop (mkF m 15 #[.val (.int p0), .val (.int p1), .val (.int p2), .val (.int p3), .val (.int p4), .val (.int (0 : Int32)), .val (.int (1 : Int32)), .unset, .unset, .unset, .unset, .unset, .unset] [(.int (4 : Int32))]))
      obtain ⟨T10, h10, k10, X10, e10, E10, A10, st10⟩ := newP X0 hx hZ (hw _ (List.mem_of_getElem? (i := 0) rfl)) e0 (g := (mkF m 15 #[.val (.int p0), .val (.int p1), .val (.int p2), .val (.int p3), .val (.int p4), .val (.int (0 : Int32)), .val (.int (1 : Int32)), .unset, .unset, .unset, .unset, .unset, .unset] [(.int (4 : Int32))])) rfl (hb hby at_15) rfl (by decide) (cap := 4) (by decide) (by decide) (by decide) (by decide)
      obtain ⟨b10, g10⟩ : ∃ z, z = h0.size := ⟨_, rfl⟩
      rw [← g10] at A10 st10
      have g_b10 : n0 ≤ b10 := Nat.le_trans Z0 (Nat.le_of_eq g10.symm)
      have sz_b10 : h0.size ≤ b10 := Nat.le_trans K0.1 (Nat.le_of_eq g10.symm)
      have Zz10 := Nat.le_trans Z0 E10.1
      have Kk10 := K0.ext E10
      have V_b10 : Arv Z h10 b10 k10 .int (4 : Int32) [(.int (0 : Int32)), (.int (0 : Int32)), (.int (0 : Int32)), (.int (0 : Int32))] (.int (0 : Int32)) := (Arv.new A10 (by decide)).pad (pad_rep [] (.int (0 : Int32)) 4)
      refine go st10 ?_
      show Goes p.tables e below _ (T10.setTop (mkF m 17 #[.val (.int p0), .val (.int p1), .val (.int p2), .val (.int p3), .val (.int p4), .val (.int (0 : Int32)), .val (.int (1 : Int32)), .unset, .unset, .unset, .unset, .unset, .unset] [(.ref b10)]))
      refine go (fun t kt => XS.astore X10.here hx rfl (hb hby at_17) rfl rfl (l' := #[.val (.int p0), .val (.int p1), .val (.int p2), .val (.int p3), .val (.int p4), .val (.int (0 : Int32)), .val (.int (1 : Int32)), .val (.ref b10), .unset, .unset, .unset, .unset, .unset]) rfl kt) ?_
      show Goes p.tables e below _ (T10.setTop (mkF m 19 #[.val (.int p0), .val (.int p1), .val (.int p2), .val (.int p3), .val (.int p4), .val (.int (0 : Int32)), .val (.int (1 : Int32)), .val (.ref b10), .unset, .unset, .unset, .unset, .unset] []))
      refine go (fun t kt => XS.iload X10.here hx rfl (hb hby at_19) rfl kt) ?_
      show Goes p.tables e below _ (T10.setTop (mkF m 21 #[.val (.int p0), .val (.int p1), .val (.int p2), .val (.int p3), .val (.int p4), .val (.int (0 : Int32)), .val (.int (1 : Int32)), .val (.ref b10), .unset, .unset, .unset, .unset, .unset] [(.int (1 : Int32))]))
      refine go (fun t kt => XS.ifYes X10.here hx rfl (pc0 := 21) (pc' := 47) rfl (hb hby at_21) rfl ((if0 _ _).trans (feq (by decide : ¬ ((1 : Int32) = (0 : Int32)))).2) (by decide) (by decide) kt) ?_
      show Goes p.tables e below _ (T10.setTop (mkF m 47 #[.val (.int p0), .val (.int p1), .val (.int p2), .val (.int p3), .val (.int p4), .val (.int (0 : Int32)), .val (.int (1 : Int32)), .val (.ref b10), .unset, .unset, .unset, .unset, .unset] []))
      refine go (fun t kt => XS.aload X10.here hx rfl (hb hby at_47) rfl rfl kt) ?_
      show Goes p.tables e below _ (T10.setTop (mkF m 49 #[.val (.int p0), .val (.int p1), .val (.int p2), .val (.int p3), .val (.int p4), .val (.int (0 : Int32)), .val (.int (1 : Int32)), .val (.ref b10), .unset, .unset, .unset, .unset, .unset] [(.ref b10)]))
      refine go (fun t kt => XS.iconst X10.here hx rfl (hb hby at_49) kt) ?_
      show Goes p.tables e below _ (T10.setTop (mkF m 50 #[.val (.int p0), .val (.int p1), .val (.int p2), .val (.int p3), .val (.int p4), .val (.int (0 : Int32)), .val (.int (1 : Int32)), .val (.ref b10), .unset, .unset, .unset, .unset, .unset] [(.int (0 : Int32)), (.ref b10)]))
      refine go (fun t kt => XS.iloadN X10.here hx rfl (hb hby at_50) rfl kt) ?_
      show Goes p.tables e below _ (T10.setTop (mkF m 51 #[.val (.int p0), .val (.int p1), .val (.int p2), .val (.int p3), .val (.int p4), .val (.int (0 : Int32)), .val (.int (1 : Int32)), .val (.ref b10), .unset, .unset, .unset, .unset, .unset] [(.int p3), (.int (0 : Int32)), (.ref b10)]))
      obtain ⟨cl11, Ar11, q11, S11, M11, H11, G11⟩ := V_b10
      have hin11 : ¬ ((0 : Int32) < 0 ∨ cl11.slots.size ≤ ((0 : Int32)).toNatClampNeg) := inb_of S11 ⟨by decide, by decide⟩
      obtain ⟨T11, h11, X11, e11, W11, st11⟩ := stI X10 hx hZ e10 Ar11 (j := (0 : Int32)) hin11 (g := (mkF m 51 #[.val (.int p0), .val (.int p1), .val (.int p2), .val (.int p3), .val (.int p4), .val (.int (0 : Int32)), .val (.int (1 : Int32)), .val (.ref b10), .unset, .unset, .unset, .unset, .unset] [(.int p3), (.int (0 : Int32)), (.ref b10)])) rfl rfl (hb hby at_51)
      have V_b10 : Arv Z h11 b10 k10 .int (4 : Int32) [(.int p3), (.int (0 : Int32)), (.int (0 : Int32)), (.int (0 : Int32))] (.int (0 : Int32)) := Arv.set Ar11 q11 S11 M11 H11 G11 rfl W11 0 rfl (Nat.le_of_ble_eq_true rfl)
      have Zz11 := Nat.le_trans Zz10 (Keep.of_wr W11).1
      have Kk11 := Kk10.wr W11 (Or.inr sz_b10)
      have N11 := Fr.snoc X11 N0 g_b10
      refine go st11 ?_
      show Goes p.tables e below _ (T11.setTop (mkF m 52 #[.val (.int p0), .val (.int p1), .val (.int p2), .val (.int p3), .val (.int p4), .val (.int (0 : Int32)), .val (.int (1 : Int32)), .val (.ref b10), .unset, .unset, .unset, .unset, .unset] []))
      refine go (fun t kt => XS.aload X11.here hx rfl (hb hby at_52) rfl rfl kt) ?_
      show Goes p.tables e below _ (T11.setTop (mkF m 54 #[.val (.int p0), .val (.int p1), .val (.int p2), .val (.int p3), .val (.int p4), .val (.int (0 : Int32)), .val (.int (1 : Int32)), .val (.ref b10), .unset, .unset, .unset, .unset, .unset] [(.ref b10)]))
      refine go (fun t kt => XS.iconst X11.here hx rfl (hb hby at_54) kt) ?_
      show Goes p.tables e below _ (T11.setTop (mkF m 55 #[.val (.int p0), .val (.int p1), .val (.int p2), .val (.int p3), .val (.int p4), .val (.int (0 : Int32)), .val (.int (1 : Int32)), .val (.ref b10), .unset, .unset, .unset, .unset, .unset] [(.int (1 : Int32)), (.ref b10)]))
      refine go (fun t kt => XS.iloadN X11.here hx rfl (hb hby at_55) rfl kt) ?_
      show Goes p.tables e below _ (T11.setTop (mkF m 56 #[.val (.int p0), .val (.int p1), .val (.int p2), .val (.int p3), .val (.int p4), .val (.int (0 : Int32)), .val (.int (1 : Int32)), .val (.ref b10), .unset, .unset, .unset, .unset, .unset] [(.int p0), (.int (1 : Int32)), (.ref b10)]))
      obtain ⟨cl12, Ar12, q12, S12, M12, H12, G12⟩ := V_b10
      have hin12 : ¬ ((1 : Int32) < 0 ∨ cl12.slots.size ≤ ((1 : Int32)).toNatClampNeg) := inb_of S12 ⟨by decide, by decide⟩
      obtain ⟨T12, h12, X12, e12, W12, st12⟩ := stI X11 hx hZ e11 Ar12 (j := (1 : Int32)) hin12 (g := (mkF m 56 #[.val (.int p0), .val (.int p1), .val (.int p2), .val (.int p3), .val (.int p4), .val (.int (0 : Int32)), .val (.int (1 : Int32)), .val (.ref b10), .unset, .unset, .unset, .unset, .unset] [(.int p0), (.int (1 : Int32)), (.ref b10)])) rfl rfl (hb hby at_56)
      have V_b10 : Arv Z h12 b10 k10 .int (4 : Int32) [(.int p3), (.int p0), (.int (0 : Int32)), (.int (0 : Int32))] (.int (0 : Int32)) := Arv.set Ar12 q12 S12 M12 H12 G12 rfl W12 1 rfl (Nat.le_of_ble_eq_true rfl)
      have Zz12 := Nat.le_trans Zz11 (Keep.of_wr W12).1
      have Kk12 := Kk11.wr W12 (Or.inr sz_b10)
      have N12 := Fr.snoc X12 N11 g_b10
      refine go st12 ?_
      show Goes p.tables e below _ (T12.setTop (mkF m 57 #[.val (.int p0), .val (.int p1), .val (.int p2), .val (.int p3), .val (.int p4), .val (.int (0 : Int32)), .val (.int (1 : Int32)), .val (.ref b10), .unset, .unset, .unset, .unset, .unset] []))
      refine go (fun t kt => XS.aload X12.here hx rfl (hb hby at_57) rfl rfl kt) ?_
      show Goes p.tables e below _ (T12.setTop (mkF m 59 #[.val (.int p0), .val (.int p1), .val (.int p2), .val (.int p3), .val (.int p4), .val (.int (0 : Int32)), .val (.int (1 : Int32)), .val (.ref b10), .unset, .unset, .unset, .unset, .unset] [(.ref b10)]))
      refine go (fun t kt => XS.iconst X12.here hx rfl (hb hby at_59) kt) ?_
      show Goes p.tables e below _ (T12.setTop (mkF m 60 #[.val (.int p0), .val (.int p1), .val (.int p2), .val (.int p3), .val (.int p4), .val (.int (0 : Int32)), .val (.int (1 : Int32)), .val (.ref b10), .unset, .unset, .unset, .unset, .unset] [(.int (2 : Int32)), (.ref b10)]))
      refine go (fun t kt => XS.iloadN X12.here hx rfl (hb hby at_60) rfl kt) ?_
      show Goes p.tables e below _ (T12.setTop (mkF m 61 #[.val (.int p0), .val (.int p1), .val (.int p2), .val (.int p3), .val (.int p4), .val (.int (0 : Int32)), .val (.int (1 : Int32)), .val (.ref b10), .unset, .unset, .unset, .unset, .unset] [(.int p1), (.int (2 : Int32)), (.ref b10)]))
      obtain ⟨cl13, Ar13, q13, S13, M13, H13, G13⟩ := V_b10
      have hin13 : ¬ ((2 : Int32) < 0 ∨ cl13.slots.size ≤ ((2 : Int32)).toNatClampNeg) := inb_of S13 ⟨by decide, by decide⟩
      obtain ⟨T13, h13, X13, e13, W13, st13⟩ := stI X12 hx hZ e12 Ar13 (j := (2 : Int32)) hin13 (g := (mkF m 61 #[.val (.int p0), .val (.int p1), .val (.int p2), .val (.int p3), .val (.int p4), .val (.int (0 : Int32)), .val (.int (1 : Int32)), .val (.ref b10), .unset, .unset, .unset, .unset, .unset] [(.int p1), (.int (2 : Int32)), (.ref b10)])) rfl rfl (hb hby at_61)
      have V_b10 : Arv Z h13 b10 k10 .int (4 : Int32) [(.int p3), (.int p0), (.int p1), (.int (0 : Int32))] (.int (0 : Int32)) := Arv.set Ar13 q13 S13 M13 H13 G13 rfl W13 2 rfl (Nat.le_of_ble_eq_true rfl)
      have Zz13 := Nat.le_trans Zz12 (Keep.of_wr W13).1
      have Kk13 := Kk12.wr W13 (Or.inr sz_b10)
      have N13 := Fr.snoc X13 N12 g_b10
      refine go st13 ?_
      show Goes p.tables e below _ (T13.setTop (mkF m 62 #[.val (.int p0), .val (.int p1), .val (.int p2), .val (.int p3), .val (.int p4), .val (.int (0 : Int32)), .val (.int (1 : Int32)), .val (.ref b10), .unset, .unset, .unset, .unset, .unset] []))
      refine go (fun t kt => XS.aload X13.here hx rfl (hb hby at_62) rfl rfl kt) ?_
      show Goes p.tables e below _ (T13.setTop (mkF m 64 #[.val (.int p0), .val (.int p1), .val (.int p2), .val (.int p3), .val (.int p4), .val (.int (0 : Int32)), .val (.int (1 : Int32)), .val (.ref b10), .unset, .unset, .unset, .unset, .unset] [(.ref b10)]))
      refine go (fun t kt => XS.iconst X13.here hx rfl (hb hby at_64) kt) ?_
      show Goes p.tables e below _ (T13.setTop (mkF m 65 #[.val (.int p0), .val (.int p1), .val (.int p2), .val (.int p3), .val (.int p4), .val (.int (0 : Int32)), .val (.int (1 : Int32)), .val (.ref b10), .unset, .unset, .unset, .unset, .unset] [(.int (3 : Int32)), (.ref b10)]))
      refine go (fun t kt => XS.iloadN X13.here hx rfl (hb hby at_65) rfl kt) ?_
      show Goes p.tables e below _ (T13.setTop (mkF m 66 #[.val (.int p0), .val (.int p1), .val (.int p2), .val (.int p3), .val (.int p4), .val (.int (0 : Int32)), .val (.int (1 : Int32)), .val (.ref b10), .unset, .unset, .unset, .unset, .unset] [(.int p2), (.int (3 : Int32)), (.ref b10)]))
      obtain ⟨cl14, Ar14, q14, S14, M14, H14, G14⟩ := V_b10
      have hin14 : ¬ ((3 : Int32) < 0 ∨ cl14.slots.size ≤ ((3 : Int32)).toNatClampNeg) := inb_of S14 ⟨by decide, by decide⟩
      obtain ⟨T14, h14, X14, e14, W14, st14⟩ := stI X13 hx hZ e13 Ar14 (j := (3 : Int32)) hin14 (g := (mkF m 66 #[.val (.int p0), .val (.int p1), .val (.int p2), .val (.int p3), .val (.int p4), .val (.int (0 : Int32)), .val (.int (1 : Int32)), .val (.ref b10), .unset, .unset, .unset, .unset, .unset] [(.int p2), (.int (3 : Int32)), (.ref b10)])) rfl rfl (hb hby at_66)
      have V_b10 : Arv Z h14 b10 k10 .int (4 : Int32) [(.int p3), (.int p0), (.int p1), (.int p2)] (.int (0 : Int32)) := Arv.set Ar14 q14 S14 M14 H14 G14 rfl W14 3 rfl (Nat.le_of_ble_eq_true rfl)
      have Zz14 := Nat.le_trans Zz13 (Keep.of_wr W14).1
      have Kk14 := Kk13.wr W14 (Or.inr sz_b10)
      have N14 := Fr.snoc X14 N13 g_b10
      refine go st14 ?_
      show Goes p.tables e below _ (T14.setTop (mkF m 67 #[.val (.int p0), .val (.int p1), .val (.int p2), .val (.int p3), .val (.int p4), .val (.int (0 : Int32)), .val (.int (1 : Int32)), .val (.ref b10), .unset, .unset, .unset, .unset, .unset] []))
      refine go (X14.ldcInt hx hown (mvT hZ (hw _ (List.mem_of_getElem? (i := 1) rfl))) (g := (mkF m 67 #[.val (.int p0), .val (.int p1), .val (.int p2), .val (.int p3), .val (.int p4), .val (.int (0 : Int32)), .val (.int (1 : Int32)), .val (.ref b10), .unset, .unset, .unset, .unset, .unset] [])) rfl (hb hby at_67)) ?_
      show Goes p.tables e below _ (T14.setTop (mkF m 69 #[.val (.int p0), .val (.int p1), .val (.int p2), .val (.int p3), .val (.int p4), .val (.int (0 : Int32)), .val (.int (1 : Int32)), .val (.ref b10), .unset, .unset, .unset, .unset, .unset] [(.int (-1640531535 : Int32))]))
      refine go (fun t kt => XS.istore X14.here hx rfl (hb hby at_69) rfl (l' := #[.val (.int p0), .val (.int p1), .val (.int p2), .val (.int p3), .val (.int p4), .val (.int (0 : Int32)), .val (.int (1 : Int32)), .val (.ref b10), .val (.int (-1640531535 : Int32)), .unset, .unset, .unset, .unset]) rfl kt) ?_
      show Goes p.tables e below _ (T14.setTop (mkF m 71 #[.val (.int p0), .val (.int p1), .val (.int p2), .val (.int p3), .val (.int p4), .val (.int (0 : Int32)), .val (.int (1 : Int32)), .val (.ref b10), .val (.int (-1640531535 : Int32)), .unset, .unset, .unset, .unset] []))
      refine go (fun t kt => XS.iload X14.here hx rfl (hb hby at_71) rfl kt) ?_
      show Goes p.tables e below _ (T14.setTop (mkF m 73 #[.val (.int p0), .val (.int p1), .val (.int p2), .val (.int p3), .val (.int p4), .val (.int (0 : Int32)), .val (.int (1 : Int32)), .val (.ref b10), .val (.int (-1640531535 : Int32)), .unset, .unset, .unset, .unset] [(.int (-1640531535 : Int32))]))
      refine go (fun t kt => XS.iload X14.here hx rfl (hb hby at_73) rfl kt) ?_
      show Goes p.tables e below _ (T14.setTop (mkF m 75 #[.val (.int p0), .val (.int p1), .val (.int p2), .val (.int p3), .val (.int p4), .val (.int (0 : Int32)), .val (.int (1 : Int32)), .val (.ref b10), .val (.int (-1640531535 : Int32)), .unset, .unset, .unset, .unset] [(.int (-1640531535 : Int32)), (.int (-1640531535 : Int32))]))
      refine go (fun t kt => XS.imul X14.here hx rfl (hb hby at_75) rfl kt) ?_
      show Goes p.tables e below _ (T14.setTop (mkF m 76 #[.val (.int p0), .val (.int p1), .val (.int p2), .val (.int p3), .val (.int p4), .val (.int (0 : Int32)), .val (.int (1 : Int32)), .val (.ref b10), .val (.int (-1640531535 : Int32)), .unset, .unset, .unset, .unset] [(.int ((-1640531535 : Int32) * (-1640531535 : Int32)))]))
      refine go (fun t kt => XS.istore X14.here hx rfl (hb hby at_76) rfl (l' := #[.val (.int p0), .val (.int p1), .val (.int p2), .val (.int p3), .val (.int p4), .val (.int (0 : Int32)), .val (.int (1 : Int32)), .val (.ref b10), .val (.int (-1640531535 : Int32)), .val (.int ((-1640531535 : Int32) * (-1640531535 : Int32))), .unset, .unset, .unset]) rfl kt) ?_
      show Goes p.tables e below _ (T14.setTop (mkF m 78 #[.val (.int p0), .val (.int p1), .val (.int p2), .val (.int p3), .val (.int p4), .val (.int (0 : Int32)), .val (.int (1 : Int32)), .val (.ref b10), .val (.int (-1640531535 : Int32)), .val (.int ((-1640531535 : Int32) * (-1640531535 : Int32))), .unset, .unset, .unset] []))
      refine go (fun t kt => XS.iload X14.here hx rfl (hb hby at_78) rfl kt) ?_
      show Goes p.tables e below _ (T14.setTop (mkF m 80 #[.val (.int p0), .val (.int p1), .val (.int p2), .val (.int p3), .val (.int p4), .val (.int (0 : Int32)), .val (.int (1 : Int32)), .val (.ref b10), .val (.int (-1640531535 : Int32)), .val (.int ((-1640531535 : Int32) * (-1640531535 : Int32))), .unset, .unset, .unset] [(.int ((-1640531535 : Int32) * (-1640531535 : Int32)))]))
      refine go (fun t kt => XS.iload X14.here hx rfl (hb hby at_80) rfl kt) ?_
      show Goes p.tables e below _ (T14.setTop (mkF m 82 #[.val (.int p0), .val (.int p1), .val (.int p2), .val (.int p3), .val (.int p4), .val (.int (0 : Int32)), .val (.int (1 : Int32)), .val (.ref b10), .val (.int (-1640531535 : Int32)), .val (.int ((-1640531535 : Int32) * (-1640531535 : Int32))), .unset, .unset, .unset] [(.int (-1640531535 : Int32)), (.int ((-1640531535 : Int32) * (-1640531535 : Int32)))]))
      refine go (fun t kt => XS.imul X14.here hx rfl (hb hby at_82) rfl kt) ?_
      show Goes p.tables e below _ (T14.setTop (mkF m 83 #[.val (.int p0), .val (.int p1), .val (.int p2), .val (.int p3), .val (.int p4), .val (.int (0 : Int32)), .val (.int (1 : Int32)), .val (.ref b10), .val (.int (-1640531535 : Int32)), .val (.int ((-1640531535 : Int32) * (-1640531535 : Int32))), .unset, .unset, .unset] [(.int (((-1640531535 : Int32) * (-1640531535 : Int32)) * (-1640531535 : Int32)))]))
      refine go (fun t kt => XS.istore X14.here hx rfl (hb hby at_83) rfl (l' := #[.val (.int p0), .val (.int p1), .val (.int p2), .val (.int p3), .val (.int p4), .val (.int (0 : Int32)), .val (.int (1 : Int32)), .val (.ref b10), .val (.int (-1640531535 : Int32)), .val (.int ((-1640531535 : Int32) * (-1640531535 : Int32))), .val (.int (((-1640531535 : Int32) * (-1640531535 : Int32)) * (-1640531535 : Int32))), .unset, .unset]) rfl kt) ?_
      show Goes p.tables e below _ (T14.setTop (mkF m 85 #[.val (.int p0), .val (.int p1), .val (.int p2), .val (.int p3), .val (.int p4), .val (.int (0 : Int32)), .val (.int (1 : Int32)), .val (.ref b10), .val (.int (-1640531535 : Int32)), .val (.int ((-1640531535 : Int32) * (-1640531535 : Int32))), .val (.int (((-1640531535 : Int32) * (-1640531535 : Int32)) * (-1640531535 : Int32))), .unset, .unset] []))
      refine go (fun t kt => XS.iload X14.here hx rfl (hb hby at_85) rfl kt) ?_
      show Goes p.tables e below _ (T14.setTop (mkF m 87 #[.val (.int p0), .val (.int p1), .val (.int p2), .val (.int p3), .val (.int p4), .val (.int (0 : Int32)), .val (.int (1 : Int32)), .val (.ref b10), .val (.int (-1640531535 : Int32)), .val (.int ((-1640531535 : Int32) * (-1640531535 : Int32))), .val (.int (((-1640531535 : Int32) * (-1640531535 : Int32)) * (-1640531535 : Int32))), .unset, .unset] [(.int (0 : Int32))]))
      refine go (fun t kt => XS.ifNo X14.here hx rfl (hb hby at_87) rfl ((if0 _ _).trans (teq (by decide : ((0 : Int32) = (0 : Int32)))).2) kt) ?_
      show Goes p.tables e below _ (T14.setTop (mkF m 90 #[.val (.int p0), .val (.int p1), .val (.int p2), .val (.int p3), .val (.int p4), .val (.int (0 : Int32)), .val (.int (1 : Int32)), .val (.ref b10), .val (.int (-1640531535 : Int32)), .val (.int ((-1640531535 : Int32) * (-1640531535 : Int32))), .val (.int (((-1640531535 : Int32) * (-1640531535 : Int32)) * (-1640531535 : Int32))), .unset, .unset] []))
      refine go (fun t kt => XS.iconst X14.here hx rfl (hb hby at_90) kt) ?_
      show Goes p.tables e below _ (T14.setTop (mkF m 91 #[.val (.int p0), .val (.int p1), .val (.int p2), .val (.int p3), .val (.int p4), .val (.int (0 : Int32)), .val (.int (1 : Int32)), .val (.ref b10), .val (.int (-1640531535 : Int32)), .val (.int ((-1640531535 : Int32) * (-1640531535 : Int32))), .val (.int (((-1640531535 : Int32) * (-1640531535 : Int32)) * (-1640531535 : Int32))), .unset, .unset] [(.int (0 : Int32))]))
      refine go (fun t kt => XS.istore X14.here hx rfl (hb hby at_91) rfl (l' := #[.val (.int p0), .val (.int p1), .val (.int p2), .val (.int p3), .val (.int p4), .val (.int (0 : Int32)), .val (.int (1 : Int32)), .val (.ref b10), .val (.int (-1640531535 : Int32)), .val (.int ((-1640531535 : Int32) * (-1640531535 : Int32))), .val (.int (((-1640531535 : Int32) * (-1640531535 : Int32)) * (-1640531535 : Int32))), .val (.int (0 : Int32)), .unset]) rfl kt) ?_
      show Goes p.tables e below _ (T14.setTop (mkF m 93 #[.val (.int p0), .val (.int p1), .val (.int p2), .val (.int p3), .val (.int p4), .val (.int (0 : Int32)), .val (.int (1 : Int32)), .val (.ref b10), .val (.int (-1640531535 : Int32)), .val (.int ((-1640531535 : Int32) * (-1640531535 : Int32))), .val (.int (((-1640531535 : Int32) * (-1640531535 : Int32)) * (-1640531535 : Int32))), .val (.int (0 : Int32)), .unset] []))
      refine go (fun t kt => XS.goto X14.here hx rfl (pc0 := 93) (pc' := 147) rfl (hb hby at_93) (by decide) (by decide) kt) ?_
      show Goes p.tables e below _ (T14.setTop (mkF m 147 #[.val (.int p0), .val (.int p1), .val (.int p2), .val (.int p3), .val (.int p4), .val (.int (0 : Int32)), .val (.int (1 : Int32)), .val (.ref b10), .val (.int (-1640531535 : Int32)), .val (.int ((-1640531535 : Int32) * (-1640531535 : Int32))), .val (.int (((-1640531535 : Int32) * (-1640531535 : Int32)) * (-1640531535 : Int32))), .val (.int (0 : Int32)), .unset] []))
      refine go (fun t kt => XS.iload X14.here hx rfl (hb hby at_147) rfl kt) ?_
      show Goes p.tables e below _ (T14.setTop (mkF m 149 #[.val (.int p0), .val (.int p1), .val (.int p2), .val (.int p3), .val (.int p4), .val (.int (0 : Int32)), .val (.int (1 : Int32)), .val (.ref b10), .val (.int (-1640531535 : Int32)), .val (.int ((-1640531535 : Int32) * (-1640531535 : Int32))), .val (.int (((-1640531535 : Int32) * (-1640531535 : Int32)) * (-1640531535 : Int32))), .val (.int (0 : Int32)), .unset] [(.int (0 : Int32))]))
      refine go (fun t kt => XS.iload X14.here hx rfl (hb hby at_149) rfl kt) ?_
      show Goes p.tables e below _ (T14.setTop (mkF m 151 #[.val (.int p0), .val (.int p1), .val (.int p2), .val (.int p3), .val (.int p4), .val (.int (0 : Int32)), .val (.int (1 : Int32)), .val (.ref b10), .val (.int (-1640531535 : Int32)), .val (.int ((-1640531535 : Int32) * (-1640531535 : Int32))), .val (.int (((-1640531535 : Int32) * (-1640531535 : Int32)) * (-1640531535 : Int32))), .val (.int (0 : Int32)), .unset] [(.int (0 : Int32)), (.int (0 : Int32))]))
      refine go (fun t kt => XS.bipush X14.here hx rfl (hb hby at_151) kt) ?_
      show Goes p.tables e below _ (T14.setTop (mkF m 153 #[.val (.int p0), .val (.int p1), .val (.int p2), .val (.int p3), .val (.int p4), .val (.int (0 : Int32)), .val (.int (1 : Int32)), .val (.ref b10), .val (.int (-1640531535 : Int32)), .val (.int ((-1640531535 : Int32) * (-1640531535 : Int32))), .val (.int (((-1640531535 : Int32) * (-1640531535 : Int32)) * (-1640531535 : Int32))), .val (.int (0 : Int32)), .unset] [(.int (16 : Int32)), (.int (0 : Int32)), (.int (0 : Int32))]))
      refine go (fun t kt => XS.iushr X14.here hx rfl (hb hby at_153) rfl kt) ?_
      show Goes p.tables e below _ (T14.setTop (mkF m 154 #[.val (.int p0), .val (.int p1), .val (.int p2), .val (.int p3), .val (.int p4), .val (.int (0 : Int32)), .val (.int (1 : Int32)), .val (.ref b10), .val (.int (-1640531535 : Int32)), .val (.int ((-1640531535 : Int32) * (-1640531535 : Int32))), .val (.int (((-1640531535 : Int32) * (-1640531535 : Int32)) * (-1640531535 : Int32))), .val (.int (0 : Int32)), .unset] [(.int (((0 : Int32).toUInt32 >>> ((16 : Int32) &&& 31).toUInt32).toInt32)), (.int (0 : Int32))]))
      refine go (fun t kt => XS.ixor X14.here hx rfl (hb hby at_154) rfl kt) ?_
      show Goes p.tables e below _ (T14.setTop (mkF m 155 #[.val (.int p0), .val (.int p1), .val (.int p2), .val (.int p3), .val (.int p4), .val (.int (0 : Int32)), .val (.int (1 : Int32)), .val (.ref b10), .val (.int (-1640531535 : Int32)), .val (.int ((-1640531535 : Int32) * (-1640531535 : Int32))), .val (.int (((-1640531535 : Int32) * (-1640531535 : Int32)) * (-1640531535 : Int32))), .val (.int (0 : Int32)), .unset] [(.int ((0 : Int32) ^^^ (((0 : Int32).toUInt32 >>> ((16 : Int32) &&& 31).toUInt32).toInt32)))]))
      refine go (fun t kt => XS.istore X14.here hx rfl (hb hby at_155) rfl (l' := #[.val (.int p0), .val (.int p1), .val (.int p2), .val (.int p3), .val (.int p4), .val (.int (0 : Int32)), .val (.int (1 : Int32)), .val (.ref b10), .val (.int (-1640531535 : Int32)), .val (.int ((-1640531535 : Int32) * (-1640531535 : Int32))), .val (.int (((-1640531535 : Int32) * (-1640531535 : Int32)) * (-1640531535 : Int32))), .val (.int (0 : Int32)), .val (.int ((0 : Int32) ^^^ (((0 : Int32).toUInt32 >>> ((16 : Int32) &&& 31).toUInt32).toInt32)))]) rfl kt) ?_
      show Goes p.tables e below _ (T14.setTop (mkF m 157 #[.val (.int p0), .val (.int p1), .val (.int p2), .val (.int p3), .val (.int p4), .val (.int (0 : Int32)), .val (.int (1 : Int32)), .val (.ref b10), .val (.int (-1640531535 : Int32)), .val (.int ((-1640531535 : Int32) * (-1640531535 : Int32))), .val (.int (((-1640531535 : Int32) * (-1640531535 : Int32)) * (-1640531535 : Int32))), .val (.int (0 : Int32)), .val (.int ((0 : Int32) ^^^ (((0 : Int32).toUInt32 >>> ((16 : Int32) &&& 31).toUInt32).toInt32)))] []))
      refine go (fun t kt => XS.aload X14.here hx rfl (hb hby at_157) rfl rfl kt) ?_
      show Goes p.tables e below _ (T14.setTop (mkF m 159 #[.val (.int p0), .val (.int p1), .val (.int p2), .val (.int p3), .val (.int p4), .val (.int (0 : Int32)), .val (.int (1 : Int32)), .val (.ref b10), .val (.int (-1640531535 : Int32)), .val (.int ((-1640531535 : Int32) * (-1640531535 : Int32))), .val (.int (((-1640531535 : Int32) * (-1640531535 : Int32)) * (-1640531535 : Int32))), .val (.int (0 : Int32)), .val (.int ((0 : Int32) ^^^ (((0 : Int32).toUInt32 >>> ((16 : Int32) &&& 31).toUInt32).toInt32)))] [(.ref b10)]))
      refine go (fun t kt => XS.iload X14.here hx rfl (hb hby at_159) rfl kt) ?_
      show Goes p.tables e below _ (T14.setTop (mkF m 161 #[.val (.int p0), .val (.int p1), .val (.int p2), .val (.int p3), .val (.int p4), .val (.int (0 : Int32)), .val (.int (1 : Int32)), .val (.ref b10), .val (.int (-1640531535 : Int32)), .val (.int ((-1640531535 : Int32) * (-1640531535 : Int32))), .val (.int (((-1640531535 : Int32) * (-1640531535 : Int32)) * (-1640531535 : Int32))), .val (.int (0 : Int32)), .val (.int ((0 : Int32) ^^^ (((0 : Int32).toUInt32 >>> ((16 : Int32) &&& 31).toUInt32).toInt32)))] [(.int (1 : Int32)), (.ref b10)]))
      refine go (fun t kt => XS.iload X14.here hx rfl (hb hby at_161) rfl kt) ?_
      show Goes p.tables e below _ (T14.setTop (mkF m 163 #[.val (.int p0), .val (.int p1), .val (.int p2), .val (.int p3), .val (.int p4), .val (.int (0 : Int32)), .val (.int (1 : Int32)), .val (.ref b10), .val (.int (-1640531535 : Int32)), .val (.int ((-1640531535 : Int32) * (-1640531535 : Int32))), .val (.int (((-1640531535 : Int32) * (-1640531535 : Int32)) * (-1640531535 : Int32))), .val (.int (0 : Int32)), .val (.int ((0 : Int32) ^^^ (((0 : Int32).toUInt32 >>> ((16 : Int32) &&& 31).toUInt32).toInt32)))] [(.int (0 : Int32)), (.int (1 : Int32)), (.ref b10)]))
      obtain ⟨_, _, ⟨T15, L15, k15, n15⟩, -, X15, ⟨Lc15, hQ15, l15, y15, z15⟩, st15⟩ := Jvm.LawKit.callS X14 hx (y := (⟨"com/example/limpet/limpet/model/NodeLabel", "hashOf", "([III)I"⟩ : MethodName)) hown (mvT hZ (hw _ (List.mem_of_getElem? (i := 2) rfl))) (mvT hZ (hw _ (List.mem_of_getElem? (i := 3) rfl))) (mvT hZ (hw _ (List.mem_of_getElem? (i := 4) rfl))) (mvT hZ (hw _ (List.mem_of_getElem? (i := 5) rfl))) (by decide) (backOf (W := 0) (rmh10 l Z a0 hw [] b10 k10 p3 p0 p1 p2 h14 n0 Zz14 V_b10) hZ (hw _ (List.mem_of_getElem? (i := 5) rfl)) (hw _ (List.mem_of_getElem? (i := 4) rfl)) (by decide) (by decide)) (g := (mkF m 163 #[.val (.int p0), .val (.int p1), .val (.int p2), .val (.int p3), .val (.int p4), .val (.int (0 : Int32)), .val (.int (1 : Int32)), .val (.ref b10), .val (.int (-1640531535 : Int32)), .val (.int ((-1640531535 : Int32) * (-1640531535 : Int32))), .val (.int (((-1640531535 : Int32) * (-1640531535 : Int32)) * (-1640531535 : Int32))), .val (.int (0 : Int32)), .val (.int ((0 : Int32) ^^^ (((0 : Int32).toUInt32 >>> ((16 : Int32) &&& 31).toUInt32).toInt32)))] [(.int (0 : Int32)), (.int (1 : Int32)), (.ref b10)])) rfl (by rw [hml]; rfl) (argsL := [(.ref b10), (.int (1 : Int32)), (.int (0 : Int32))]) (rest := []) (lenOf pd_0 rfl) rfl (by show 2 * 0 + _ ≤ _; exact Nat.le_of_eq rfl) (hb hby at_163) (fun _ _ => ⟨rfl, e14, (by decide : 1 + 0 ≤ _), (by decide : 4 + 0 ≤ _)⟩)
      dsimp only [Pt.U, Pt.locs, Pt.cells, Pt.slots] at X15 l15 y15 z15 st15 hQ15
      subst l15 y15 z15
      obtain ⟨rfl, Nq15, e15⟩ := hQ15
      have N15 := Fr.app N14 Nq15
      refine go st15 ?_
      show Goes p.tables e below _ (T15.setTop (mkF m 166 #[.val (.int p0), .val (.int p1), .val (.int p2), .val (.int p3), .val (.int p4), .val (.int (0 : Int32)), .val (.int (1 : Int32)), .val (.ref b10), .val (.int (-1640531535 : Int32)), .val (.int ((-1640531535 : Int32) * (-1640531535 : Int32))), .val (.int (((-1640531535 : Int32) * (-1640531535 : Int32)) * (-1640531535 : Int32))), .val (.int (0 : Int32)), .val (.int ((0 : Int32) ^^^ (((0 : Int32).toUInt32 >>> ((16 : Int32) &&& 31).toUInt32).toInt32)))] [(.int (own_h10))]))
      refine go (fun t kt => XS.iload X15.here hx rfl (hb hby at_166) rfl kt) ?_
      show Goes p.tables e below _ (T15.setTop (mkF m 168 #[.val (.int p0), .val (.int p1), .val (.int p2), .val (.int p3), .val (.int p4), .val (.int (0 : Int32)), .val (.int (1 : Int32)), .val (.ref b10), .val (.int (-1640531535 : Int32)), .val (.int ((-1640531535 : Int32) * (-1640531535 : Int32))), .val (.int (((-1640531535 : Int32) * (-1640531535 : Int32)) * (-1640531535 : Int32))), .val (.int (0 : Int32)), .val (.int ((0 : Int32) ^^^ (((0 : Int32).toUInt32 >>> ((16 : Int32) &&& 31).toUInt32).toInt32)))] [(.int ((0 : Int32) ^^^ (((0 : Int32).toUInt32 >>> ((16 : Int32) &&& 31).toUInt32).toInt32))), (.int (own_h10))]))
      refine go (fun t kt => XS.icmpNo X15.here hx rfl (hb hby at_168) rfl (teq (rfl : (own_h10) = ((0 : Int32) ^^^ (((0 : Int32).toUInt32 >>> ((16 : Int32) &&& 31).toUInt32).toInt32)))).2 kt) ?_
      show Goes p.tables e below _ (T15.setTop (mkF m 171 #[.val (.int p0), .val (.int p1), .val (.int p2), .val (.int p3), .val (.int p4), .val (.int (0 : Int32)), .val (.int (1 : Int32)), .val (.ref b10), .val (.int (-1640531535 : Int32)), .val (.int ((-1640531535 : Int32) * (-1640531535 : Int32))), .val (.int (((-1640531535 : Int32) * (-1640531535 : Int32)) * (-1640531535 : Int32))), .val (.int (0 : Int32)), .val (.int ((0 : Int32) ^^^ (((0 : Int32).toUInt32 >>> ((16 : Int32) &&& 31).toUInt32).toInt32)))] []))
      refine go (fun t kt => XS.iconst X15.here hx rfl (hb hby at_171) kt) ?_
      show Goes p.tables e below _ (T15.setTop (mkF m 172 #[.val (.int p0), .val (.int p1), .val (.int p2), .val (.int p3), .val (.int p4), .val (.int (0 : Int32)), .val (.int (1 : Int32)), .val (.ref b10), .val (.int (-1640531535 : Int32)), .val (.int ((-1640531535 : Int32) * (-1640531535 : Int32))), .val (.int (((-1640531535 : Int32) * (-1640531535 : Int32)) * (-1640531535 : Int32))), .val (.int (0 : Int32)), .val (.int ((0 : Int32) ^^^ (((0 : Int32).toUInt32 >>> ((16 : Int32) &&& 31).toUInt32).toInt32)))] [(.int (1 : Int32))]))
      refine go (fun t kt => XS.goto X15.here hx rfl (pc0 := 172) (pc' := 176) rfl (hb hby at_172) (by decide) (by decide) kt) ?_
      show Goes p.tables e below _ (T15.setTop (mkF m 176 #[.val (.int p0), .val (.int p1), .val (.int p2), .val (.int p3), .val (.int p4), .val (.int (0 : Int32)), .val (.int (1 : Int32)), .val (.ref b10), .val (.int (-1640531535 : Int32)), .val (.int ((-1640531535 : Int32) * (-1640531535 : Int32))), .val (.int (((-1640531535 : Int32) * (-1640531535 : Int32)) * (-1640531535 : Int32))), .val (.int (0 : Int32)), .val (.int ((0 : Int32) ^^^ (((0 : Int32).toUInt32 >>> ((16 : Int32) &&& 31).toUInt32).toInt32)))] [(.int (1 : Int32))]))
      obtain ⟨fs, hr, hrun, hended, hW, hsame⟩ := X15.leave (v := some (.int (1 : Int32))) (fun h => by rw [Bd.returns] at h; cases h)
      refine ⟨_, _, retN X15 hx (t := .boolean) Bd.returns (by simp) (hb hby at_176) hr, hrun, hended, _, _, rfl, ?_, ⟨_, rfl⟩, hW, hsame.mono (by decide) (by decide)⟩
      show Q0 Z p0 p1 p2 p3 p4 h0 n0 _ T15.heap _
      rw [e15]
      exact ⟨rfl, N15⟩
  ·
    rw [hk1]
    rcases own_c2 ((p4.toUInt32 >>> ((2 : Int32) &&& 31).toUInt32).toInt32) with hj2 | hj2
    ·
      rw [hj2]
      show Goes p.tables e below _ (s₁.setTop (mkF m 14 #[.val (.int p0), .val (.int p1), .val (.int p2), .val (.int p3), .val (.int p4), .val (.int (1 : Int32)), .val (.int (0 : Int32)), .unset, .unset, .unset, .unset, .unset, .unset] []))
      refine go (fun t kt => XS.iconst X0.here hx rfl (hb hby at_14) kt) ?_
      show Goes p.tables e below _ (s₁.setTop (mkF m 15 #[.val (.int p0), .val (.int p1), .val (.int p2), .val (.int p3), .val (.int p4), .val (.int (1 : Int32)), .val (.int (0 : Int32)), .unset, .unset, .unset, .unset, .unset, .unset] [(.int (4 : Int32))]))
      obtain ⟨T17, h17, k17, X17, e17, E17, A17, st17⟩ := newP X0 hx hZ (hw _ (List.mem_of_getElem? (i := 0) rfl)) e0 (g := (mkF m 15 #[.val (.int p0), .val (.int p1), .val (.int p2), .val (.int p3), .val (.int p4), .val (.int (1 : Int32)), .val (.int (0 : Int32)), .unset, .unset, .unset, .unset, .unset, .unset] [(.int (4 : Int32))])) rfl (hb hby at_15) rfl (by decide) (cap := 4) (by decide) (by decide) (by decide) (by decide)
      obtain ⟨b17, g17⟩ : ∃ z, z = h0.size := ⟨_, rfl⟩
      rw [← g17] at A17 st17
      have g_b17 : n0 ≤ b17 := Nat.le_trans Z0 (Nat.le_of_eq g17.symm)
      have sz_b17 : h0.size ≤ b17 := Nat.le_trans K0.1 (Nat.le_of_eq g17.symm)
      have Zz17 := Nat.le_trans Z0 E17.1
      have Kk17 := K0.ext E17
      have V_b17 : Arv Z h17 b17 k17 .int (4 : Int32) [(.int (0 : Int32)), (.int (0 : Int32)), (.int (0 : Int32)), (.int (0 : Int32))] (.int (0 : Int32)) := (Arv.new A17 (by decide)).pad (pad_rep [] (.int (0 : Int32)) 4)
      refine go st17 ?_
      show Goes p.tables e below _ (T17.setTop (mkF m 17 #[.val (.int p0), .val (.int p1), .val (.int p2), .val (.int p3), .val (.int p4), .val (.int (1 : Int32)), .val (.int (0 : Int32)), .unset, .unset, .unset, .unset, .unset, .unset] [(.ref b17)]))
      refine go (fun t kt => XS.astore X17.here hx rfl (hb hby at_17) rfl rfl (l' := #[.val (.int p0), .val (.int p1), .val (.int p2), .val (.int p3), .val (.int p4), .val (.int (1 : Int32)), .val (.int (0 : Int32)), .val (.ref b17), .unset, .unset, .unset, .unset, .unset]) rfl kt) ?_
      show Goes p.tables e below _ (T17.setTop (mkF m 19 #[.val (.int p0), .val (.int p1), .val (.int p2), .val (.int p3), .val (.int p4), .val (.int (1 : Int32)), .val (.int (0 : Int32)), .val (.ref b17), .unset, .unset, .unset, .unset, .unset] []))
      refine go (fun t kt => XS.iload X17.here hx rfl (hb hby at_19) rfl kt) ?_
      show Goes p.tables e below _ (T17.setTop (mkF m 21 #[.val (.int p0), .val (.int p1), .val (.int p2), .val (.int p3), .val (.int p4), .val (.int (1 : Int32)), .val (.int (0 : Int32)), .val (.ref b17), .unset, .unset, .unset, .unset, .unset] [(.int (0 : Int32))]))
      refine go (fun t kt => XS.ifNo X17.here hx rfl (hb hby at_21) rfl ((if0 _ _).trans (teq (by decide : ((0 : Int32) = (0 : Int32)))).2) kt) ?_
      show Goes p.tables e below _ (T17.setTop (mkF m 24 #[.val (.int p0), .val (.int p1), .val (.int p2), .val (.int p3), .val (.int p4), .val (.int (1 : Int32)), .val (.int (0 : Int32)), .val (.ref b17), .unset, .unset, .unset, .unset, .unset] []))
      refine go (fun t kt => XS.aload X17.here hx rfl (hb hby at_24) rfl rfl kt) ?_
      show Goes p.tables e below _ (T17.setTop (mkF m 26 #[.val (.int p0), .val (.int p1), .val (.int p2), .val (.int p3), .val (.int p4), .val (.int (1 : Int32)), .val (.int (0 : Int32)), .val (.ref b17), .unset, .unset, .unset, .unset, .unset] [(.ref b17)]))
      refine go (fun t kt => XS.iconst X17.here hx rfl (hb hby at_26) kt) ?_
      show Goes p.tables e below _ (T17.setTop (mkF m 27 #[.val (.int p0), .val (.int p1), .val (.int p2), .val (.int p3), .val (.int p4), .val (.int (1 : Int32)), .val (.int (0 : Int32)), .val (.ref b17), .unset, .unset, .unset, .unset, .unset] [(.int (0 : Int32)), (.ref b17)]))
      refine go (fun t kt => XS.iloadN X17.here hx rfl (hb hby at_27) rfl kt) ?_
      show Goes p.tables e below _ (T17.setTop (mkF m 28 #[.val (.int p0), .val (.int p1), .val (.int p2), .val (.int p3), .val (.int p4), .val (.int (1 : Int32)), .val (.int (0 : Int32)), .val (.ref b17), .unset, .unset, .unset, .unset, .unset] [(.int p0), (.int (0 : Int32)), (.ref b17)]))
      obtain ⟨cl18, Ar18, q18, S18, M18, H18, G18⟩ := V_b17
      have hin18 : ¬ ((0 : Int32) < 0 ∨ cl18.slots.size ≤ ((0 : Int32)).toNatClampNeg) := inb_of S18 ⟨by decide, by decide⟩
      obtain ⟨T18, h18, X18, e18, W18, st18⟩ := stI X17 hx hZ e17 Ar18 (j := (0 : Int32)) hin18 (g := (mkF m 28 #[.val (.int p0), .val (.int p1), .val (.int p2), .val (.int p3), .val (.int p4), .val (.int (1 : Int32)), .val (.int (0 : Int32)), .val (.ref b17), .unset, .unset, .unset, .unset, .unset] [(.int p0), (.int (0 : Int32)), (.ref b17)])) rfl rfl (hb hby at_28)
      have V_b17 : Arv Z h18 b17 k17 .int (4 : Int32) [(.int p0), (.int (0 : Int32)), (.int (0 : Int32)), (.int (0 : Int32))] (.int (0 : Int32)) := Arv.set Ar18 q18 S18 M18 H18 G18 rfl W18 0 rfl (Nat.le_of_ble_eq_true rfl)
      have Zz18 := Nat.le_trans Zz17 (Keep.of_wr W18).1
      have Kk18 := Kk17.wr W18 (Or.inr sz_b17)
      have N18 := Fr.snoc X18 N0 g_b17
      refine go st18 ?_
      show Goes p.tables e below _ (T18.setTop (mkF m 29 #[.val (.int p0), .val (.int p1), .val (.int p2), .val (.int p3), .val (.int p4), .val (.int (1 : Int32)), .val (.int (0 : Int32)), .val (.ref b17), .unset, .unset, .unset, .unset, .unset] []))
      refine go (fun t kt => XS.aload X18.here hx rfl (hb hby at_29) rfl rfl kt) ?_
      show Goes p.tables e below _ (T18.setTop (mkF m 31 #[.val (.int p0), .val (.int p1), .val (.int p2), .val (.int p3), .val (.int p4), .val (.int (1 : Int32)), .val (.int (0 : Int32)), .val (.ref b17), .unset, .unset, .unset, .unset, .unset] [(.ref b17)]))
      refine go (fun t kt => XS.iconst X18.here hx rfl (hb hby at_31) kt) ?_
      show Goes p.tables e below _ (T18.setTop (mkF m 32 #[.val (.int p0), .val (.int p1), .val (.int p2), .val (.int p3), .val (.int p4), .val (.int (1 : Int32)), .val (.int (0 : Int32)), .val (.ref b17), .unset, .unset, .unset, .unset, .unset] [(.int (1 : Int32)), (.ref b17)]))
      refine go (fun t kt => XS.iloadN X18.here hx rfl (hb hby at_32) rfl kt) ?_
      show Goes p.tables e below _ (T18.setTop (mkF m 33 #[.val (.int p0), .val (.int p1), .val (.int p2), .val (.int p3), .val (.int p4), .val (.int (1 : Int32)), .val (.int (0 : Int32)), .val (.ref b17), .unset, .unset, .unset, .unset, .unset] [(.int p1), (.int (1 : Int32)), (.ref b17)]))
      obtain ⟨cl19, Ar19, q19, S19, M19, H19, G19⟩ := V_b17
      have hin19 : ¬ ((1 : Int32) < 0 ∨ cl19.slots.size ≤ ((1 : Int32)).toNatClampNeg) := inb_of S19 ⟨by decide, by decide⟩
      obtain ⟨T19, h19, X19, e19, W19, st19⟩ := stI X18 hx hZ e18 Ar19 (j := (1 : Int32)) hin19 (g := (mkF m 33 #[.val (.int p0), .val (.int p1), .val (.int p2), .val (.int p3), .val (.int p4), .val (.int (1 : Int32)), .val (.int (0 : Int32)), .val (.ref b17), .unset, .unset, .unset, .unset, .unset] [(.int p1), (.int (1 : Int32)), (.ref b17)])) rfl rfl (hb hby at_33)
      have V_b17 : Arv Z h19 b17 k17 .int (4 : Int32) [(.int p0), (.int p1), (.int (0 : Int32)), (.int (0 : Int32))] (.int (0 : Int32)) := Arv.set Ar19 q19 S19 M19 H19 G19 rfl W19 1 rfl (Nat.le_of_ble_eq_true rfl)
      have Zz19 := Nat.le_trans Zz18 (Keep.of_wr W19).1
      have Kk19 := Kk18.wr W19 (Or.inr sz_b17)
      have N19 := Fr.snoc X19 N18 g_b17
      refine go st19 ?_
      show Goes p.tables e below _ (T19.setTop (mkF m 34 #[.val (.int p0), .val (.int p1), .val (.int p2), .val (.int p3), .val (.int p4), .val (.int (1 : Int32)), .val (.int (0 : Int32)), .val (.ref b17), .unset, .unset, .unset, .unset, .unset] []))
      refine go (fun t kt => XS.aload X19.here hx rfl (hb hby at_34) rfl rfl kt) ?_
      show Goes p.tables e below _ (T19.setTop (mkF m 36 #[.val (.int p0), .val (.int p1), .val (.int p2), .val (.int p3), .val (.int p4), .val (.int (1 : Int32)), .val (.int (0 : Int32)), .val (.ref b17), .unset, .unset, .unset, .unset, .unset] [(.ref b17)]))
      refine go (fun t kt => XS.iconst X19.here hx rfl (hb hby at_36) kt) ?_
      show Goes p.tables e below _ (T19.setTop (mkF m 37 #[.val (.int p0), .val (.int p1), .val (.int p2), .val (.int p3), .val (.int p4), .val (.int (1 : Int32)), .val (.int (0 : Int32)), .val (.ref b17), .unset, .unset, .unset, .unset, .unset] [(.int (2 : Int32)), (.ref b17)]))
      refine go (fun t kt => XS.iloadN X19.here hx rfl (hb hby at_37) rfl kt) ?_
      show Goes p.tables e below _ (T19.setTop (mkF m 38 #[.val (.int p0), .val (.int p1), .val (.int p2), .val (.int p3), .val (.int p4), .val (.int (1 : Int32)), .val (.int (0 : Int32)), .val (.ref b17), .unset, .unset, .unset, .unset, .unset] [(.int p2), (.int (2 : Int32)), (.ref b17)]))
      obtain ⟨cl20, Ar20, q20, S20, M20, H20, G20⟩ := V_b17
      have hin20 : ¬ ((2 : Int32) < 0 ∨ cl20.slots.size ≤ ((2 : Int32)).toNatClampNeg) := inb_of S20 ⟨by decide, by decide⟩
      obtain ⟨T20, h20, X20, e20, W20, st20⟩ := stI X19 hx hZ e19 Ar20 (j := (2 : Int32)) hin20 (g := (mkF m 38 #[.val (.int p0), .val (.int p1), .val (.int p2), .val (.int p3), .val (.int p4), .val (.int (1 : Int32)), .val (.int (0 : Int32)), .val (.ref b17), .unset, .unset, .unset, .unset, .unset] [(.int p2), (.int (2 : Int32)), (.ref b17)])) rfl rfl (hb hby at_38)
      have V_b17 : Arv Z h20 b17 k17 .int (4 : Int32) [(.int p0), (.int p1), (.int p2), (.int (0 : Int32))] (.int (0 : Int32)) := Arv.set Ar20 q20 S20 M20 H20 G20 rfl W20 2 rfl (Nat.le_of_ble_eq_true rfl)
      have Zz20 := Nat.le_trans Zz19 (Keep.of_wr W20).1
      have Kk20 := Kk19.wr W20 (Or.inr sz_b17)
      have N20 := Fr.snoc X20 N19 g_b17
      refine go st20 ?_
      show Goes p.tables e below _ (T20.setTop (mkF m 39 #[.val (.int p0), .val (.int p1), .val (.int p2), .val (.int p3), .val (.int p4), .val (.int (1 : Int32)), .val (.int (0 : Int32)), .val (.ref b17), .unset, .unset, .unset, .unset, .unset] []))
      refine go (fun t kt => XS.aload X20.here hx rfl (hb hby at_39) rfl rfl kt) ?_
      show Goes p.tables e below _ (T20.setTop (mkF m 41 #[.val (.int p0), .val (.int p1), .val (.int p2), .val (.int p3), .val (.int p4), .val (.int (1 : Int32)), .val (.int (0 : Int32)), .val (.ref b17), .unset, .unset, .unset, .unset, .unset] [(.ref b17)]))
      refine go (fun t kt => XS.iconst X20.here hx rfl (hb hby at_41) kt) ?_
      show Goes p.tables e below _ (T20.setTop (mkF m 42 #[.val (.int p0), .val (.int p1), .val (.int p2), .val (.int p3), .val (.int p4), .val (.int (1 : Int32)), .val (.int (0 : Int32)), .val (.ref b17), .unset, .unset, .unset, .unset, .unset] [(.int (3 : Int32)), (.ref b17)]))
      refine go (fun t kt => XS.iloadN X20.here hx rfl (hb hby at_42) rfl kt) ?_
      show Goes p.tables e below _ (T20.setTop (mkF m 43 #[.val (.int p0), .val (.int p1), .val (.int p2), .val (.int p3), .val (.int p4), .val (.int (1 : Int32)), .val (.int (0 : Int32)), .val (.ref b17), .unset, .unset, .unset, .unset, .unset] [(.int p3), (.int (3 : Int32)), (.ref b17)]))
      obtain ⟨cl21, Ar21, q21, S21, M21, H21, G21⟩ := V_b17
      have hin21 : ¬ ((3 : Int32) < 0 ∨ cl21.slots.size ≤ ((3 : Int32)).toNatClampNeg) := inb_of S21 ⟨by decide, by decide⟩
      obtain ⟨T21, h21, X21, e21, W21, st21⟩ := stI X20 hx hZ e20 Ar21 (j := (3 : Int32)) hin21 (g := (mkF m 43 #[.val (.int p0), .val (.int p1), .val (.int p2), .val (.int p3), .val (.int p4), .val (.int (1 : Int32)), .val (.int (0 : Int32)), .val (.ref b17), .unset, .unset, .unset, .unset, .unset] [(.int p3), (.int (3 : Int32)), (.ref b17)])) rfl rfl (hb hby at_43)
      have V_b17 : Arv Z h21 b17 k17 .int (4 : Int32) [(.int p0), (.int p1), (.int p2), (.int p3)] (.int (0 : Int32)) := Arv.set Ar21 q21 S21 M21 H21 G21 rfl W21 3 rfl (Nat.le_of_ble_eq_true rfl)
      have Zz21 := Nat.le_trans Zz20 (Keep.of_wr W21).1
      have Kk21 := Kk20.wr W21 (Or.inr sz_b17)
      have N21 := Fr.snoc X21 N20 g_b17
      refine go st21 ?_
      show Goes p.tables e below _ (T21.setTop (mkF m 44 #[.val (.int p0), .val (.int p1), .val (.int p2), .val (.int p3), .val (.int p4), .val (.int (1 : Int32)), .val (.int (0 : Int32)), .val (.ref b17), .unset, .unset, .unset, .unset, .unset] []))
      refine go (fun t kt => XS.goto X21.here hx rfl (pc0 := 44) (pc' := 67) rfl (hb hby at_44) (by decide) (by decide) kt) ?_
      show Goes p.tables e below _ (T21.setTop (mkF m 67 #[.val (.int p0), .val (.int p1), .val (.int p2), .val (.int p3), .val (.int p4), .val (.int (1 : Int32)), .val (.int (0 : Int32)), .val (.ref b17), .unset, .unset, .unset, .unset, .unset] []))
      refine go (X21.ldcInt hx hown (mvT hZ (hw _ (List.mem_of_getElem? (i := 1) rfl))) (g := (mkF m 67 #[.val (.int p0), .val (.int p1), .val (.int p2), .val (.int p3), .val (.int p4), .val (.int (1 : Int32)), .val (.int (0 : Int32)), .val (.ref b17), .unset, .unset, .unset, .unset, .unset] [])) rfl (hb hby at_67)) ?_
      show Goes p.tables e below _ (T21.setTop (mkF m 69 #[.val (.int p0), .val (.int p1), .val (.int p2), .val (.int p3), .val (.int p4), .val (.int (1 : Int32)), .val (.int (0 : Int32)), .val (.ref b17), .unset, .unset, .unset, .unset, .unset] [(.int (-1640531535 : Int32))]))
      refine go (fun t kt => XS.istore X21.here hx rfl (hb hby at_69) rfl (l' := #[.val (.int p0), .val (.int p1), .val (.int p2), .val (.int p3), .val (.int p4), .val (.int (1 : Int32)), .val (.int (0 : Int32)), .val (.ref b17), .val (.int (-1640531535 : Int32)), .unset, .unset, .unset, .unset]) rfl kt) ?_
      show Goes p.tables e below _ (T21.setTop (mkF m 71 #[.val (.int p0), .val (.int p1), .val (.int p2), .val (.int p3), .val (.int p4), .val (.int (1 : Int32)), .val (.int (0 : Int32)), .val (.ref b17), .val (.int (-1640531535 : Int32)), .unset, .unset, .unset, .unset] []))
      refine go (fun t kt => XS.iload X21.here hx rfl (hb hby at_71) rfl kt) ?_
      show Goes p.tables e below _ (T21.setTop (mkF m 73 #[.val (.int p0), .val (.int p1), .val (.int p2), .val (.int p3), .val (.int p4), .val (.int (1 : Int32)), .val (.int (0 : Int32)), .val (.ref b17), .val (.int (-1640531535 : Int32)), .unset, .unset, .unset, .unset] [(.int (-1640531535 : Int32))]))
      refine go (fun t kt => XS.iload X21.here hx rfl (hb hby at_73) rfl kt) ?_
      show Goes p.tables e below _ (T21.setTop (mkF m 75 #[.val (.int p0), .val (.int p1), .val (.int p2), .val (.int p3), .val (.int p4), .val (.int (1 : Int32)), .val (.int (0 : Int32)), .val (.ref b17), .val (.int (-1640531535 : Int32)), .unset, .unset, .unset, .unset] [(.int (-1640531535 : Int32)), (.int (-1640531535 : Int32))]))
      refine go (fun t kt => XS.imul X21.here hx rfl (hb hby at_75) rfl kt) ?_
      show Goes p.tables e below _ (T21.setTop (mkF m 76 #[.val (.int p0), .val (.int p1), .val (.int p2), .val (.int p3), .val (.int p4), .val (.int (1 : Int32)), .val (.int (0 : Int32)), .val (.ref b17), .val (.int (-1640531535 : Int32)), .unset, .unset, .unset, .unset] [(.int ((-1640531535 : Int32) * (-1640531535 : Int32)))]))
      refine go (fun t kt => XS.istore X21.here hx rfl (hb hby at_76) rfl (l' := #[.val (.int p0), .val (.int p1), .val (.int p2), .val (.int p3), .val (.int p4), .val (.int (1 : Int32)), .val (.int (0 : Int32)), .val (.ref b17), .val (.int (-1640531535 : Int32)), .val (.int ((-1640531535 : Int32) * (-1640531535 : Int32))), .unset, .unset, .unset]) rfl kt) ?_
      show Goes p.tables e below _ (T21.setTop (mkF m 78 #[.val (.int p0), .val (.int p1), .val (.int p2), .val (.int p3), .val (.int p4), .val (.int (1 : Int32)), .val (.int (0 : Int32)), .val (.ref b17), .val (.int (-1640531535 : Int32)), .val (.int ((-1640531535 : Int32) * (-1640531535 : Int32))), .unset, .unset, .unset] []))
      refine go (fun t kt => XS.iload X21.here hx rfl (hb hby at_78) rfl kt) ?_
      show Goes p.tables e below _ (T21.setTop (mkF m 80 #[.val (.int p0), .val (.int p1), .val (.int p2), .val (.int p3), .val (.int p4), .val (.int (1 : Int32)), .val (.int (0 : Int32)), .val (.ref b17), .val (.int (-1640531535 : Int32)), .val (.int ((-1640531535 : Int32) * (-1640531535 : Int32))), .unset, .unset, .unset] [(.int ((-1640531535 : Int32) * (-1640531535 : Int32)))]))
      refine go (fun t kt => XS.iload X21.here hx rfl (hb hby at_80) rfl kt) ?_
      show Goes p.tables e below _ (T21.setTop (mkF m 82 #[.val (.int p0), .val (.int p1), .val (.int p2), .val (.int p3), .val (.int p4), .val (.int (1 : Int32)), .val (.int (0 : Int32)), .val (.ref b17), .val (.int (-1640531535 : Int32)), .val (.int ((-1640531535 : Int32) * (-1640531535 : Int32))), .unset, .unset, .unset] [(.int (-1640531535 : Int32)), (.int ((-1640531535 : Int32) * (-1640531535 : Int32)))]))
      refine go (fun t kt => XS.imul X21.here hx rfl (hb hby at_82) rfl kt) ?_
      show Goes p.tables e below _ (T21.setTop (mkF m 83 #[.val (.int p0), .val (.int p1), .val (.int p2), .val (.int p3), .val (.int p4), .val (.int (1 : Int32)), .val (.int (0 : Int32)), .val (.ref b17), .val (.int (-1640531535 : Int32)), .val (.int ((-1640531535 : Int32) * (-1640531535 : Int32))), .unset, .unset, .unset] [(.int (((-1640531535 : Int32) * (-1640531535 : Int32)) * (-1640531535 : Int32)))]))
      refine go (fun t kt => XS.istore X21.here hx rfl (hb hby at_83) rfl (l' := #[.val (.int p0), .val (.int p1), .val (.int p2), .val (.int p3), .val (.int p4), .val (.int (1 : Int32)), .val (.int (0 : Int32)), .val (.ref b17), .val (.int (-1640531535 : Int32)), .val (.int ((-1640531535 : Int32) * (-1640531535 : Int32))), .val (.int (((-1640531535 : Int32) * (-1640531535 : Int32)) * (-1640531535 : Int32))), .unset, .unset]) rfl kt) ?_
      show Goes p.tables e below _ (T21.setTop (mkF m 85 #[.val (.int p0), .val (.int p1), .val (.int p2), .val (.int p3), .val (.int p4), .val (.int (1 : Int32)), .val (.int (0 : Int32)), .val (.ref b17), .val (.int (-1640531535 : Int32)), .val (.int ((-1640531535 : Int32) * (-1640531535 : Int32))), .val (.int (((-1640531535 : Int32) * (-1640531535 : Int32)) * (-1640531535 : Int32))), .unset, .unset] []))
      refine go (fun t kt => XS.iload X21.here hx rfl (hb hby at_85) rfl kt) ?_
      show Goes p.tables e below _ (T21.setTop (mkF m 87 #[.val (.int p0), .val (.int p1), .val (.int p2), .val (.int p3), .val (.int p4), .val (.int (1 : Int32)), .val (.int (0 : Int32)), .val (.ref b17), .val (.int (-1640531535 : Int32)), .val (.int ((-1640531535 : Int32) * (-1640531535 : Int32))), .val (.int (((-1640531535 : Int32) * (-1640531535 : Int32)) * (-1640531535 : Int32))), .unset, .unset] [(.int (1 : Int32))]))
      refine go (fun t kt => XS.ifYes X21.here hx rfl (pc0 := 87) (pc' := 96) rfl (hb hby at_87) rfl ((if0 _ _).trans (feq (by decide : ¬ ((1 : Int32) = (0 : Int32)))).2) (by decide) (by decide) kt) ?_
      show Goes p.tables e below _ (T21.setTop (mkF m 96 #[.val (.int p0), .val (.int p1), .val (.int p2), .val (.int p3), .val (.int p4), .val (.int (1 : Int32)), .val (.int (0 : Int32)), .val (.ref b17), .val (.int (-1640531535 : Int32)), .val (.int ((-1640531535 : Int32) * (-1640531535 : Int32))), .val (.int (((-1640531535 : Int32) * (-1640531535 : Int32)) * (-1640531535 : Int32))), .unset, .unset] []))
      refine go (fun t kt => XS.iload X21.here hx rfl (hb hby at_96) rfl kt) ?_
      show Goes p.tables e below _ (T21.setTop (mkF m 98 #[.val (.int p0), .val (.int p1), .val (.int p2), .val (.int p3), .val (.int p4), .val (.int (1 : Int32)), .val (.int (0 : Int32)), .val (.ref b17), .val (.int (-1640531535 : Int32)), .val (.int ((-1640531535 : Int32) * (-1640531535 : Int32))), .val (.int (((-1640531535 : Int32) * (-1640531535 : Int32)) * (-1640531535 : Int32))), .unset, .unset] [(.int (1 : Int32))]))
      refine go (fun t kt => XS.iconst X21.here hx rfl (hb hby at_98) kt) ?_
      show Goes p.tables e below _ (T21.setTop (mkF m 99 #[.val (.int p0), .val (.int p1), .val (.int p2), .val (.int p3), .val (.int p4), .val (.int (1 : Int32)), .val (.int (0 : Int32)), .val (.ref b17), .val (.int (-1640531535 : Int32)), .val (.int ((-1640531535 : Int32) * (-1640531535 : Int32))), .val (.int (((-1640531535 : Int32) * (-1640531535 : Int32)) * (-1640531535 : Int32))), .unset, .unset] [(.int (1 : Int32)), (.int (1 : Int32))]))
      refine go (fun t kt => XS.icmpNo X21.here hx rfl (hb hby at_99) rfl (teq (by decide : ((1 : Int32) = (1 : Int32)))).2 kt) ?_
      show Goes p.tables e below _ (T21.setTop (mkF m 102 #[.val (.int p0), .val (.int p1), .val (.int p2), .val (.int p3), .val (.int p4), .val (.int (1 : Int32)), .val (.int (0 : Int32)), .val (.ref b17), .val (.int (-1640531535 : Int32)), .val (.int ((-1640531535 : Int32) * (-1640531535 : Int32))), .val (.int (((-1640531535 : Int32) * (-1640531535 : Int32)) * (-1640531535 : Int32))), .unset, .unset] []))
      refine go (fun t kt => XS.iloadN X21.here hx rfl (hb hby at_102) rfl kt) ?_
      show Goes p.tables e below _ (T21.setTop (mkF m 103 #[.val (.int p0), .val (.int p1), .val (.int p2), .val (.int p3), .val (.int p4), .val (.int (1 : Int32)), .val (.int (0 : Int32)), .val (.ref b17), .val (.int (-1640531535 : Int32)), .val (.int ((-1640531535 : Int32) * (-1640531535 : Int32))), .val (.int (((-1640531535 : Int32) * (-1640531535 : Int32)) * (-1640531535 : Int32))), .unset, .unset] [(.int p0)]))
      refine go (fun t kt => XS.iload X21.here hx rfl (hb hby at_103) rfl kt) ?_
      show Goes p.tables e below _ (T21.setTop (mkF m 105 #[.val (.int p0), .val (.int p1), .val (.int p2), .val (.int p3), .val (.int p4), .val (.int (1 : Int32)), .val (.int (0 : Int32)), .val (.ref b17), .val (.int (-1640531535 : Int32)), .val (.int ((-1640531535 : Int32) * (-1640531535 : Int32))), .val (.int (((-1640531535 : Int32) * (-1640531535 : Int32)) * (-1640531535 : Int32))), .unset, .unset] [(.int (-1640531535 : Int32)), (.int p0)]))
      refine go (fun t kt => XS.imul X21.here hx rfl (hb hby at_105) rfl kt) ?_
      show Goes p.tables e below _ (T21.setTop (mkF m 106 #[.val (.int p0), .val (.int p1), .val (.int p2), .val (.int p3), .val (.int p4), .val (.int (1 : Int32)), .val (.int (0 : Int32)), .val (.ref b17), .val (.int (-1640531535 : Int32)), .val (.int ((-1640531535 : Int32) * (-1640531535 : Int32))), .val (.int (((-1640531535 : Int32) * (-1640531535 : Int32)) * (-1640531535 : Int32))), .unset, .unset] [(.int (p0 * (-1640531535 : Int32)))]))
      refine go (fun t kt => XS.istore X21.here hx rfl (hb hby at_106) rfl (l' := #[.val (.int p0), .val (.int p1), .val (.int p2), .val (.int p3), .val (.int p4), .val (.int (1 : Int32)), .val (.int (0 : Int32)), .val (.ref b17), .val (.int (-1640531535 : Int32)), .val (.int ((-1640531535 : Int32) * (-1640531535 : Int32))), .val (.int (((-1640531535 : Int32) * (-1640531535 : Int32)) * (-1640531535 : Int32))), .val (.int (p0 * (-1640531535 : Int32))), .unset]) rfl kt) ?_
      show Goes p.tables e below _ (T21.setTop (mkF m 108 #[.val (.int p0), .val (.int p1), .val (.int p2), .val (.int p3), .val (.int p4), .val (.int (1 : Int32)), .val (.int (0 : Int32)), .val (.ref b17), .val (.int (-1640531535 : Int32)), .val (.int ((-1640531535 : Int32) * (-1640531535 : Int32))), .val (.int (((-1640531535 : Int32) * (-1640531535 : Int32)) * (-1640531535 : Int32))), .val (.int (p0 * (-1640531535 : Int32))), .unset] []))
      refine go (fun t kt => XS.goto X21.here hx rfl (pc0 := 108) (pc' := 147) rfl (hb hby at_108) (by decide) (by decide) kt) ?_
      show Goes p.tables e below _ (T21.setTop (mkF m 147 #[.val (.int p0), .val (.int p1), .val (.int p2), .val (.int p3), .val (.int p4), .val (.int (1 : Int32)), .val (.int (0 : Int32)), .val (.ref b17), .val (.int (-1640531535 : Int32)), .val (.int ((-1640531535 : Int32) * (-1640531535 : Int32))), .val (.int (((-1640531535 : Int32) * (-1640531535 : Int32)) * (-1640531535 : Int32))), .val (.int (p0 * (-1640531535 : Int32))), .unset] []))
      refine go (fun t kt => XS.iload X21.here hx rfl (hb hby at_147) rfl kt) ?_
      show Goes p.tables e below _ (T21.setTop (mkF m 149 #[.val (.int p0), .val (.int p1), .val (.int p2), .val (.int p3), .val (.int p4), .val (.int (1 : Int32)), .val (.int (0 : Int32)), .val (.ref b17), .val (.int (-1640531535 : Int32)), .val (.int ((-1640531535 : Int32) * (-1640531535 : Int32))), .val (.int (((-1640531535 : Int32) * (-1640531535 : Int32)) * (-1640531535 : Int32))), .val (.int (p0 * (-1640531535 : Int32))), .unset] [(.int (p0 * (-1640531535 : Int32)))]))
      refine go (fun t kt => XS.iload X21.here hx rfl (hb hby at_149) rfl kt) ?_
      show Goes p.tables e below _ (T21.setTop (mkF m 151 #[.val (.int p0), .val (.int p1), .val (.int p2), .val (.int p3), .val (.int p4), .val (.int (1 : Int32)), .val (.int (0 : Int32)), .val (.ref b17), .val (.int (-1640531535 : Int32)), .val (.int ((-1640531535 : Int32) * (-1640531535 : Int32))), .val (.int (((-1640531535 : Int32) * (-1640531535 : Int32)) * (-1640531535 : Int32))), .val (.int (p0 * (-1640531535 : Int32))), .unset] [(.int (p0 * (-1640531535 : Int32))), (.int (p0 * (-1640531535 : Int32)))]))
      refine go (fun t kt => XS.bipush X21.here hx rfl (hb hby at_151) kt) ?_
      show Goes p.tables e below _ (T21.setTop (mkF m 153 #[.val (.int p0), .val (.int p1), .val (.int p2), .val (.int p3), .val (.int p4), .val (.int (1 : Int32)), .val (.int (0 : Int32)), .val (.ref b17), .val (.int (-1640531535 : Int32)), .val (.int ((-1640531535 : Int32) * (-1640531535 : Int32))), .val (.int (((-1640531535 : Int32) * (-1640531535 : Int32)) * (-1640531535 : Int32))), .val (.int (p0 * (-1640531535 : Int32))), .unset] [(.int (16 : Int32)), (.int (p0 * (-1640531535 : Int32))), (.int (p0 * (-1640531535 : Int32)))]))
      refine go (fun t kt => XS.iushr X21.here hx rfl (hb hby at_153) rfl kt) ?_
      show Goes p.tables e below _ (T21.setTop (mkF m 154 #[.val (.int p0), .val (.int p1), .val (.int p2), .val (.int p3), .val (.int p4), .val (.int (1 : Int32)), .val (.int (0 : Int32)), .val (.ref b17), .val (.int (-1640531535 : Int32)), .val (.int ((-1640531535 : Int32) * (-1640531535 : Int32))), .val (.int (((-1640531535 : Int32) * (-1640531535 : Int32)) * (-1640531535 : Int32))), .val (.int (p0 * (-1640531535 : Int32))), .unset] [(.int (((p0 * (-1640531535 : Int32)).toUInt32 >>> ((16 : Int32) &&& 31).toUInt32).toInt32)), (.int (p0 * (-1640531535 : Int32)))]))
      refine go (fun t kt => XS.ixor X21.here hx rfl (hb hby at_154) rfl kt) ?_
      show Goes p.tables e below _ (T21.setTop (mkF m 155 #[.val (.int p0), .val (.int p1), .val (.int p2), .val (.int p3), .val (.int p4), .val (.int (1 : Int32)), .val (.int (0 : Int32)), .val (.ref b17), .val (.int (-1640531535 : Int32)), .val (.int ((-1640531535 : Int32) * (-1640531535 : Int32))), .val (.int (((-1640531535 : Int32) * (-1640531535 : Int32)) * (-1640531535 : Int32))), .val (.int (p0 * (-1640531535 : Int32))), .unset] [(.int ((p0 * (-1640531535 : Int32)) ^^^ (((p0 * (-1640531535 : Int32)).toUInt32 >>> ((16 : Int32) &&& 31).toUInt32).toInt32)))]))
      refine go (fun t kt => XS.istore X21.here hx rfl (hb hby at_155) rfl (l' := #[.val (.int p0), .val (.int p1), .val (.int p2), .val (.int p3), .val (.int p4), .val (.int (1 : Int32)), .val (.int (0 : Int32)), .val (.ref b17), .val (.int (-1640531535 : Int32)), .val (.int ((-1640531535 : Int32) * (-1640531535 : Int32))), .val (.int (((-1640531535 : Int32) * (-1640531535 : Int32)) * (-1640531535 : Int32))), .val (.int (p0 * (-1640531535 : Int32))), .val (.int ((p0 * (-1640531535 : Int32)) ^^^ (((p0 * (-1640531535 : Int32)).toUInt32 >>> ((16 : Int32) &&& 31).toUInt32).toInt32)))]) rfl kt) ?_
      show Goes p.tables e below _ (T21.setTop (mkF m 157 #[.val (.int p0), .val (.int p1), .val (.int p2), .val (.int p3), .val (.int p4), .val (.int (1 : Int32)), .val (.int (0 : Int32)), .val (.ref b17), .val (.int (-1640531535 : Int32)), .val (.int ((-1640531535 : Int32) * (-1640531535 : Int32))), .val (.int (((-1640531535 : Int32) * (-1640531535 : Int32)) * (-1640531535 : Int32))), .val (.int (p0 * (-1640531535 : Int32))), .val (.int ((p0 * (-1640531535 : Int32)) ^^^ (((p0 * (-1640531535 : Int32)).toUInt32 >>> ((16 : Int32) &&& 31).toUInt32).toInt32)))] []))
      refine go (fun t kt => XS.aload X21.here hx rfl (hb hby at_157) rfl rfl kt) ?_
      show Goes p.tables e below _ (T21.setTop (mkF m 159 #[.val (.int p0), .val (.int p1), .val (.int p2), .val (.int p3), .val (.int p4), .val (.int (1 : Int32)), .val (.int (0 : Int32)), .val (.ref b17), .val (.int (-1640531535 : Int32)), .val (.int ((-1640531535 : Int32) * (-1640531535 : Int32))), .val (.int (((-1640531535 : Int32) * (-1640531535 : Int32)) * (-1640531535 : Int32))), .val (.int (p0 * (-1640531535 : Int32))), .val (.int ((p0 * (-1640531535 : Int32)) ^^^ (((p0 * (-1640531535 : Int32)).toUInt32 >>> ((16 : Int32) &&& 31).toUInt32).toInt32)))] [(.ref b17)]))
      refine go (fun t kt => XS.iload X21.here hx rfl (hb hby at_159) rfl kt) ?_
      show Goes p.tables e below _ (T21.setTop (mkF m 161 #[.val (.int p0), .val (.int p1), .val (.int p2), .val (.int p3), .val (.int p4), .val (.int (1 : Int32)), .val (.int (0 : Int32)), .val (.ref b17), .val (.int (-1640531535 : Int32)), .val (.int ((-1640531535 : Int32) * (-1640531535 : Int32))), .val (.int (((-1640531535 : Int32) * (-1640531535 : Int32)) * (-1640531535 : Int32))), .val (.int (p0 * (-1640531535 : Int32))), .val (.int ((p0 * (-1640531535 : Int32)) ^^^ (((p0 * (-1640531535 : Int32)).toUInt32 >>> ((16 : Int32) &&& 31).toUInt32).toInt32)))] [(.int (0 : Int32)), (.ref b17)]))
      refine go (fun t kt => XS.iload X21.here hx rfl (hb hby at_161) rfl kt) ?_
      show Goes p.tables e below _ (T21.setTop (mkF m 163 #[.val (.int p0), .val (.int p1), .val (.int p2), .val (.int p3), .val (.int p4), .val (.int (1 : Int32)), .val (.int (0 : Int32)), .val (.ref b17), .val (.int (-1640531535 : Int32)), .val (.int ((-1640531535 : Int32) * (-1640531535 : Int32))), .val (.int (((-1640531535 : Int32) * (-1640531535 : Int32)) * (-1640531535 : Int32))), .val (.int (p0 * (-1640531535 : Int32))), .val (.int ((p0 * (-1640531535 : Int32)) ^^^ (((p0 * (-1640531535 : Int32)).toUInt32 >>> ((16 : Int32) &&& 31).toUInt32).toInt32)))] [(.int (1 : Int32)), (.int (0 : Int32)), (.ref b17)]))
      obtain ⟨_, _, ⟨T22, L22, k22, n22⟩, -, X22, ⟨Lc22, hQ22, l22, y22, z22⟩, st22⟩ := Jvm.LawKit.callS X21 hx (y := (⟨"com/example/limpet/limpet/model/NodeLabel", "hashOf", "([III)I"⟩ : MethodName)) hown (mvT hZ (hw _ (List.mem_of_getElem? (i := 2) rfl))) (mvT hZ (hw _ (List.mem_of_getElem? (i := 3) rfl))) (mvT hZ (hw _ (List.mem_of_getElem? (i := 4) rfl))) (mvT hZ (hw _ (List.mem_of_getElem? (i := 5) rfl))) (by decide) (backOf (W := 0) (rmh01 l Z a0 hw [] b17 k17 p0 p1 p2 p3 h21 n0 Zz21 V_b17) hZ (hw _ (List.mem_of_getElem? (i := 5) rfl)) (hw _ (List.mem_of_getElem? (i := 4) rfl)) (by decide) (by decide)) (g := (mkF m 163 #[.val (.int p0), .val (.int p1), .val (.int p2), .val (.int p3), .val (.int p4), .val (.int (1 : Int32)), .val (.int (0 : Int32)), .val (.ref b17), .val (.int (-1640531535 : Int32)), .val (.int ((-1640531535 : Int32) * (-1640531535 : Int32))), .val (.int (((-1640531535 : Int32) * (-1640531535 : Int32)) * (-1640531535 : Int32))), .val (.int (p0 * (-1640531535 : Int32))), .val (.int ((p0 * (-1640531535 : Int32)) ^^^ (((p0 * (-1640531535 : Int32)).toUInt32 >>> ((16 : Int32) &&& 31).toUInt32).toInt32)))] [(.int (1 : Int32)), (.int (0 : Int32)), (.ref b17)])) rfl (by rw [hml]; rfl) (argsL := [(.ref b17), (.int (0 : Int32)), (.int (1 : Int32))]) (rest := []) (lenOf pd_0 rfl) rfl (by show 2 * 0 + _ ≤ _; exact Nat.le_of_eq rfl) (hb hby at_163) (fun _ _ => ⟨rfl, e21, (by decide : 1 + 0 ≤ _), (by decide : 4 + 0 ≤ _)⟩)
      dsimp only [Pt.U, Pt.locs, Pt.cells, Pt.slots] at X22 l22 y22 z22 st22 hQ22
      subst l22 y22 z22
      obtain ⟨rfl, Nq22, e22⟩ := hQ22
      have N22 := Fr.app N21 Nq22
      refine go st22 ?_
      show Goes p.tables e below _ (T22.setTop (mkF m 166 #[.val (.int p0), .val (.int p1), .val (.int p2), .val (.int p3), .val (.int p4), .val (.int (1 : Int32)), .val (.int (0 : Int32)), .val (.ref b17), .val (.int (-1640531535 : Int32)), .val (.int ((-1640531535 : Int32) * (-1640531535 : Int32))), .val (.int (((-1640531535 : Int32) * (-1640531535 : Int32)) * (-1640531535 : Int32))), .val (.int (p0 * (-1640531535 : Int32))), .val (.int ((p0 * (-1640531535 : Int32)) ^^^ (((p0 * (-1640531535 : Int32)).toUInt32 >>> ((16 : Int32) &&& 31).toUInt32).toInt32)))] [(.int (own_h01 p0))]))
      refine go (fun t kt => XS.iload X22.here hx rfl (hb hby at_166) rfl kt) ?_
      show Goes p.tables e below _ (T22.setTop (mkF m 168 #[.val (.int p0), .val (.int p1), .val (.int p2), .val (.int p3), .val (.int p4), .val (.int (1 : Int32)), .val (.int (0 : Int32)), .val (.ref b17), .val (.int (-1640531535 : Int32)), .val (.int ((-1640531535 : Int32) * (-1640531535 : Int32))), .val (.int (((-1640531535 : Int32) * (-1640531535 : Int32)) * (-1640531535 : Int32))), .val (.int (p0 * (-1640531535 : Int32))), .val (.int ((p0 * (-1640531535 : Int32)) ^^^ (((p0 * (-1640531535 : Int32)).toUInt32 >>> ((16 : Int32) &&& 31).toUInt32).toInt32)))] [(.int ((p0 * (-1640531535 : Int32)) ^^^ (((p0 * (-1640531535 : Int32)).toUInt32 >>> ((16 : Int32) &&& 31).toUInt32).toInt32))), (.int (own_h01 p0))]))
      refine go (fun t kt => XS.icmpNo X22.here hx rfl (hb hby at_168) rfl (teq (by unfold own_h01; rw [own_e1])).2 kt) ?_
      show Goes p.tables e below _ (T22.setTop (mkF m 171 #[.val (.int p0), .val (.int p1), .val (.int p2), .val (.int p3), .val (.int p4), .val (.int (1 : Int32)), .val (.int (0 : Int32)), .val (.ref b17), .val (.int (-1640531535 : Int32)), .val (.int ((-1640531535 : Int32) * (-1640531535 : Int32))), .val (.int (((-1640531535 : Int32) * (-1640531535 : Int32)) * (-1640531535 : Int32))), .val (.int (p0 * (-1640531535 : Int32))), .val (.int ((p0 * (-1640531535 : Int32)) ^^^ (((p0 * (-1640531535 : Int32)).toUInt32 >>> ((16 : Int32) &&& 31).toUInt32).toInt32)))] []))
      refine go (fun t kt => XS.iconst X22.here hx rfl (hb hby at_171) kt) ?_
      show Goes p.tables e below _ (T22.setTop (mkF m 172 #[.val (.int p0), .val (.int p1), .val (.int p2), .val (.int p3), .val (.int p4), .val (.int (1 : Int32)), .val (.int (0 : Int32)), .val (.ref b17), .val (.int (-1640531535 : Int32)), .val (.int ((-1640531535 : Int32) * (-1640531535 : Int32))), .val (.int (((-1640531535 : Int32) * (-1640531535 : Int32)) * (-1640531535 : Int32))), .val (.int (p0 * (-1640531535 : Int32))), .val (.int ((p0 * (-1640531535 : Int32)) ^^^ (((p0 * (-1640531535 : Int32)).toUInt32 >>> ((16 : Int32) &&& 31).toUInt32).toInt32)))] [(.int (1 : Int32))]))
      refine go (fun t kt => XS.goto X22.here hx rfl (pc0 := 172) (pc' := 176) rfl (hb hby at_172) (by decide) (by decide) kt) ?_
      show Goes p.tables e below _ (T22.setTop (mkF m 176 #[.val (.int p0), .val (.int p1), .val (.int p2), .val (.int p3), .val (.int p4), .val (.int (1 : Int32)), .val (.int (0 : Int32)), .val (.ref b17), .val (.int (-1640531535 : Int32)), .val (.int ((-1640531535 : Int32) * (-1640531535 : Int32))), .val (.int (((-1640531535 : Int32) * (-1640531535 : Int32)) * (-1640531535 : Int32))), .val (.int (p0 * (-1640531535 : Int32))), .val (.int ((p0 * (-1640531535 : Int32)) ^^^ (((p0 * (-1640531535 : Int32)).toUInt32 >>> ((16 : Int32) &&& 31).toUInt32).toInt32)))] [(.int (1 : Int32))]))
      obtain ⟨fs, hr, hrun, hended, hW, hsame⟩ := X22.leave (v := some (.int (1 : Int32))) (fun h => by rw [Bd.returns] at h; cases h)
      refine ⟨_, _, retN X22 hx (t := .boolean) Bd.returns (by simp) (hb hby at_176) hr, hrun, hended, _, _, rfl, ?_, ⟨_, rfl⟩, hW, hsame.mono (by decide) (by decide)⟩
      show Q0 Z p0 p1 p2 p3 p4 h0 n0 _ T22.heap _
      rw [e22]
      exact ⟨rfl, N22⟩
    ·
      rw [hj2]
      show Goes p.tables e below _ (s₁.setTop (mkF m 14 #[.val (.int p0), .val (.int p1), .val (.int p2), .val (.int p3), .val (.int p4), .val (.int (1 : Int32)), .val (.int (1 : Int32)), .unset, .unset, .unset, .unset, .unset, .unset] []))
      refine go (fun t kt => XS.iconst X0.here hx rfl (hb hby at_14) kt) ?_
      show Goes p.tables e below _ (s₁.setTop (mkF m 15 #[.val (.int p0), .val (.int p1), .val (.int p2), .val (.int p3), .val (.int p4), .val (.int (1 : Int32)), .val (.int (1 : Int32)), .unset, .unset, .unset, .unset, .unset, .unset] [(.int (4 : Int32))]))
      obtain ⟨T24, h24, k24, X24, e24, E24, A24, st24⟩ := newP X0 hx hZ (hw _ (List.mem_of_getElem? (i := 0) rfl)) e0 (g := (mkF m 15 #[.val (.int p0), .val (.int p1), .val (.int p2), .val (.int p3), .val (.int p4), .val (.int (1 : Int32)), .val (.int (1 : Int32)), .unset, .unset, .unset, .unset, .unset, .unset] [(.int (4 : Int32))])) rfl (hb hby at_15) rfl (by decide) (cap := 4) (by decide) (by decide) (by decide) (by decide)
      obtain ⟨b24, g24⟩ : ∃ z, z = h0.size := ⟨_, rfl⟩
      rw [← g24] at A24 st24
      have g_b24 : n0 ≤ b24 := Nat.le_trans Z0 (Nat.le_of_eq g24.symm)
      have sz_b24 : h0.size ≤ b24 := Nat.le_trans K0.1 (Nat.le_of_eq g24.symm)
      have Zz24 := Nat.le_trans Z0 E24.1
      have Kk24 := K0.ext E24
      have V_b24 : Arv Z h24 b24 k24 .int (4 : Int32) [(.int (0 : Int32)), (.int (0 : Int32)), (.int (0 : Int32)), (.int (0 : Int32))] (.int (0 : Int32)) := (Arv.new A24 (by decide)).pad (pad_rep [] (.int (0 : Int32)) 4)
      refine go st24 ?_
      show Goes p.tables e below _ (T24.setTop (mkF m 17 #[.val (.int p0), .val (.int p1), .val (.int p2), .val (.int p3), .val (.int p4), .val (.int (1 : Int32)), .val (.int (1 : Int32)), .unset, .unset, .unset, .unset, .unset, .unset] [(.ref b24)]))
      refine go (fun t kt => XS.astore X24.here hx rfl (hb hby at_17) rfl rfl (l' := #[.val (.int p0), .val (.int p1), .val (.int p2), .val (.int p3), .val (.int p4), .val (.int (1 : Int32)), .val (.int (1 : Int32)), .val (.ref b24), .unset, .unset, .unset, .unset, .unset]) rfl kt) ?_
      show Goes p.tables e below _ (T24.setTop (mkF m 19 #[.val (.int p0), .val (.int p1), .val (.int p2), .val (.int p3), .val (.int p4), .val (.int (1 : Int32)), .val (.int (1 : Int32)), .val (.ref b24), .unset, .unset, .unset, .unset, .unset] []))
      refine go (fun t kt => XS.iload X24.here hx rfl (hb hby at_19) rfl kt) ?_
      show Goes p.tables e below _ (T24.setTop (mkF m 21 #[.val (.int p0), .val (.int p1), .val (.int p2), .val (.int p3), .val (.int p4), .val (.int (1 : Int32)), .val (.int (1 : Int32)), .val (.ref b24), .unset, .unset, .unset, .unset, .unset] [(.int (1 : Int32))]))
      refine go (fun t kt => XS.ifYes X24.here hx rfl (pc0 := 21) (pc' := 47) rfl (hb hby at_21) rfl ((if0 _ _).trans (feq (by decide : ¬ ((1 : Int32) = (0 : Int32)))).2) (by decide) (by decide) kt) ?_
      show Goes p.tables e below _ (T24.setTop (mkF m 47 #[.val (.int p0), .val (.int p1), .val (.int p2), .val (.int p3), .val (.int p4), .val (.int (1 : Int32)), .val (.int (1 : Int32)), .val (.ref b24), .unset, .unset, .unset, .unset, .unset] []))
      refine go (fun t kt => XS.aload X24.here hx rfl (hb hby at_47) rfl rfl kt) ?_
      show Goes p.tables e below _ (T24.setTop (mkF m 49 #[.val (.int p0), .val (.int p1), .val (.int p2), .val (.int p3), .val (.int p4), .val (.int (1 : Int32)), .val (.int (1 : Int32)), .val (.ref b24), .unset, .unset, .unset, .unset, .unset] [(.ref b24)]))
      refine go (fun t kt => XS.iconst X24.here hx rfl (hb hby at_49) kt) ?_
      show Goes p.tables e below _ (T24.setTop (mkF m 50 #[.val (.int p0), .val (.int p1), .val (.int p2), .val (.int p3), .val (.int p4), .val (.int (1 : Int32)), .val (.int (1 : Int32)), .val (.ref b24), .unset, .unset, .unset, .unset, .unset] [(.int (0 : Int32)), (.ref b24)]))
      refine go (fun t kt => XS.iloadN X24.here hx rfl (hb hby at_50) rfl kt) ?_
      show Goes p.tables e below _ (T24.setTop (mkF m 51 #[.val (.int p0), .val (.int p1), .val (.int p2), .val (.int p3), .val (.int p4), .val (.int (1 : Int32)), .val (.int (1 : Int32)), .val (.ref b24), .unset, .unset, .unset, .unset, .unset] [(.int p3), (.int (0 : Int32)), (.ref b24)]))
      obtain ⟨cl25, Ar25, q25, S25, M25, H25, G25⟩ := V_b24
      have hin25 : ¬ ((0 : Int32) < 0 ∨ cl25.slots.size ≤ ((0 : Int32)).toNatClampNeg) := inb_of S25 ⟨by decide, by decide⟩
      obtain ⟨T25, h25, X25, e25, W25, st25⟩ := stI X24 hx hZ e24 Ar25 (j := (0 : Int32)) hin25 (g := (mkF m 51 #[.val (.int p0), .val (.int p1), .val (.int p2), .val (.int p3), .val (.int p4), .val (.int (1 : Int32)), .val (.int (1 : Int32)), .val (.ref b24), .unset, .unset, .unset, .unset, .unset] [(.int p3), (.int (0 : Int32)), (.ref b24)])) rfl rfl (hb hby at_51)
      have V_b24 : Arv Z h25 b24 k24 .int (4 : Int32) [(.int p3), (.int (0 : Int32)), (.int (0 : Int32)), (.int (0 : Int32))] (.int (0 : Int32)) := Arv.set Ar25 q25 S25 M25 H25 G25 rfl W25 0 rfl (Nat.le_of_ble_eq_true rfl)
      have Zz25 := Nat.le_trans Zz24 (Keep.of_wr W25).1
      have Kk25 := Kk24.wr W25 (Or.inr sz_b24)
      have N25 := Fr.snoc X25 N0 g_b24
      refine go st25 ?_
      show Goes p.tables e below _ (T25.setTop (mkF m 52 #[.val (.int p0), .val (.int p1), .val (.int p2), .val (.int p3), .val (.int p4), .val (.int (1 : Int32)), .val (.int (1 : Int32)), .val (.ref b24), .unset, .unset, .unset, .unset, .unset] []))
      refine go (fun t kt => XS.aload X25.here hx rfl (hb hby at_52) rfl rfl kt) ?_
      show Goes p.tables e below _ (T25.setTop (mkF m 54 #[.val (.int p0), .val (.int p1), .val (.int p2), .val (.int p3), .val (.int p4), .val (.int (1 : Int32)), .val (.int (1 : Int32)), .val (.ref b24), .unset, .unset, .unset, .unset, .unset] [(.ref b24)]))
      refine go (fun t kt => XS.iconst X25.here hx rfl (hb hby at_54) kt) ?_
      show Goes p.tables e below _ (T25.setTop (mkF m 55 #[.val (.int p0), .val (.int p1), .val (.int p2), .val (.int p3), .val (.int p4), .val (.int (1 : Int32)), .val (.int (1 : Int32)), .val (.ref b24), .unset, .unset, .unset, .unset, .unset] [(.int (1 : Int32)), (.ref b24)]))
      refine go (fun t kt => XS.iloadN X25.here hx rfl (hb hby at_55) rfl kt) ?_
      show Goes p.tables e below _ (T25.setTop (mkF m 56 #[.val (.int p0), .val (.int p1), .val (.int p2), .val (.int p3), .val (.int p4), .val (.int (1 : Int32)), .val (.int (1 : Int32)), .val (.ref b24), .unset, .unset, .unset, .unset, .unset] [(.int p0), (.int (1 : Int32)), (.ref b24)]))
      obtain ⟨cl26, Ar26, q26, S26, M26, H26, G26⟩ := V_b24
      have hin26 : ¬ ((1 : Int32) < 0 ∨ cl26.slots.size ≤ ((1 : Int32)).toNatClampNeg) := inb_of S26 ⟨by decide, by decide⟩
      obtain ⟨T26, h26, X26, e26, W26, st26⟩ := stI X25 hx hZ e25 Ar26 (j := (1 : Int32)) hin26 (g := (mkF m 56 #[.val (.int p0), .val (.int p1), .val (.int p2), .val (.int p3), .val (.int p4), .val (.int (1 : Int32)), .val (.int (1 : Int32)), .val (.ref b24), .unset, .unset, .unset, .unset, .unset] [(.int p0), (.int (1 : Int32)), (.ref b24)])) rfl rfl (hb hby at_56)
      have V_b24 : Arv Z h26 b24 k24 .int (4 : Int32) [(.int p3), (.int p0), (.int (0 : Int32)), (.int (0 : Int32))] (.int (0 : Int32)) := Arv.set Ar26 q26 S26 M26 H26 G26 rfl W26 1 rfl (Nat.le_of_ble_eq_true rfl)
      have Zz26 := Nat.le_trans Zz25 (Keep.of_wr W26).1
      have Kk26 := Kk25.wr W26 (Or.inr sz_b24)
      have N26 := Fr.snoc X26 N25 g_b24
      refine go st26 ?_
      show Goes p.tables e below _ (T26.setTop (mkF m 57 #[.val (.int p0), .val (.int p1), .val (.int p2), .val (.int p3), .val (.int p4), .val (.int (1 : Int32)), .val (.int (1 : Int32)), .val (.ref b24), .unset, .unset, .unset, .unset, .unset] []))
      refine go (fun t kt => XS.aload X26.here hx rfl (hb hby at_57) rfl rfl kt) ?_
      show Goes p.tables e below _ (T26.setTop (mkF m 59 #[.val (.int p0), .val (.int p1), .val (.int p2), .val (.int p3), .val (.int p4), .val (.int (1 : Int32)), .val (.int (1 : Int32)), .val (.ref b24), .unset, .unset, .unset, .unset, .unset] [(.ref b24)]))
      refine go (fun t kt => XS.iconst X26.here hx rfl (hb hby at_59) kt) ?_
      show Goes p.tables e below _ (T26.setTop (mkF m 60 #[.val (.int p0), .val (.int p1), .val (.int p2), .val (.int p3), .val (.int p4), .val (.int (1 : Int32)), .val (.int (1 : Int32)), .val (.ref b24), .unset, .unset, .unset, .unset, .unset] [(.int (2 : Int32)), (.ref b24)]))
      refine go (fun t kt => XS.iloadN X26.here hx rfl (hb hby at_60) rfl kt) ?_
      show Goes p.tables e below _ (T26.setTop (mkF m 61 #[.val (.int p0), .val (.int p1), .val (.int p2), .val (.int p3), .val (.int p4), .val (.int (1 : Int32)), .val (.int (1 : Int32)), .val (.ref b24), .unset, .unset, .unset, .unset, .unset] [(.int p1), (.int (2 : Int32)), (.ref b24)]))
      obtain ⟨cl27, Ar27, q27, S27, M27, H27, G27⟩ := V_b24
      have hin27 : ¬ ((2 : Int32) < 0 ∨ cl27.slots.size ≤ ((2 : Int32)).toNatClampNeg) := inb_of S27 ⟨by decide, by decide⟩
      obtain ⟨T27, h27, X27, e27, W27, st27⟩ := stI X26 hx hZ e26 Ar27 (j := (2 : Int32)) hin27 (g := (mkF m 61 #[.val (.int p0), .val (.int p1), .val (.int p2), .val (.int p3), .val (.int p4), .val (.int (1 : Int32)), .val (.int (1 : Int32)), .val (.ref b24), .unset, .unset, .unset, .unset, .unset] [(.int p1), (.int (2 : Int32)), (.ref b24)])) rfl rfl (hb hby at_61)
      have V_b24 : Arv Z h27 b24 k24 .int (4 : Int32) [(.int p3), (.int p0), (.int p1), (.int (0 : Int32))] (.int (0 : Int32)) := Arv.set Ar27 q27 S27 M27 H27 G27 rfl W27 2 rfl (Nat.le_of_ble_eq_true rfl)
      have Zz27 := Nat.le_trans Zz26 (Keep.of_wr W27).1
      have Kk27 := Kk26.wr W27 (Or.inr sz_b24)
      have N27 := Fr.snoc X27 N26 g_b24
      refine go st27 ?_
      show Goes p.tables e below _ (T27.setTop (mkF m 62 #[.val (.int p0), .val (.int p1), .val (.int p2), .val (.int p3), .val (.int p4), .val (.int (1 : Int32)), .val (.int (1 : Int32)), .val (.ref b24), .unset, .unset, .unset, .unset, .unset] []))
      refine go (fun t kt => XS.aload X27.here hx rfl (hb hby at_62) rfl rfl kt) ?_
      show Goes p.tables e below _ (T27.setTop (mkF m 64 #[.val (.int p0), .val (.int p1), .val (.int p2), .val (.int p3), .val (.int p4), .val (.int (1 : Int32)), .val (.int (1 : Int32)), .val (.ref b24), .unset, .unset, .unset, .unset, .unset] [(.ref b24)]))
      refine go (fun t kt => XS.iconst X27.here hx rfl (hb hby at_64) kt) ?_
      show Goes p.tables e below _ (T27.setTop (mkF m 65 #[.val (.int p0), .val (.int p1), .val (.int p2), .val (.int p3), .val (.int p4), .val (.int (1 : Int32)), .val (.int (1 : Int32)), .val (.ref b24), .unset, .unset, .unset, .unset, .unset] [(.int (3 : Int32)), (.ref b24)]))
      refine go (fun t kt => XS.iloadN X27.here hx rfl (hb hby at_65) rfl kt) ?_
      show Goes p.tables e below _ (T27.setTop (mkF m 66 #[.val (.int p0), .val (.int p1), .val (.int p2), .val (.int p3), .val (.int p4), .val (.int (1 : Int32)), .val (.int (1 : Int32)), .val (.ref b24), .unset, .unset, .unset, .unset, .unset] [(.int p2), (.int (3 : Int32)), (.ref b24)]))
      obtain ⟨cl28, Ar28, q28, S28, M28, H28, G28⟩ := V_b24
      have hin28 : ¬ ((3 : Int32) < 0 ∨ cl28.slots.size ≤ ((3 : Int32)).toNatClampNeg) := inb_of S28 ⟨by decide, by decide⟩
      obtain ⟨T28, h28, X28, e28, W28, st28⟩ := stI X27 hx hZ e27 Ar28 (j := (3 : Int32)) hin28 (g := (mkF m 66 #[.val (.int p0), .val (.int p1), .val (.int p2), .val (.int p3), .val (.int p4), .val (.int (1 : Int32)), .val (.int (1 : Int32)), .val (.ref b24), .unset, .unset, .unset, .unset, .unset] [(.int p2), (.int (3 : Int32)), (.ref b24)])) rfl rfl (hb hby at_66)
      have V_b24 : Arv Z h28 b24 k24 .int (4 : Int32) [(.int p3), (.int p0), (.int p1), (.int p2)] (.int (0 : Int32)) := Arv.set Ar28 q28 S28 M28 H28 G28 rfl W28 3 rfl (Nat.le_of_ble_eq_true rfl)
      have Zz28 := Nat.le_trans Zz27 (Keep.of_wr W28).1
      have Kk28 := Kk27.wr W28 (Or.inr sz_b24)
      have N28 := Fr.snoc X28 N27 g_b24
      refine go st28 ?_
      show Goes p.tables e below _ (T28.setTop (mkF m 67 #[.val (.int p0), .val (.int p1), .val (.int p2), .val (.int p3), .val (.int p4), .val (.int (1 : Int32)), .val (.int (1 : Int32)), .val (.ref b24), .unset, .unset, .unset, .unset, .unset] []))
      refine go (X28.ldcInt hx hown (mvT hZ (hw _ (List.mem_of_getElem? (i := 1) rfl))) (g := (mkF m 67 #[.val (.int p0), .val (.int p1), .val (.int p2), .val (.int p3), .val (.int p4), .val (.int (1 : Int32)), .val (.int (1 : Int32)), .val (.ref b24), .unset, .unset, .unset, .unset, .unset] [])) rfl (hb hby at_67)) ?_
      show Goes p.tables e below _ (T28.setTop (mkF m 69 #[.val (.int p0), .val (.int p1), .val (.int p2), .val (.int p3), .val (.int p4), .val (.int (1 : Int32)), .val (.int (1 : Int32)), .val (.ref b24), .unset, .unset, .unset, .unset, .unset] [(.int (-1640531535 : Int32))]))
      refine go (fun t kt => XS.istore X28.here hx rfl (hb hby at_69) rfl (l' := #[.val (.int p0), .val (.int p1), .val (.int p2), .val (.int p3), .val (.int p4), .val (.int (1 : Int32)), .val (.int (1 : Int32)), .val (.ref b24), .val (.int (-1640531535 : Int32)), .unset, .unset, .unset, .unset]) rfl kt) ?_
      show Goes p.tables e below _ (T28.setTop (mkF m 71 #[.val (.int p0), .val (.int p1), .val (.int p2), .val (.int p3), .val (.int p4), .val (.int (1 : Int32)), .val (.int (1 : Int32)), .val (.ref b24), .val (.int (-1640531535 : Int32)), .unset, .unset, .unset, .unset] []))
      refine go (fun t kt => XS.iload X28.here hx rfl (hb hby at_71) rfl kt) ?_
      show Goes p.tables e below _ (T28.setTop (mkF m 73 #[.val (.int p0), .val (.int p1), .val (.int p2), .val (.int p3), .val (.int p4), .val (.int (1 : Int32)), .val (.int (1 : Int32)), .val (.ref b24), .val (.int (-1640531535 : Int32)), .unset, .unset, .unset, .unset] [(.int (-1640531535 : Int32))]))
      refine go (fun t kt => XS.iload X28.here hx rfl (hb hby at_73) rfl kt) ?_
      show Goes p.tables e below _ (T28.setTop (mkF m 75 #[.val (.int p0), .val (.int p1), .val (.int p2), .val (.int p3), .val (.int p4), .val (.int (1 : Int32)), .val (.int (1 : Int32)), .val (.ref b24), .val (.int (-1640531535 : Int32)), .unset, .unset, .unset, .unset] [(.int (-1640531535 : Int32)), (.int (-1640531535 : Int32))]))
      refine go (fun t kt => XS.imul X28.here hx rfl (hb hby at_75) rfl kt) ?_
      show Goes p.tables e below _ (T28.setTop (mkF m 76 #[.val (.int p0), .val (.int p1), .val (.int p2), .val (.int p3), .val (.int p4), .val (.int (1 : Int32)), .val (.int (1 : Int32)), .val (.ref b24), .val (.int (-1640531535 : Int32)), .unset, .unset, .unset, .unset] [(.int ((-1640531535 : Int32) * (-1640531535 : Int32)))]))
      refine go (fun t kt => XS.istore X28.here hx rfl (hb hby at_76) rfl (l' := #[.val (.int p0), .val (.int p1), .val (.int p2), .val (.int p3), .val (.int p4), .val (.int (1 : Int32)), .val (.int (1 : Int32)), .val (.ref b24), .val (.int (-1640531535 : Int32)), .val (.int ((-1640531535 : Int32) * (-1640531535 : Int32))), .unset, .unset, .unset]) rfl kt) ?_
      show Goes p.tables e below _ (T28.setTop (mkF m 78 #[.val (.int p0), .val (.int p1), .val (.int p2), .val (.int p3), .val (.int p4), .val (.int (1 : Int32)), .val (.int (1 : Int32)), .val (.ref b24), .val (.int (-1640531535 : Int32)), .val (.int ((-1640531535 : Int32) * (-1640531535 : Int32))), .unset, .unset, .unset] []))
      refine go (fun t kt => XS.iload X28.here hx rfl (hb hby at_78) rfl kt) ?_
      show Goes p.tables e below _ (T28.setTop (mkF m 80 #[.val (.int p0), .val (.int p1), .val (.int p2), .val (.int p3), .val (.int p4), .val (.int (1 : Int32)), .val (.int (1 : Int32)), .val (.ref b24), .val (.int (-1640531535 : Int32)), .val (.int ((-1640531535 : Int32) * (-1640531535 : Int32))), .unset, .unset, .unset] [(.int ((-1640531535 : Int32) * (-1640531535 : Int32)))]))
      refine go (fun t kt => XS.iload X28.here hx rfl (hb hby at_80) rfl kt) ?_
      show Goes p.tables e below _ (T28.setTop (mkF m 82 #[.val (.int p0), .val (.int p1), .val (.int p2), .val (.int p3), .val (.int p4), .val (.int (1 : Int32)), .val (.int (1 : Int32)), .val (.ref b24), .val (.int (-1640531535 : Int32)), .val (.int ((-1640531535 : Int32) * (-1640531535 : Int32))), .unset, .unset, .unset] [(.int (-1640531535 : Int32)), (.int ((-1640531535 : Int32) * (-1640531535 : Int32)))]))
      refine go (fun t kt => XS.imul X28.here hx rfl (hb hby at_82) rfl kt) ?_
      show Goes p.tables e below _ (T28.setTop (mkF m 83 #[.val (.int p0), .val (.int p1), .val (.int p2), .val (.int p3), .val (.int p4), .val (.int (1 : Int32)), .val (.int (1 : Int32)), .val (.ref b24), .val (.int (-1640531535 : Int32)), .val (.int ((-1640531535 : Int32) * (-1640531535 : Int32))), .unset, .unset, .unset] [(.int (((-1640531535 : Int32) * (-1640531535 : Int32)) * (-1640531535 : Int32)))]))
      refine go (fun t kt => XS.istore X28.here hx rfl (hb hby at_83) rfl (l' := #[.val (.int p0), .val (.int p1), .val (.int p2), .val (.int p3), .val (.int p4), .val (.int (1 : Int32)), .val (.int (1 : Int32)), .val (.ref b24), .val (.int (-1640531535 : Int32)), .val (.int ((-1640531535 : Int32) * (-1640531535 : Int32))), .val (.int (((-1640531535 : Int32) * (-1640531535 : Int32)) * (-1640531535 : Int32))), .unset, .unset]) rfl kt) ?_
      show Goes p.tables e below _ (T28.setTop (mkF m 85 #[.val (.int p0), .val (.int p1), .val (.int p2), .val (.int p3), .val (.int p4), .val (.int (1 : Int32)), .val (.int (1 : Int32)), .val (.ref b24), .val (.int (-1640531535 : Int32)), .val (.int ((-1640531535 : Int32) * (-1640531535 : Int32))), .val (.int (((-1640531535 : Int32) * (-1640531535 : Int32)) * (-1640531535 : Int32))), .unset, .unset] []))
      refine go (fun t kt => XS.iload X28.here hx rfl (hb hby at_85) rfl kt) ?_
      show Goes p.tables e below _ (T28.setTop (mkF m 87 #[.val (.int p0), .val (.int p1), .val (.int p2), .val (.int p3), .val (.int p4), .val (.int (1 : Int32)), .val (.int (1 : Int32)), .val (.ref b24), .val (.int (-1640531535 : Int32)), .val (.int ((-1640531535 : Int32) * (-1640531535 : Int32))), .val (.int (((-1640531535 : Int32) * (-1640531535 : Int32)) * (-1640531535 : Int32))), .unset, .unset] [(.int (1 : Int32))]))
      refine go (fun t kt => XS.ifYes X28.here hx rfl (pc0 := 87) (pc' := 96) rfl (hb hby at_87) rfl ((if0 _ _).trans (feq (by decide : ¬ ((1 : Int32) = (0 : Int32)))).2) (by decide) (by decide) kt) ?_
      show Goes p.tables e below _ (T28.setTop (mkF m 96 #[.val (.int p0), .val (.int p1), .val (.int p2), .val (.int p3), .val (.int p4), .val (.int (1 : Int32)), .val (.int (1 : Int32)), .val (.ref b24), .val (.int (-1640531535 : Int32)), .val (.int ((-1640531535 : Int32) * (-1640531535 : Int32))), .val (.int (((-1640531535 : Int32) * (-1640531535 : Int32)) * (-1640531535 : Int32))), .unset, .unset] []))
      refine go (fun t kt => XS.iload X28.here hx rfl (hb hby at_96) rfl kt) ?_
      show Goes p.tables e below _ (T28.setTop (mkF m 98 #[.val (.int p0), .val (.int p1), .val (.int p2), .val (.int p3), .val (.int p4), .val (.int (1 : Int32)), .val (.int (1 : Int32)), .val (.ref b24), .val (.int (-1640531535 : Int32)), .val (.int ((-1640531535 : Int32) * (-1640531535 : Int32))), .val (.int (((-1640531535 : Int32) * (-1640531535 : Int32)) * (-1640531535 : Int32))), .unset, .unset] [(.int (1 : Int32))]))
      refine go (fun t kt => XS.iconst X28.here hx rfl (hb hby at_98) kt) ?_
      show Goes p.tables e below _ (T28.setTop (mkF m 99 #[.val (.int p0), .val (.int p1), .val (.int p2), .val (.int p3), .val (.int p4), .val (.int (1 : Int32)), .val (.int (1 : Int32)), .val (.ref b24), .val (.int (-1640531535 : Int32)), .val (.int ((-1640531535 : Int32) * (-1640531535 : Int32))), .val (.int (((-1640531535 : Int32) * (-1640531535 : Int32)) * (-1640531535 : Int32))), .unset, .unset] [(.int (1 : Int32)), (.int (1 : Int32))]))
      refine go (fun t kt => XS.icmpNo X28.here hx rfl (hb hby at_99) rfl (teq (by decide : ((1 : Int32) = (1 : Int32)))).2 kt) ?_
      show Goes p.tables e below _ (T28.setTop (mkF m 102 #[.val (.int p0), .val (.int p1), .val (.int p2), .val (.int p3), .val (.int p4), .val (.int (1 : Int32)), .val (.int (1 : Int32)), .val (.ref b24), .val (.int (-1640531535 : Int32)), .val (.int ((-1640531535 : Int32) * (-1640531535 : Int32))), .val (.int (((-1640531535 : Int32) * (-1640531535 : Int32)) * (-1640531535 : Int32))), .unset, .unset] []))
      refine go (fun t kt => XS.iloadN X28.here hx rfl (hb hby at_102) rfl kt) ?_
      show Goes p.tables e below _ (T28.setTop (mkF m 103 #[.val (.int p0), .val (.int p1), .val (.int p2), .val (.int p3), .val (.int p4), .val (.int (1 : Int32)), .val (.int (1 : Int32)), .val (.ref b24), .val (.int (-1640531535 : Int32)), .val (.int ((-1640531535 : Int32) * (-1640531535 : Int32))), .val (.int (((-1640531535 : Int32) * (-1640531535 : Int32)) * (-1640531535 : Int32))), .unset, .unset] [(.int p0)]))
      refine go (fun t kt => XS.iload X28.here hx rfl (hb hby at_103) rfl kt) ?_
      show Goes p.tables e below _ (T28.setTop (mkF m 105 #[.val (.int p0), .val (.int p1), .val (.int p2), .val (.int p3), .val (.int p4), .val (.int (1 : Int32)), .val (.int (1 : Int32)), .val (.ref b24), .val (.int (-1640531535 : Int32)), .val (.int ((-1640531535 : Int32) * (-1640531535 : Int32))), .val (.int (((-1640531535 : Int32) * (-1640531535 : Int32)) * (-1640531535 : Int32))), .unset, .unset] [(.int (-1640531535 : Int32)), (.int p0)]))
      refine go (fun t kt => XS.imul X28.here hx rfl (hb hby at_105) rfl kt) ?_
      show Goes p.tables e below _ (T28.setTop (mkF m 106 #[.val (.int p0), .val (.int p1), .val (.int p2), .val (.int p3), .val (.int p4), .val (.int (1 : Int32)), .val (.int (1 : Int32)), .val (.ref b24), .val (.int (-1640531535 : Int32)), .val (.int ((-1640531535 : Int32) * (-1640531535 : Int32))), .val (.int (((-1640531535 : Int32) * (-1640531535 : Int32)) * (-1640531535 : Int32))), .unset, .unset] [(.int (p0 * (-1640531535 : Int32)))]))
      refine go (fun t kt => XS.istore X28.here hx rfl (hb hby at_106) rfl (l' := #[.val (.int p0), .val (.int p1), .val (.int p2), .val (.int p3), .val (.int p4), .val (.int (1 : Int32)), .val (.int (1 : Int32)), .val (.ref b24), .val (.int (-1640531535 : Int32)), .val (.int ((-1640531535 : Int32) * (-1640531535 : Int32))), .val (.int (((-1640531535 : Int32) * (-1640531535 : Int32)) * (-1640531535 : Int32))), .val (.int (p0 * (-1640531535 : Int32))), .unset]) rfl kt) ?_
      show Goes p.tables e below _ (T28.setTop (mkF m 108 #[.val (.int p0), .val (.int p1), .val (.int p2), .val (.int p3), .val (.int p4), .val (.int (1 : Int32)), .val (.int (1 : Int32)), .val (.ref b24), .val (.int (-1640531535 : Int32)), .val (.int ((-1640531535 : Int32) * (-1640531535 : Int32))), .val (.int (((-1640531535 : Int32) * (-1640531535 : Int32)) * (-1640531535 : Int32))), .val (.int (p0 * (-1640531535 : Int32))), .unset] []))
      refine go (fun t kt => XS.goto X28.here hx rfl (pc0 := 108) (pc' := 147) rfl (hb hby at_108) (by decide) (by decide) kt) ?_
      show Goes p.tables e below _ (T28.setTop (mkF m 147 #[.val (.int p0), .val (.int p1), .val (.int p2), .val (.int p3), .val (.int p4), .val (.int (1 : Int32)), .val (.int (1 : Int32)), .val (.ref b24), .val (.int (-1640531535 : Int32)), .val (.int ((-1640531535 : Int32) * (-1640531535 : Int32))), .val (.int (((-1640531535 : Int32) * (-1640531535 : Int32)) * (-1640531535 : Int32))), .val (.int (p0 * (-1640531535 : Int32))), .unset] []))
      refine go (fun t kt => XS.iload X28.here hx rfl (hb hby at_147) rfl kt) ?_
      show Goes p.tables e below _ (T28.setTop (mkF m 149 #[.val (.int p0), .val (.int p1), .val (.int p2), .val (.int p3), .val (.int p4), .val (.int (1 : Int32)), .val (.int (1 : Int32)), .val (.ref b24), .val (.int (-1640531535 : Int32)), .val (.int ((-1640531535 : Int32) * (-1640531535 : Int32))), .val (.int (((-1640531535 : Int32) * (-1640531535 : Int32)) * (-1640531535 : Int32))), .val (.int (p0 * (-1640531535 : Int32))), .unset] [(.int (p0 * (-1640531535 : Int32)))]))
      refine go (fun t kt => XS.iload X28.here hx rfl (hb hby at_149) rfl kt) ?_
      show Goes p.tables e below _ (T28.setTop (mkF m 151 #[.val (.int p0), .val (.int p1), .val (.int p2), .val (.int p3), .val (.int p4), .val (.int (1 : Int32)), .val (.int (1 : Int32)), .val (.ref b24), .val (.int (-1640531535 : Int32)), .val (.int ((-1640531535 : Int32) * (-1640531535 : Int32))), .val (.int (((-1640531535 : Int32) * (-1640531535 : Int32)) * (-1640531535 : Int32))), .val (.int (p0 * (-1640531535 : Int32))), .unset] [(.int (p0 * (-1640531535 : Int32))), (.int (p0 * (-1640531535 : Int32)))]))
      refine go (fun t kt => XS.bipush X28.here hx rfl (hb hby at_151) kt) ?_
      show Goes p.tables e below _ (T28.setTop (mkF m 153 #[.val (.int p0), .val (.int p1), .val (.int p2), .val (.int p3), .val (.int p4), .val (.int (1 : Int32)), .val (.int (1 : Int32)), .val (.ref b24), .val (.int (-1640531535 : Int32)), .val (.int ((-1640531535 : Int32) * (-1640531535 : Int32))), .val (.int (((-1640531535 : Int32) * (-1640531535 : Int32)) * (-1640531535 : Int32))), .val (.int (p0 * (-1640531535 : Int32))), .unset] [(.int (16 : Int32)), (.int (p0 * (-1640531535 : Int32))), (.int (p0 * (-1640531535 : Int32)))]))
      refine go (fun t kt => XS.iushr X28.here hx rfl (hb hby at_153) rfl kt) ?_
      show Goes p.tables e below _ (T28.setTop (mkF m 154 #[.val (.int p0), .val (.int p1), .val (.int p2), .val (.int p3), .val (.int p4), .val (.int (1 : Int32)), .val (.int (1 : Int32)), .val (.ref b24), .val (.int (-1640531535 : Int32)), .val (.int ((-1640531535 : Int32) * (-1640531535 : Int32))), .val (.int (((-1640531535 : Int32) * (-1640531535 : Int32)) * (-1640531535 : Int32))), .val (.int (p0 * (-1640531535 : Int32))), .unset] [(.int (((p0 * (-1640531535 : Int32)).toUInt32 >>> ((16 : Int32) &&& 31).toUInt32).toInt32)), (.int (p0 * (-1640531535 : Int32)))]))
      refine go (fun t kt => XS.ixor X28.here hx rfl (hb hby at_154) rfl kt) ?_
      show Goes p.tables e below _ (T28.setTop (mkF m 155 #[.val (.int p0), .val (.int p1), .val (.int p2), .val (.int p3), .val (.int p4), .val (.int (1 : Int32)), .val (.int (1 : Int32)), .val (.ref b24), .val (.int (-1640531535 : Int32)), .val (.int ((-1640531535 : Int32) * (-1640531535 : Int32))), .val (.int (((-1640531535 : Int32) * (-1640531535 : Int32)) * (-1640531535 : Int32))), .val (.int (p0 * (-1640531535 : Int32))), .unset] [(.int ((p0 * (-1640531535 : Int32)) ^^^ (((p0 * (-1640531535 : Int32)).toUInt32 >>> ((16 : Int32) &&& 31).toUInt32).toInt32)))]))
      refine go (fun t kt => XS.istore X28.here hx rfl (hb hby at_155) rfl (l' := #[.val (.int p0), .val (.int p1), .val (.int p2), .val (.int p3), .val (.int p4), .val (.int (1 : Int32)), .val (.int (1 : Int32)), .val (.ref b24), .val (.int (-1640531535 : Int32)), .val (.int ((-1640531535 : Int32) * (-1640531535 : Int32))), .val (.int (((-1640531535 : Int32) * (-1640531535 : Int32)) * (-1640531535 : Int32))), .val (.int (p0 * (-1640531535 : Int32))), .val (.int ((p0 * (-1640531535 : Int32)) ^^^ (((p0 * (-1640531535 : Int32)).toUInt32 >>> ((16 : Int32) &&& 31).toUInt32).toInt32)))]) rfl kt) ?_
      show Goes p.tables e below _ (T28.setTop (mkF m 157 #[.val (.int p0), .val (.int p1), .val (.int p2), .val (.int p3), .val (.int p4), .val (.int (1 : Int32)), .val (.int (1 : Int32)), .val (.ref b24), .val (.int (-1640531535 : Int32)), .val (.int ((-1640531535 : Int32) * (-1640531535 : Int32))), .val (.int (((-1640531535 : Int32) * (-1640531535 : Int32)) * (-1640531535 : Int32))), .val (.int (p0 * (-1640531535 : Int32))), .val (.int ((p0 * (-1640531535 : Int32)) ^^^ (((p0 * (-1640531535 : Int32)).toUInt32 >>> ((16 : Int32) &&& 31).toUInt32).toInt32)))] []))
      refine go (fun t kt => XS.aload X28.here hx rfl (hb hby at_157) rfl rfl kt) ?_
      show Goes p.tables e below _ (T28.setTop (mkF m 159 #[.val (.int p0), .val (.int p1), .val (.int p2), .val (.int p3), .val (.int p4), .val (.int (1 : Int32)), .val (.int (1 : Int32)), .val (.ref b24), .val (.int (-1640531535 : Int32)), .val (.int ((-1640531535 : Int32) * (-1640531535 : Int32))), .val (.int (((-1640531535 : Int32) * (-1640531535 : Int32)) * (-1640531535 : Int32))), .val (.int (p0 * (-1640531535 : Int32))), .val (.int ((p0 * (-1640531535 : Int32)) ^^^ (((p0 * (-1640531535 : Int32)).toUInt32 >>> ((16 : Int32) &&& 31).toUInt32).toInt32)))] [(.ref b24)]))
      refine go (fun t kt => XS.iload X28.here hx rfl (hb hby at_159) rfl kt) ?_
      show Goes p.tables e below _ (T28.setTop (mkF m 161 #[.val (.int p0), .val (.int p1), .val (.int p2), .val (.int p3), .val (.int p4), .val (.int (1 : Int32)), .val (.int (1 : Int32)), .val (.ref b24), .val (.int (-1640531535 : Int32)), .val (.int ((-1640531535 : Int32) * (-1640531535 : Int32))), .val (.int (((-1640531535 : Int32) * (-1640531535 : Int32)) * (-1640531535 : Int32))), .val (.int (p0 * (-1640531535 : Int32))), .val (.int ((p0 * (-1640531535 : Int32)) ^^^ (((p0 * (-1640531535 : Int32)).toUInt32 >>> ((16 : Int32) &&& 31).toUInt32).toInt32)))] [(.int (1 : Int32)), (.ref b24)]))
      refine go (fun t kt => XS.iload X28.here hx rfl (hb hby at_161) rfl kt) ?_
      show Goes p.tables e below _ (T28.setTop (mkF m 163 #[.val (.int p0), .val (.int p1), .val (.int p2), .val (.int p3), .val (.int p4), .val (.int (1 : Int32)), .val (.int (1 : Int32)), .val (.ref b24), .val (.int (-1640531535 : Int32)), .val (.int ((-1640531535 : Int32) * (-1640531535 : Int32))), .val (.int (((-1640531535 : Int32) * (-1640531535 : Int32)) * (-1640531535 : Int32))), .val (.int (p0 * (-1640531535 : Int32))), .val (.int ((p0 * (-1640531535 : Int32)) ^^^ (((p0 * (-1640531535 : Int32)).toUInt32 >>> ((16 : Int32) &&& 31).toUInt32).toInt32)))] [(.int (1 : Int32)), (.int (1 : Int32)), (.ref b24)]))
      obtain ⟨_, _, ⟨T29, L29, k29, n29⟩, -, X29, ⟨Lc29, hQ29, l29, y29, z29⟩, st29⟩ := Jvm.LawKit.callS X28 hx (y := (⟨"com/example/limpet/limpet/model/NodeLabel", "hashOf", "([III)I"⟩ : MethodName)) hown (mvT hZ (hw _ (List.mem_of_getElem? (i := 2) rfl))) (mvT hZ (hw _ (List.mem_of_getElem? (i := 3) rfl))) (mvT hZ (hw _ (List.mem_of_getElem? (i := 4) rfl))) (mvT hZ (hw _ (List.mem_of_getElem? (i := 5) rfl))) (by decide) (backOf (W := 0) (rmh11 l Z a0 hw [] b24 k24 p3 p0 p1 p2 h28 n0 Zz28 V_b24) hZ (hw _ (List.mem_of_getElem? (i := 5) rfl)) (hw _ (List.mem_of_getElem? (i := 4) rfl)) (by decide) (by decide)) (g := (mkF m 163 #[.val (.int p0), .val (.int p1), .val (.int p2), .val (.int p3), .val (.int p4), .val (.int (1 : Int32)), .val (.int (1 : Int32)), .val (.ref b24), .val (.int (-1640531535 : Int32)), .val (.int ((-1640531535 : Int32) * (-1640531535 : Int32))), .val (.int (((-1640531535 : Int32) * (-1640531535 : Int32)) * (-1640531535 : Int32))), .val (.int (p0 * (-1640531535 : Int32))), .val (.int ((p0 * (-1640531535 : Int32)) ^^^ (((p0 * (-1640531535 : Int32)).toUInt32 >>> ((16 : Int32) &&& 31).toUInt32).toInt32)))] [(.int (1 : Int32)), (.int (1 : Int32)), (.ref b24)])) rfl (by rw [hml]; rfl) (argsL := [(.ref b24), (.int (1 : Int32)), (.int (1 : Int32))]) (rest := []) (lenOf pd_0 rfl) rfl (by show 2 * 0 + _ ≤ _; exact Nat.le_of_eq rfl) (hb hby at_163) (fun _ _ => ⟨rfl, e28, (by decide : 1 + 0 ≤ _), (by decide : 4 + 0 ≤ _)⟩)
      dsimp only [Pt.U, Pt.locs, Pt.cells, Pt.slots] at X29 l29 y29 z29 st29 hQ29
      subst l29 y29 z29
      obtain ⟨rfl, Nq29, e29⟩ := hQ29
      have N29 := Fr.app N28 Nq29
      refine go st29 ?_
      show Goes p.tables e below _ (T29.setTop (mkF m 166 #[.val (.int p0), .val (.int p1), .val (.int p2), .val (.int p3), .val (.int p4), .val (.int (1 : Int32)), .val (.int (1 : Int32)), .val (.ref b24), .val (.int (-1640531535 : Int32)), .val (.int ((-1640531535 : Int32) * (-1640531535 : Int32))), .val (.int (((-1640531535 : Int32) * (-1640531535 : Int32)) * (-1640531535 : Int32))), .val (.int (p0 * (-1640531535 : Int32))), .val (.int ((p0 * (-1640531535 : Int32)) ^^^ (((p0 * (-1640531535 : Int32)).toUInt32 >>> ((16 : Int32) &&& 31).toUInt32).toInt32)))] [(.int (own_h11 p0))]))
      refine go (fun t kt => XS.iload X29.here hx rfl (hb hby at_166) rfl kt) ?_
      show Goes p.tables e below _ (T29.setTop (mkF m 168 #[.val (.int p0), .val (.int p1), .val (.int p2), .val (.int p3), .val (.int p4), .val (.int (1 : Int32)), .val (.int (1 : Int32)), .val (.ref b24), .val (.int (-1640531535 : Int32)), .val (.int ((-1640531535 : Int32) * (-1640531535 : Int32))), .val (.int (((-1640531535 : Int32) * (-1640531535 : Int32)) * (-1640531535 : Int32))), .val (.int (p0 * (-1640531535 : Int32))), .val (.int ((p0 * (-1640531535 : Int32)) ^^^ (((p0 * (-1640531535 : Int32)).toUInt32 >>> ((16 : Int32) &&& 31).toUInt32).toInt32)))] [(.int ((p0 * (-1640531535 : Int32)) ^^^ (((p0 * (-1640531535 : Int32)).toUInt32 >>> ((16 : Int32) &&& 31).toUInt32).toInt32))), (.int (own_h11 p0))]))
      refine go (fun t kt => XS.icmpNo X29.here hx rfl (hb hby at_168) rfl (teq (by unfold own_h11; rw [own_e1])).2 kt) ?_
      show Goes p.tables e below _ (T29.setTop (mkF m 171 #[.val (.int p0), .val (.int p1), .val (.int p2), .val (.int p3), .val (.int p4), .val (.int (1 : Int32)), .val (.int (1 : Int32)), .val (.ref b24), .val (.int (-1640531535 : Int32)), .val (.int ((-1640531535 : Int32) * (-1640531535 : Int32))), .val (.int (((-1640531535 : Int32) * (-1640531535 : Int32)) * (-1640531535 : Int32))), .val (.int (p0 * (-1640531535 : Int32))), .val (.int ((p0 * (-1640531535 : Int32)) ^^^ (((p0 * (-1640531535 : Int32)).toUInt32 >>> ((16 : Int32) &&& 31).toUInt32).toInt32)))] []))
      refine go (fun t kt => XS.iconst X29.here hx rfl (hb hby at_171) kt) ?_
      show Goes p.tables e below _ (T29.setTop (mkF m 172 #[.val (.int p0), .val (.int p1), .val (.int p2), .val (.int p3), .val (.int p4), .val (.int (1 : Int32)), .val (.int (1 : Int32)), .val (.ref b24), .val (.int (-1640531535 : Int32)), .val (.int ((-1640531535 : Int32) * (-1640531535 : Int32))), .val (.int (((-1640531535 : Int32) * (-1640531535 : Int32)) * (-1640531535 : Int32))), .val (.int (p0 * (-1640531535 : Int32))), .val (.int ((p0 * (-1640531535 : Int32)) ^^^ (((p0 * (-1640531535 : Int32)).toUInt32 >>> ((16 : Int32) &&& 31).toUInt32).toInt32)))] [(.int (1 : Int32))]))
      refine go (fun t kt => XS.goto X29.here hx rfl (pc0 := 172) (pc' := 176) rfl (hb hby at_172) (by decide) (by decide) kt) ?_
      show Goes p.tables e below _ (T29.setTop (mkF m 176 #[.val (.int p0), .val (.int p1), .val (.int p2), .val (.int p3), .val (.int p4), .val (.int (1 : Int32)), .val (.int (1 : Int32)), .val (.ref b24), .val (.int (-1640531535 : Int32)), .val (.int ((-1640531535 : Int32) * (-1640531535 : Int32))), .val (.int (((-1640531535 : Int32) * (-1640531535 : Int32)) * (-1640531535 : Int32))), .val (.int (p0 * (-1640531535 : Int32))), .val (.int ((p0 * (-1640531535 : Int32)) ^^^ (((p0 * (-1640531535 : Int32)).toUInt32 >>> ((16 : Int32) &&& 31).toUInt32).toInt32)))] [(.int (1 : Int32))]))
      obtain ⟨fs, hr, hrun, hended, hW, hsame⟩ := X29.leave (v := some (.int (1 : Int32))) (fun h => by rw [Bd.returns] at h; cases h)
      refine ⟨_, _, retN X29 hx (t := .boolean) Bd.returns (by simp) (hb hby at_176) hr, hrun, hended, _, _, rfl, ?_, ⟨_, rfl⟩, hW, hsame.mono (by decide) (by decide)⟩
      show Q0 Z p0 p1 p2 p3 p4 h0 n0 _ T29.heap _
      rw [e29]
      exact ⟨rfl, N29⟩
  ·
    rw [hk1]
    rcases own_c2 ((p4.toUInt32 >>> ((2 : Int32) &&& 31).toUInt32).toInt32) with hj2 | hj2
    ·
      rw [hj2]
      show Goes p.tables e below _ (s₁.setTop (mkF m 14 #[.val (.int p0), .val (.int p1), .val (.int p2), .val (.int p3), .val (.int p4), .val (.int (2 : Int32)), .val (.int (0 : Int32)), .unset, .unset, .unset, .unset, .unset, .unset] []))
      refine go (fun t kt => XS.iconst X0.here hx rfl (hb hby at_14) kt) ?_
      show Goes p.tables e below _ (s₁.setTop (mkF m 15 #[.val (.int p0), .val (.int p1), .val (.int p2), .val (.int p3), .val (.int p4), .val (.int (2 : Int32)), .val (.int (0 : Int32)), .unset, .unset, .unset, .unset, .unset, .unset] [(.int (4 : Int32))]))
      obtain ⟨T31, h31, k31, X31, e31, E31, A31, st31⟩ := newP X0 hx hZ (hw _ (List.mem_of_getElem? (i := 0) rfl)) e0 (g := (mkF m 15 #[.val (.int p0), .val (.int p1), .val (.int p2), .val (.int p3), .val (.int p4), .val (.int (2 : Int32)), .val (.int (0 : Int32)), .unset, .unset, .unset, .unset, .unset, .unset] [(.int (4 : Int32))])) rfl (hb hby at_15) rfl (by decide) (cap := 4) (by decide) (by decide) (by decide) (by decide)
      obtain ⟨b31, g31⟩ : ∃ z, z = h0.size := ⟨_, rfl⟩
      rw [← g31] at A31 st31
      have g_b31 : n0 ≤ b31 := Nat.le_trans Z0 (Nat.le_of_eq g31.symm)
      have sz_b31 : h0.size ≤ b31 := Nat.le_trans K0.1 (Nat.le_of_eq g31.symm)
      have Zz31 := Nat.le_trans Z0 E31.1
      have Kk31 := K0.ext E31
      have V_b31 : Arv Z h31 b31 k31 .int (4 : Int32) [(.int (0 : Int32)), (.int (0 : Int32)), (.int (0 : Int32)), (.int (0 : Int32))] (.int (0 : Int32)) := (Arv.new A31 (by decide)).pad (pad_rep [] (.int (0 : Int32)) 4)
      refine go st31 ?_
      show Goes p.tables e below _ (T31.setTop (mkF m 17 #[.val (.int p0), .val (.int p1), .val (.int p2), .val (.int p3), .val (.int p4), .val (.int (2 : Int32)), .val (.int (0 : Int32)), .unset, .unset, .unset, .unset, .unset, .unset] [(.ref b31)]))
      refine go (fun t kt => XS.astore X31.here hx rfl (hb hby at_17) rfl rfl (l' := #[.val (.int p0), .val (.int p1), .val (.int p2), .val (.int p3), .val (.int p4), .val (.int (2 : Int32)), .val (.int (0 : Int32)), .val (.ref b31), .unset, .unset, .unset, .unset, .unset]) rfl kt) ?_
      show Goes p.tables e below _ (T31.setTop (mkF m 19 #[.val (.int p0), .val (.int p1), .val (.int p2), .val (.int p3), .val (.int p4), .val (.int (2 : Int32)), .val (.int (0 : Int32)), .val (.ref b31), .unset, .unset, .unset, .unset, .unset] []))
      refine go (fun t kt => XS.iload X31.here hx rfl (hb hby at_19) rfl kt) ?_
      show Goes p.tables e below _ (T31.setTop (mkF m 21 #[.val (.int p0), .val (.int p1), .val (.int p2), .val (.int p3), .val (.int p4), .val (.int (2 : Int32)), .val (.int (0 : Int32)), .val (.ref b31), .unset, .unset, .unset, .unset, .unset] [(.int (0 : Int32))]))
      refine go (fun t kt => XS.ifNo X31.here hx rfl (hb hby at_21) rfl ((if0 _ _).trans (teq (by decide : ((0 : Int32) = (0 : Int32)))).2) kt) ?_
      show Goes p.tables e below _ (T31.setTop (mkF m 24 #[.val (.int p0), .val (.int p1), .val (.int p2), .val (.int p3), .val (.int p4), .val (.int (2 : Int32)), .val (.int (0 : Int32)), .val (.ref b31), .unset, .unset, .unset, .unset, .unset] []))
      refine go (fun t kt => XS.aload X31.here hx rfl (hb hby at_24) rfl rfl kt) ?_
      show Goes p.tables e below _ (T31.setTop (mkF m 26 #[.val (.int p0), .val (.int p1), .val (.int p2), .val (.int p3), .val (.int p4), .val (.int (2 : Int32)), .val (.int (0 : Int32)), .val (.ref b31), .unset, .unset, .unset, .unset, .unset] [(.ref b31)]))
      refine go (fun t kt => XS.iconst X31.here hx rfl (hb hby at_26) kt) ?_
      show Goes p.tables e below _ (T31.setTop (mkF m 27 #[.val (.int p0), .val (.int p1), .val (.int p2), .val (.int p3), .val (.int p4), .val (.int (2 : Int32)), .val (.int (0 : Int32)), .val (.ref b31), .unset, .unset, .unset, .unset, .unset] [(.int (0 : Int32)), (.ref b31)]))
      refine go (fun t kt => XS.iloadN X31.here hx rfl (hb hby at_27) rfl kt) ?_
      show Goes p.tables e below _ (T31.setTop (mkF m 28 #[.val (.int p0), .val (.int p1), .val (.int p2), .val (.int p3), .val (.int p4), .val (.int (2 : Int32)), .val (.int (0 : Int32)), .val (.ref b31), .unset, .unset, .unset, .unset, .unset] [(.int p0), (.int (0 : Int32)), (.ref b31)]))
      obtain ⟨cl32, Ar32, q32, S32, M32, H32, G32⟩ := V_b31
      have hin32 : ¬ ((0 : Int32) < 0 ∨ cl32.slots.size ≤ ((0 : Int32)).toNatClampNeg) := inb_of S32 ⟨by decide, by decide⟩
      obtain ⟨T32, h32, X32, e32, W32, st32⟩ := stI X31 hx hZ e31 Ar32 (j := (0 : Int32)) hin32 (g := (mkF m 28 #[.val (.int p0), .val (.int p1), .val (.int p2), .val (.int p3), .val (.int p4), .val (.int (2 : Int32)), .val (.int (0 : Int32)), .val (.ref b31), .unset, .unset, .unset, .unset, .unset] [(.int p0), (.int (0 : Int32)), (.ref b31)])) rfl rfl (hb hby at_28)
      have V_b31 : Arv Z h32 b31 k31 .int (4 : Int32) [(.int p0), (.int (0 : Int32)), (.int (0 : Int32)), (.int (0 : Int32))] (.int (0 : Int32)) := Arv.set Ar32 q32 S32 M32 H32 G32 rfl W32 0 rfl (Nat.le_of_ble_eq_true rfl)
      have Zz32 := Nat.le_trans Zz31 (Keep.of_wr W32).1
      have Kk32 := Kk31.wr W32 (Or.inr sz_b31)
      have N32 := Fr.snoc X32 N0 g_b31
      refine go st32 ?_
      show Goes p.tables e below _ (T32.setTop (mkF m 29 #[.val (.int p0), .val (.int p1), .val (.int p2), .val (.int p3), .val (.int p4), .val (.int (2 : Int32)), .val (.int (0 : Int32)), .val (.ref b31), .unset, .unset, .unset, .unset, .unset] []))
      refine go (fun t kt => XS.aload X32.here hx rfl (hb hby at_29) rfl rfl kt) ?_
      show Goes p.tables e below _ (T32.setTop (mkF m 31 #[.val (.int p0), .val (.int p1), .val (.int p2), .val (.int p3), .val (.int p4), .val (.int (2 : Int32)), .val (.int (0 : Int32)), .val (.ref b31), .unset, .unset, .unset, .unset, .unset] [(.ref b31)]))
      refine go (fun t kt => XS.iconst X32.here hx rfl (hb hby at_31) kt) ?_
      show Goes p.tables e below _ (T32.setTop (mkF m 32 #[.val (.int p0), .val (.int p1), .val (.int p2), .val (.int p3), .val (.int p4), .val (.int (2 : Int32)), .val (.int (0 : Int32)), .val (.ref b31), .unset, .unset, .unset, .unset, .unset] [(.int (1 : Int32)), (.ref b31)]))
      refine go (fun t kt => XS.iloadN X32.here hx rfl (hb hby at_32) rfl kt) ?_
      show Goes p.tables e below _ (T32.setTop (mkF m 33 #[.val (.int p0), .val (.int p1), .val (.int p2), .val (.int p3), .val (.int p4), .val (.int (2 : Int32)), .val (.int (0 : Int32)), .val (.ref b31), .unset, .unset, .unset, .unset, .unset] [(.int p1), (.int (1 : Int32)), (.ref b31)]))
      obtain ⟨cl33, Ar33, q33, S33, M33, H33, G33⟩ := V_b31
      have hin33 : ¬ ((1 : Int32) < 0 ∨ cl33.slots.size ≤ ((1 : Int32)).toNatClampNeg) := inb_of S33 ⟨by decide, by decide⟩
      obtain ⟨T33, h33, X33, e33, W33, st33⟩ := stI X32 hx hZ e32 Ar33 (j := (1 : Int32)) hin33 (g := (mkF m 33 #[.val (.int p0), .val (.int p1), .val (.int p2), .val (.int p3), .val (.int p4), .val (.int (2 : Int32)), .val (.int (0 : Int32)), .val (.ref b31), .unset, .unset, .unset, .unset, .unset] [(.int p1), (.int (1 : Int32)), (.ref b31)])) rfl rfl (hb hby at_33)
      have V_b31 : Arv Z h33 b31 k31 .int (4 : Int32) [(.int p0), (.int p1), (.int (0 : Int32)), (.int (0 : Int32))] (.int (0 : Int32)) := Arv.set Ar33 q33 S33 M33 H33 G33 rfl W33 1 rfl (Nat.le_of_ble_eq_true rfl)
      have Zz33 := Nat.le_trans Zz32 (Keep.of_wr W33).1
      have Kk33 := Kk32.wr W33 (Or.inr sz_b31)
      have N33 := Fr.snoc X33 N32 g_b31
      refine go st33 ?_
      show Goes p.tables e below _ (T33.setTop (mkF m 34 #[.val (.int p0), .val (.int p1), .val (.int p2), .val (.int p3), .val (.int p4), .val (.int (2 : Int32)), .val (.int (0 : Int32)), .val (.ref b31), .unset, .unset, .unset, .unset, .unset] []))
      refine go (fun t kt => XS.aload X33.here hx rfl (hb hby at_34) rfl rfl kt) ?_
      show Goes p.tables e below _ (T33.setTop (mkF m 36 #[.val (.int p0), .val (.int p1), .val (.int p2), .val (.int p3), .val (.int p4), .val (.int (2 : Int32)), .val (.int (0 : Int32)), .val (.ref b31), .unset, .unset, .unset, .unset, .unset] [(.ref b31)]))
      refine go (fun t kt => XS.iconst X33.here hx rfl (hb hby at_36) kt) ?_
      show Goes p.tables e below _ (T33.setTop (mkF m 37 #[.val (.int p0), .val (.int p1), .val (.int p2), .val (.int p3), .val (.int p4), .val (.int (2 : Int32)), .val (.int (0 : Int32)), .val (.ref b31), .unset, .unset, .unset, .unset, .unset] [(.int (2 : Int32)), (.ref b31)]))
      refine go (fun t kt => XS.iloadN X33.here hx rfl (hb hby at_37) rfl kt) ?_
      show Goes p.tables e below _ (T33.setTop (mkF m 38 #[.val (.int p0), .val (.int p1), .val (.int p2), .val (.int p3), .val (.int p4), .val (.int (2 : Int32)), .val (.int (0 : Int32)), .val (.ref b31), .unset, .unset, .unset, .unset, .unset] [(.int p2), (.int (2 : Int32)), (.ref b31)]))
      obtain ⟨cl34, Ar34, q34, S34, M34, H34, G34⟩ := V_b31
      have hin34 : ¬ ((2 : Int32) < 0 ∨ cl34.slots.size ≤ ((2 : Int32)).toNatClampNeg) := inb_of S34 ⟨by decide, by decide⟩
      obtain ⟨T34, h34, X34, e34, W34, st34⟩ := stI X33 hx hZ e33 Ar34 (j := (2 : Int32)) hin34 (g := (mkF m 38 #[.val (.int p0), .val (.int p1), .val (.int p2), .val (.int p3), .val (.int p4), .val (.int (2 : Int32)), .val (.int (0 : Int32)), .val (.ref b31), .unset, .unset, .unset, .unset, .unset] [(.int p2), (.int (2 : Int32)), (.ref b31)])) rfl rfl (hb hby at_38)
      have V_b31 : Arv Z h34 b31 k31 .int (4 : Int32) [(.int p0), (.int p1), (.int p2), (.int (0 : Int32))] (.int (0 : Int32)) := Arv.set Ar34 q34 S34 M34 H34 G34 rfl W34 2 rfl (Nat.le_of_ble_eq_true rfl)
      have Zz34 := Nat.le_trans Zz33 (Keep.of_wr W34).1
      have Kk34 := Kk33.wr W34 (Or.inr sz_b31)
      have N34 := Fr.snoc X34 N33 g_b31
      refine go st34 ?_
      show Goes p.tables e below _ (T34.setTop (mkF m 39 #[.val (.int p0), .val (.int p1), .val (.int p2), .val (.int p3), .val (.int p4), .val (.int (2 : Int32)), .val (.int (0 : Int32)), .val (.ref b31), .unset, .unset, .unset, .unset, .unset] []))
      refine go (fun t kt => XS.aload X34.here hx rfl (hb hby at_39) rfl rfl kt) ?_
      show Goes p.tables e below _ (T34.setTop (mkF m 41 #[.val (.int p0), .val (.int p1), .val (.int p2), .val (.int p3), .val (.int p4), .val (.int (2 : Int32)), .val (.int (0 : Int32)), .val (.ref b31), .unset, .unset, .unset, .unset, .unset] [(.ref b31)]))
      refine go (fun t kt => XS.iconst X34.here hx rfl (hb hby at_41) kt) ?_
      show Goes p.tables e below _ (T34.setTop (mkF m 42 #[.val (.int p0), .val (.int p1), .val (.int p2), .val (.int p3), .val (.int p4), .val (.int (2 : Int32)), .val (.int (0 : Int32)), .val (.ref b31), .unset, .unset, .unset, .unset, .unset] [(.int (3 : Int32)), (.ref b31)]))
      refine go (fun t kt => XS.iloadN X34.here hx rfl (hb hby at_42) rfl kt) ?_
      show Goes p.tables e below _ (T34.setTop (mkF m 43 #[.val (.int p0), .val (.int p1), .val (.int p2), .val (.int p3), .val (.int p4), .val (.int (2 : Int32)), .val (.int (0 : Int32)), .val (.ref b31), .unset, .unset, .unset, .unset, .unset] [(.int p3), (.int (3 : Int32)), (.ref b31)]))
      obtain ⟨cl35, Ar35, q35, S35, M35, H35, G35⟩ := V_b31
      have hin35 : ¬ ((3 : Int32) < 0 ∨ cl35.slots.size ≤ ((3 : Int32)).toNatClampNeg) := inb_of S35 ⟨by decide, by decide⟩
      obtain ⟨T35, h35, X35, e35, W35, st35⟩ := stI X34 hx hZ e34 Ar35 (j := (3 : Int32)) hin35 (g := (mkF m 43 #[.val (.int p0), .val (.int p1), .val (.int p2), .val (.int p3), .val (.int p4), .val (.int (2 : Int32)), .val (.int (0 : Int32)), .val (.ref b31), .unset, .unset, .unset, .unset, .unset] [(.int p3), (.int (3 : Int32)), (.ref b31)])) rfl rfl (hb hby at_43)
      have V_b31 : Arv Z h35 b31 k31 .int (4 : Int32) [(.int p0), (.int p1), (.int p2), (.int p3)] (.int (0 : Int32)) := Arv.set Ar35 q35 S35 M35 H35 G35 rfl W35 3 rfl (Nat.le_of_ble_eq_true rfl)
      have Zz35 := Nat.le_trans Zz34 (Keep.of_wr W35).1
      have Kk35 := Kk34.wr W35 (Or.inr sz_b31)
      have N35 := Fr.snoc X35 N34 g_b31
      refine go st35 ?_
      show Goes p.tables e below _ (T35.setTop (mkF m 44 #[.val (.int p0), .val (.int p1), .val (.int p2), .val (.int p3), .val (.int p4), .val (.int (2 : Int32)), .val (.int (0 : Int32)), .val (.ref b31), .unset, .unset, .unset, .unset, .unset] []))
      refine go (fun t kt => XS.goto X35.here hx rfl (pc0 := 44) (pc' := 67) rfl (hb hby at_44) (by decide) (by decide) kt) ?_
      show Goes p.tables e below _ (T35.setTop (mkF m 67 #[.val (.int p0), .val (.int p1), .val (.int p2), .val (.int p3), .val (.int p4), .val (.int (2 : Int32)), .val (.int (0 : Int32)), .val (.ref b31), .unset, .unset, .unset, .unset, .unset] []))
      refine go (X35.ldcInt hx hown (mvT hZ (hw _ (List.mem_of_getElem? (i := 1) rfl))) (g := (mkF m 67 #[.val (.int p0), .val (.int p1), .val (.int p2), .val (.int p3), .val (.int p4), .val (.int (2 : Int32)), .val (.int (0 : Int32)), .val (.ref b31), .unset, .unset, .unset, .unset, .unset] [])) rfl (hb hby at_67)) ?_
      show Goes p.tables e below _ (T35.setTop (mkF m 69 #[.val (.int p0), .val (.int p1), .val (.int p2), .val (.int p3), .val (.int p4), .val (.int (2 : Int32)), .val (.int (0 : Int32)), .val (.ref b31), .unset, .unset, .unset, .unset, .unset] [(.int (-1640531535 : Int32))]))
      refine go (fun t kt => XS.istore X35.here hx rfl (hb hby at_69) rfl (l' := #[.val (.int p0), .val (.int p1), .val (.int p2), .val (.int p3), .val (.int p4), .val (.int (2 : Int32)), .val (.int (0 : Int32)), .val (.ref b31), .val (.int (-1640531535 : Int32)), .unset, .unset, .unset, .unset]) rfl kt) ?_
      show Goes p.tables e below _ (T35.setTop (mkF m 71 #[.val (.int p0), .val (.int p1), .val (.int p2), .val (.int p3), .val (.int p4), .val (.int (2 : Int32)), .val (.int (0 : Int32)), .val (.ref b31), .val (.int (-1640531535 : Int32)), .unset, .unset, .unset, .unset] []))
      refine go (fun t kt => XS.iload X35.here hx rfl (hb hby at_71) rfl kt) ?_
      show Goes p.tables e below _ (T35.setTop (mkF m 73 #[.val (.int p0), .val (.int p1), .val (.int p2), .val (.int p3), .val (.int p4), .val (.int (2 : Int32)), .val (.int (0 : Int32)), .val (.ref b31), .val (.int (-1640531535 : Int32)), .unset, .unset, .unset, .unset] [(.int (-1640531535 : Int32))]))
      refine go (fun t kt => XS.iload X35.here hx rfl (hb hby at_73) rfl kt) ?_
      show Goes p.tables e below _ (T35.setTop (mkF m 75 #[.val (.int p0), .val (.int p1), .val (.int p2), .val (.int p3), .val (.int p4), .val (.int (2 : Int32)), .val (.int (0 : Int32)), .val (.ref b31), .val (.int (-1640531535 : Int32)), .unset, .unset, .unset, .unset] [(.int (-1640531535 : Int32)), (.int (-1640531535 : Int32))]))
      refine go (fun t kt => XS.imul X35.here hx rfl (hb hby at_75) rfl kt) ?_
      show Goes p.tables e below _ (T35.setTop (mkF m 76 #[.val (.int p0), .val (.int p1), .val (.int p2), .val (.int p3), .val (.int p4), .val (.int (2 : Int32)), .val (.int (0 : Int32)), .val (.ref b31), .val (.int (-1640531535 : Int32)), .unset, .unset, .unset, .unset] [(.int ((-1640531535 : Int32) * (-1640531535 : Int32)))]))
      refine go (fun t kt => XS.istore X35.here hx rfl (hb hby at_76) rfl (l' := #[.val (.int p0), .val (.int p1), .val (.int p2), .val (.int p3), .val (.int p4), .val (.int (2 : Int32)), .val (.int (0 : Int32)), .val (.ref b31), .val (.int (-1640531535 : Int32)), .val (.int ((-1640531535 : Int32) * (-1640531535 : Int32))), .unset, .unset, .unset]) rfl kt) ?_
      show Goes p.tables e below _ (T35.setTop (mkF m 78 #[.val (.int p0), .val (.int p1), .val (.int p2), .val (.int p3), .val (.int p4), .val (.int (2 : Int32)), .val (.int (0 : Int32)), .val (.ref b31), .val (.int (-1640531535 : Int32)), .val (.int ((-1640531535 : Int32) * (-1640531535 : Int32))), .unset, .unset, .unset] []))
      refine go (fun t kt => XS.iload X35.here hx rfl (hb hby at_78) rfl kt) ?_
      show Goes p.tables e below _ (T35.setTop (mkF m 80 #[.val (.int p0), .val (.int p1), .val (.int p2), .val (.int p3), .val (.int p4), .val (.int (2 : Int32)), .val (.int (0 : Int32)), .val (.ref b31), .val (.int (-1640531535 : Int32)), .val (.int ((-1640531535 : Int32) * (-1640531535 : Int32))), .unset, .unset, .unset] [(.int ((-1640531535 : Int32) * (-1640531535 : Int32)))]))
      refine go (fun t kt => XS.iload X35.here hx rfl (hb hby at_80) rfl kt) ?_
      show Goes p.tables e below _ (T35.setTop (mkF m 82 #[.val (.int p0), .val (.int p1), .val (.int p2), .val (.int p3), .val (.int p4), .val (.int (2 : Int32)), .val (.int (0 : Int32)), .val (.ref b31), .val (.int (-1640531535 : Int32)), .val (.int ((-1640531535 : Int32) * (-1640531535 : Int32))), .unset, .unset, .unset] [(.int (-1640531535 : Int32)), (.int ((-1640531535 : Int32) * (-1640531535 : Int32)))]))
      refine go (fun t kt => XS.imul X35.here hx rfl (hb hby at_82) rfl kt) ?_
      show Goes p.tables e below _ (T35.setTop (mkF m 83 #[.val (.int p0), .val (.int p1), .val (.int p2), .val (.int p3), .val (.int p4), .val (.int (2 : Int32)), .val (.int (0 : Int32)), .val (.ref b31), .val (.int (-1640531535 : Int32)), .val (.int ((-1640531535 : Int32) * (-1640531535 : Int32))), .unset, .unset, .unset] [(.int (((-1640531535 : Int32) * (-1640531535 : Int32)) * (-1640531535 : Int32)))]))
      refine go (fun t kt => XS.istore X35.here hx rfl (hb hby at_83) rfl (l' := #[.val (.int p0), .val (.int p1), .val (.int p2), .val (.int p3), .val (.int p4), .val (.int (2 : Int32)), .val (.int (0 : Int32)), .val (.ref b31), .val (.int (-1640531535 : Int32)), .val (.int ((-1640531535 : Int32) * (-1640531535 : Int32))), .val (.int (((-1640531535 : Int32) * (-1640531535 : Int32)) * (-1640531535 : Int32))), .unset, .unset]) rfl kt) ?_
      show Goes p.tables e below _ (T35.setTop (mkF m 85 #[.val (.int p0), .val (.int p1), .val (.int p2), .val (.int p3), .val (.int p4), .val (.int (2 : Int32)), .val (.int (0 : Int32)), .val (.ref b31), .val (.int (-1640531535 : Int32)), .val (.int ((-1640531535 : Int32) * (-1640531535 : Int32))), .val (.int (((-1640531535 : Int32) * (-1640531535 : Int32)) * (-1640531535 : Int32))), .unset, .unset] []))
      refine go (fun t kt => XS.iload X35.here hx rfl (hb hby at_85) rfl kt) ?_
      show Goes p.tables e below _ (T35.setTop (mkF m 87 #[.val (.int p0), .val (.int p1), .val (.int p2), .val (.int p3), .val (.int p4), .val (.int (2 : Int32)), .val (.int (0 : Int32)), .val (.ref b31), .val (.int (-1640531535 : Int32)), .val (.int ((-1640531535 : Int32) * (-1640531535 : Int32))), .val (.int (((-1640531535 : Int32) * (-1640531535 : Int32)) * (-1640531535 : Int32))), .unset, .unset] [(.int (2 : Int32))]))
      refine go (fun t kt => XS.ifYes X35.here hx rfl (pc0 := 87) (pc' := 96) rfl (hb hby at_87) rfl ((if0 _ _).trans (feq (by decide : ¬ ((2 : Int32) = (0 : Int32)))).2) (by decide) (by decide) kt) ?_
      show Goes p.tables e below _ (T35.setTop (mkF m 96 #[.val (.int p0), .val (.int p1), .val (.int p2), .val (.int p3), .val (.int p4), .val (.int (2 : Int32)), .val (.int (0 : Int32)), .val (.ref b31), .val (.int (-1640531535 : Int32)), .val (.int ((-1640531535 : Int32) * (-1640531535 : Int32))), .val (.int (((-1640531535 : Int32) * (-1640531535 : Int32)) * (-1640531535 : Int32))), .unset, .unset] []))
      refine go (fun t kt => XS.iload X35.here hx rfl (hb hby at_96) rfl kt) ?_
      show Goes p.tables e below _ (T35.setTop (mkF m 98 #[.val (.int p0), .val (.int p1), .val (.int p2), .val (.int p3), .val (.int p4), .val (.int (2 : Int32)), .val (.int (0 : Int32)), .val (.ref b31), .val (.int (-1640531535 : Int32)), .val (.int ((-1640531535 : Int32) * (-1640531535 : Int32))), .val (.int (((-1640531535 : Int32) * (-1640531535 : Int32)) * (-1640531535 : Int32))), .unset, .unset] [(.int (2 : Int32))]))
      refine go (fun t kt => XS.iconst X35.here hx rfl (hb hby at_98) kt) ?_
      show Goes p.tables e below _ (T35.setTop (mkF m 99 #[.val (.int p0), .val (.int p1), .val (.int p2), .val (.int p3), .val (.int p4), .val (.int (2 : Int32)), .val (.int (0 : Int32)), .val (.ref b31), .val (.int (-1640531535 : Int32)), .val (.int ((-1640531535 : Int32) * (-1640531535 : Int32))), .val (.int (((-1640531535 : Int32) * (-1640531535 : Int32)) * (-1640531535 : Int32))), .unset, .unset] [(.int (1 : Int32)), (.int (2 : Int32))]))
      refine go (fun t kt => XS.icmpYes X35.here hx rfl (pc0 := 99) (pc' := 111) rfl (hb hby at_99) rfl (feq (by decide : ¬ ((2 : Int32) = (1 : Int32)))).2 (by decide) (by decide) kt) ?_
      show Goes p.tables e below _ (T35.setTop (mkF m 111 #[.val (.int p0), .val (.int p1), .val (.int p2), .val (.int p3), .val (.int p4), .val (.int (2 : Int32)), .val (.int (0 : Int32)), .val (.ref b31), .val (.int (-1640531535 : Int32)), .val (.int ((-1640531535 : Int32) * (-1640531535 : Int32))), .val (.int (((-1640531535 : Int32) * (-1640531535 : Int32)) * (-1640531535 : Int32))), .unset, .unset] []))
      refine go (fun t kt => XS.iload X35.here hx rfl (hb hby at_111) rfl kt) ?_
      show Goes p.tables e below _ (T35.setTop (mkF m 113 #[.val (.int p0), .val (.int p1), .val (.int p2), .val (.int p3), .val (.int p4), .val (.int (2 : Int32)), .val (.int (0 : Int32)), .val (.ref b31), .val (.int (-1640531535 : Int32)), .val (.int ((-1640531535 : Int32) * (-1640531535 : Int32))), .val (.int (((-1640531535 : Int32) * (-1640531535 : Int32)) * (-1640531535 : Int32))), .unset, .unset] [(.int (2 : Int32))]))
      refine go (fun t kt => XS.iconst X35.here hx rfl (hb hby at_113) kt) ?_
      show Goes p.tables e below _ (T35.setTop (mkF m 114 #[.val (.int p0), .val (.int p1), .val (.int p2), .val (.int p3), .val (.int p4), .val (.int (2 : Int32)), .val (.int (0 : Int32)), .val (.ref b31), .val (.int (-1640531535 : Int32)), .val (.int ((-1640531535 : Int32) * (-1640531535 : Int32))), .val (.int (((-1640531535 : Int32) * (-1640531535 : Int32)) * (-1640531535 : Int32))), .unset, .unset] [(.int (2 : Int32)), (.int (2 : Int32))]))
      refine go (fun t kt => XS.icmpNo X35.here hx rfl (hb hby at_114) rfl (teq (by decide : ((2 : Int32) = (2 : Int32)))).2 kt) ?_
      show Goes p.tables e below _ (T35.setTop (mkF m 117 #[.val (.int p0), .val (.int p1), .val (.int p2), .val (.int p3), .val (.int p4), .val (.int (2 : Int32)), .val (.int (0 : Int32)), .val (.ref b31), .val (.int (-1640531535 : Int32)), .val (.int ((-1640531535 : Int32) * (-1640531535 : Int32))), .val (.int (((-1640531535 : Int32) * (-1640531535 : Int32)) * (-1640531535 : Int32))), .unset, .unset] []))
      refine go (fun t kt => XS.iloadN X35.here hx rfl (hb hby at_117) rfl kt) ?_
      show Goes p.tables e below _ (T35.setTop (mkF m 118 #[.val (.int p0), .val (.int p1), .val (.int p2), .val (.int p3), .val (.int p4), .val (.int (2 : Int32)), .val (.int (0 : Int32)), .val (.ref b31), .val (.int (-1640531535 : Int32)), .val (.int ((-1640531535 : Int32) * (-1640531535 : Int32))), .val (.int (((-1640531535 : Int32) * (-1640531535 : Int32)) * (-1640531535 : Int32))), .unset, .unset] [(.int p0)]))
      refine go (fun t kt => XS.iload X35.here hx rfl (hb hby at_118) rfl kt) ?_
      show Goes p.tables e below _ (T35.setTop (mkF m 120 #[.val (.int p0), .val (.int p1), .val (.int p2), .val (.int p3), .val (.int p4), .val (.int (2 : Int32)), .val (.int (0 : Int32)), .val (.ref b31), .val (.int (-1640531535 : Int32)), .val (.int ((-1640531535 : Int32) * (-1640531535 : Int32))), .val (.int (((-1640531535 : Int32) * (-1640531535 : Int32)) * (-1640531535 : Int32))), .unset, .unset] [(.int ((-1640531535 : Int32) * (-1640531535 : Int32))), (.int p0)]))
      refine go (fun t kt => XS.imul X35.here hx rfl (hb hby at_120) rfl kt) ?_
      show Goes p.tables e below _ (T35.setTop (mkF m 121 #[.val (.int p0), .val (.int p1), .val (.int p2), .val (.int p3), .val (.int p4), .val (.int (2 : Int32)), .val (.int (0 : Int32)), .val (.ref b31), .val (.int (-1640531535 : Int32)), .val (.int ((-1640531535 : Int32) * (-1640531535 : Int32))), .val (.int (((-1640531535 : Int32) * (-1640531535 : Int32)) * (-1640531535 : Int32))), .unset, .unset] [(.int (p0 * ((-1640531535 : Int32) * (-1640531535 : Int32))))]))
      refine go (fun t kt => XS.iloadN X35.here hx rfl (hb hby at_121) rfl kt) ?_
      show Goes p.tables e below _ (T35.setTop (mkF m 122 #[.val (.int p0), .val (.int p1), .val (.int p2), .val (.int p3), .val (.int p4), .val (.int (2 : Int32)), .val (.int (0 : Int32)), .val (.ref b31), .val (.int (-1640531535 : Int32)), .val (.int ((-1640531535 : Int32) * (-1640531535 : Int32))), .val (.int (((-1640531535 : Int32) * (-1640531535 : Int32)) * (-1640531535 : Int32))), .unset, .unset] [(.int p1), (.int (p0 * ((-1640531535 : Int32) * (-1640531535 : Int32))))]))
      refine go (fun t kt => XS.iload X35.here hx rfl (hb hby at_122) rfl kt) ?_
      show Goes p.tables e below _ (T35.setTop (mkF m 124 #[.val (.int p0), .val (.int p1), .val (.int p2), .val (.int p3), .val (.int p4), .val (.int (2 : Int32)), .val (.int (0 : Int32)), .val (.ref b31), .val (.int (-1640531535 : Int32)), .val (.int ((-1640531535 : Int32) * (-1640531535 : Int32))), .val (.int (((-1640531535 : Int32) * (-1640531535 : Int32)) * (-1640531535 : Int32))), .unset, .unset] [(.int (-1640531535 : Int32)), (.int p1), (.int (p0 * ((-1640531535 : Int32) * (-1640531535 : Int32))))]))
      refine go (fun t kt => XS.imul X35.here hx rfl (hb hby at_124) rfl kt) ?_
      show Goes p.tables e below _ (T35.setTop (mkF m 125 #[.val (.int p0), .val (.int p1), .val (.int p2), .val (.int p3), .val (.int p4), .val (.int (2 : Int32)), .val (.int (0 : Int32)), .val (.ref b31), .val (.int (-1640531535 : Int32)), .val (.int ((-1640531535 : Int32) * (-1640531535 : Int32))), .val (.int (((-1640531535 : Int32) * (-1640531535 : Int32)) * (-1640531535 : Int32))), .unset, .unset] [(.int (p1 * (-1640531535 : Int32))), (.int (p0 * ((-1640531535 : Int32) * (-1640531535 : Int32))))]))
      refine go (fun t kt => XS.iadd X35.here hx rfl (hb hby at_125) rfl kt) ?_
      show Goes p.tables e below _ (T35.setTop (mkF m 126 #[.val (.int p0), .val (.int p1), .val (.int p2), .val (.int p3), .val (.int p4), .val (.int (2 : Int32)), .val (.int (0 : Int32)), .val (.ref b31), .val (.int (-1640531535 : Int32)), .val (.int ((-1640531535 : Int32) * (-1640531535 : Int32))), .val (.int (((-1640531535 : Int32) * (-1640531535 : Int32)) * (-1640531535 : Int32))), .unset, .unset] [(.int ((p0 * ((-1640531535 : Int32) * (-1640531535 : Int32))) + (p1 * (-1640531535 : Int32))))]))
      refine go (fun t kt => XS.istore X35.here hx rfl (hb hby at_126) rfl (l' := #[.val (.int p0), .val (.int p1), .val (.int p2), .val (.int p3), .val (.int p4), .val (.int (2 : Int32)), .val (.int (0 : Int32)), .val (.ref b31), .val (.int (-1640531535 : Int32)), .val (.int ((-1640531535 : Int32) * (-1640531535 : Int32))), .val (.int (((-1640531535 : Int32) * (-1640531535 : Int32)) * (-1640531535 : Int32))), .val (.int ((p0 * ((-1640531535 : Int32) * (-1640531535 : Int32))) + (p1 * (-1640531535 : Int32)))), .unset]) rfl kt) ?_
      show Goes p.tables e below _ (T35.setTop (mkF m 128 #[.val (.int p0), .val (.int p1), .val (.int p2), .val (.int p3), .val (.int p4), .val (.int (2 : Int32)), .val (.int (0 : Int32)), .val (.ref b31), .val (.int (-1640531535 : Int32)), .val (.int ((-1640531535 : Int32) * (-1640531535 : Int32))), .val (.int (((-1640531535 : Int32) * (-1640531535 : Int32)) * (-1640531535 : Int32))), .val (.int ((p0 * ((-1640531535 : Int32) * (-1640531535 : Int32))) + (p1 * (-1640531535 : Int32)))), .unset] []))
      refine go (fun t kt => XS.goto X35.here hx rfl (pc0 := 128) (pc' := 147) rfl (hb hby at_128) (by decide) (by decide) kt) ?_
      show Goes p.tables e below _ (T35.setTop (mkF m 147 #[.val (.int p0), .val (.int p1), .val (.int p2), .val (.int p3), .val (.int p4), .val (.int (2 : Int32)), .val (.int (0 : Int32)), .val (.ref b31), .val (.int (-1640531535 : Int32)), .val (.int ((-1640531535 : Int32) * (-1640531535 : Int32))), .val (.int (((-1640531535 : Int32) * (-1640531535 : Int32)) * (-1640531535 : Int32))), .val (.int ((p0 * ((-1640531535 : Int32) * (-1640531535 : Int32))) + (p1 * (-1640531535 : Int32)))), .unset] []))
      refine go (fun t kt => XS.iload X35.here hx rfl (hb hby at_147) rfl kt) ?_
      show Goes p.tables e below _ (T35.setTop (mkF m 149 #[.val (.int p0), .val (.int p1), .val (.int p2), .val (.int p3), .val (.int p4), .val (.int (2 : Int32)), .val (.int (0 : Int32)), .val (.ref b31), .val (.int (-1640531535 : Int32)), .val (.int ((-1640531535 : Int32) * (-1640531535 : Int32))), .val (.int (((-1640531535 : Int32) * (-1640531535 : Int32)) * (-1640531535 : Int32))), .val (.int ((p0 * ((-1640531535 : Int32) * (-1640531535 : Int32))) + (p1 * (-1640531535 : Int32)))), .unset] [(.int ((p0 * ((-1640531535 : Int32) * (-1640531535 : Int32))) + (p1 * (-1640531535 : Int32))))]))
      refine go (fun t kt => XS.iload X35.here hx rfl (hb hby at_149) rfl kt) ?_
      show Goes p.tables e below _ (T35.setTop (mkF m 151 #[.val (.int p0), .val (.int p1), .val (.int p2), .val (.int p3), .val (.int p4), .val (.int (2 : Int32)), .val (.int (0 : Int32)), .val (.ref b31), .val (.int (-1640531535 : Int32)), .val (.int ((-1640531535 : Int32) * (-1640531535 : Int32))), .val (.int (((-1640531535 : Int32) * (-1640531535 : Int32)) * (-1640531535 : Int32))), .val (.int ((p0 * ((-1640531535 : Int32) * (-1640531535 : Int32))) + (p1 * (-1640531535 : Int32)))), .unset] [(.int ((p0 * ((-1640531535 : Int32) * (-1640531535 : Int32))) + (p1 * (-1640531535 : Int32)))), (.int ((p0 * ((-1640531535 : Int32) * (-1640531535 : Int32))) + (p1 * (-1640531535 : Int32))))]))
      refine go (fun t kt => XS.bipush X35.here hx rfl (hb hby at_151) kt) ?_
      show Goes p.tables e below _ (T35.setTop (mkF m 153 #[.val (.int p0), .val (.int p1), .val (.int p2), .val (.int p3), .val (.int p4), .val (.int (2 : Int32)), .val (.int (0 : Int32)), .val (.ref b31), .val (.int (-1640531535 : Int32)), .val (.int ((-1640531535 : Int32) * (-1640531535 : Int32))), .val (.int (((-1640531535 : Int32) * (-1640531535 : Int32)) * (-1640531535 : Int32))), .val (.int ((p0 * ((-1640531535 : Int32) * (-1640531535 : Int32))) + (p1 * (-1640531535 : Int32)))), .unset] [(.int (16 : Int32)), (.int ((p0 * ((-1640531535 : Int32) * (-1640531535 : Int32))) + (p1 * (-1640531535 : Int32)))), (.int ((p0 * ((-1640531535 : Int32) * (-1640531535 : Int32))) + (p1 * (-1640531535 : Int32))))]))
      refine go (fun t kt => XS.iushr X35.here hx rfl (hb hby at_153) rfl kt) ?_
      show Goes p.tables e below _ (T35.setTop (mkF m 154 #[.val (.int p0), .val (.int p1), .val (.int p2), .val (.int p3), .val (.int p4), .val (.int (2 : Int32)), .val (.int (0 : Int32)), .val (.ref b31), .val (.int (-1640531535 : Int32)), .val (.int ((-1640531535 : Int32) * (-1640531535 : Int32))), .val (.int (((-1640531535 : Int32) * (-1640531535 : Int32)) * (-1640531535 : Int32))), .val (.int ((p0 * ((-1640531535 : Int32) * (-1640531535 : Int32))) + (p1 * (-1640531535 : Int32)))), .unset] [(.int ((((p0 * ((-1640531535 : Int32) * (-1640531535 : Int32))) + (p1 * (-1640531535 : Int32))).toUInt32 >>> ((16 : Int32) &&& 31).toUInt32).toInt32)), (.int ((p0 * ((-1640531535 : Int32) * (-1640531535 : Int32))) + (p1 * (-1640531535 : Int32))))]))
      refine go (fun t kt => XS.ixor X35.here hx rfl (hb hby at_154) rfl kt) ?_
      show Goes p.tables e below _ (T35.setTop (mkF m 155 #[.val (.int p0), .val (.int p1), .val (.int p2), .val (.int p3), .val (.int p4), .val (.int (2 : Int32)), .val (.int (0 : Int32)), .val (.ref b31), .val (.int (-1640531535 : Int32)), .val (.int ((-1640531535 : Int32) * (-1640531535 : Int32))), .val (.int (((-1640531535 : Int32) * (-1640531535 : Int32)) * (-1640531535 : Int32))), .val (.int ((p0 * ((-1640531535 : Int32) * (-1640531535 : Int32))) + (p1 * (-1640531535 : Int32)))), .unset] [(.int (((p0 * ((-1640531535 : Int32) * (-1640531535 : Int32))) + (p1 * (-1640531535 : Int32))) ^^^ ((((p0 * ((-1640531535 : Int32) * (-1640531535 : Int32))) + (p1 * (-1640531535 : Int32))).toUInt32 >>> ((16 : Int32) &&& 31).toUInt32).toInt32)))]))
      refine go (fun t kt => XS.istore X35.here hx rfl (hb hby at_155) rfl (l' := #[.val (.int p0), .val (.int p1), .val (.int p2), .val (.int p3), .val (.int p4), .val (.int (2 : Int32)), .val (.int (0 : Int32)), .val (.ref b31), .val (.int (-1640531535 : Int32)), .val (.int ((-1640531535 : Int32) * (-1640531535 : Int32))), .val (.int (((-1640531535 : Int32) * (-1640531535 : Int32)) * (-1640531535 : Int32))), .val (.int ((p0 * ((-1640531535 : Int32) * (-1640531535 : Int32))) + (p1 * (-1640531535 : Int32)))), .val (.int (((p0 * ((-1640531535 : Int32) * (-1640531535 : Int32))) + (p1 * (-1640531535 : Int32))) ^^^ ((((p0 * ((-1640531535 : Int32) * (-1640531535 : Int32))) + (p1 * (-1640531535 : Int32))).toUInt32 >>> ((16 : Int32) &&& 31).toUInt32).toInt32)))]) rfl kt) ?_
      show Goes p.tables e below _ (T35.setTop (mkF m 157 #[.val (.int p0), .val (.int p1), .val (.int p2), .val (.int p3), .val (.int p4), .val (.int (2 : Int32)), .val (.int (0 : Int32)), .val (.ref b31), .val (.int (-1640531535 : Int32)), .val (.int ((-1640531535 : Int32) * (-1640531535 : Int32))), .val (.int (((-1640531535 : Int32) * (-1640531535 : Int32)) * (-1640531535 : Int32))), .val (.int ((p0 * ((-1640531535 : Int32) * (-1640531535 : Int32))) + (p1 * (-1640531535 : Int32)))), .val (.int (((p0 * ((-1640531535 : Int32) * (-1640531535 : Int32))) + (p1 * (-1640531535 : Int32))) ^^^ ((((p0 * ((-1640531535 : Int32) * (-1640531535 : Int32))) + (p1 * (-1640531535 : Int32))).toUInt32 >>> ((16 : Int32) &&& 31).toUInt32).toInt32)))] []))
      refine go (fun t kt => XS.aload X35.here hx rfl (hb hby at_157) rfl rfl kt) ?_
      show Goes p.tables e below _ (T35.setTop (mkF m 159 #[.val (.int p0), .val (.int p1), .val (.int p2), .val (.int p3), .val (.int p4), .val (.int (2 : Int32)), .val (.int (0 : Int32)), .val (.ref b31), .val (.int (-1640531535 : Int32)), .val (.int ((-1640531535 : Int32) * (-1640531535 : Int32))), .val (.int (((-1640531535 : Int32) * (-1640531535 : Int32)) * (-1640531535 : Int32))), .val (.int ((p0 * ((-1640531535 : Int32) * (-1640531535 : Int32))) + (p1 * (-1640531535 : Int32)))), .val (.int (((p0 * ((-1640531535 : Int32) * (-1640531535 : Int32))) + (p1 * (-1640531535 : Int32))) ^^^ ((((p0 * ((-1640531535 : Int32) * (-1640531535 : Int32))) + (p1 * (-1640531535 : Int32))).toUInt32 >>> ((16 : Int32) &&& 31).toUInt32).toInt32)))] [(.ref b31)]))
      refine go (fun t kt => XS.iload X35.here hx rfl (hb hby at_159) rfl kt) ?_
      show Goes p.tables e below _ (T35.setTop (mkF m 161 #[.val (.int p0), .val (.int p1), .val (.int p2), .val (.int p3), .val (.int p4), .val (.int (2 : Int32)), .val (.int (0 : Int32)), .val (.ref b31), .val (.int (-1640531535 : Int32)), .val (.int ((-1640531535 : Int32) * (-1640531535 : Int32))), .val (.int (((-1640531535 : Int32) * (-1640531535 : Int32)) * (-1640531535 : Int32))), .val (.int ((p0 * ((-1640531535 : Int32) * (-1640531535 : Int32))) + (p1 * (-1640531535 : Int32)))), .val (.int (((p0 * ((-1640531535 : Int32) * (-1640531535 : Int32))) + (p1 * (-1640531535 : Int32))) ^^^ ((((p0 * ((-1640531535 : Int32) * (-1640531535 : Int32))) + (p1 * (-1640531535 : Int32))).toUInt32 >>> ((16 : Int32) &&& 31).toUInt32).toInt32)))] [(.int (0 : Int32)), (.ref b31)]))
      refine go (fun t kt => XS.iload X35.here hx rfl (hb hby at_161) rfl kt) ?_
      show Goes p.tables e below _ (T35.setTop (mkF m 163 #[.val (.int p0), .val (.int p1), .val (.int p2), .val (.int p3), .val (.int p4), .val (.int (2 : Int32)), .val (.int (0 : Int32)), .val (.ref b31), .val (.int (-1640531535 : Int32)), .val (.int ((-1640531535 : Int32) * (-1640531535 : Int32))), .val (.int (((-1640531535 : Int32) * (-1640531535 : Int32)) * (-1640531535 : Int32))), .val (.int ((p0 * ((-1640531535 : Int32) * (-1640531535 : Int32))) + (p1 * (-1640531535 : Int32)))), .val (.int (((p0 * ((-1640531535 : Int32) * (-1640531535 : Int32))) + (p1 * (-1640531535 : Int32))) ^^^ ((((p0 * ((-1640531535 : Int32) * (-1640531535 : Int32))) + (p1 * (-1640531535 : Int32))).toUInt32 >>> ((16 : Int32) &&& 31).toUInt32).toInt32)))] [(.int (2 : Int32)), (.int (0 : Int32)), (.ref b31)]))
      obtain ⟨_, _, ⟨T36, L36, k36, n36⟩, -, X36, ⟨Lc36, hQ36, l36, y36, z36⟩, st36⟩ := Jvm.LawKit.callS X35 hx (y := (⟨"com/example/limpet/limpet/model/NodeLabel", "hashOf", "([III)I"⟩ : MethodName)) hown (mvT hZ (hw _ (List.mem_of_getElem? (i := 2) rfl))) (mvT hZ (hw _ (List.mem_of_getElem? (i := 3) rfl))) (mvT hZ (hw _ (List.mem_of_getElem? (i := 4) rfl))) (mvT hZ (hw _ (List.mem_of_getElem? (i := 5) rfl))) (by decide) (backOf (W := 0) (rmh02 l Z a0 hw [] b31 k31 p0 p1 p2 p3 h35 n0 Zz35 V_b31) hZ (hw _ (List.mem_of_getElem? (i := 5) rfl)) (hw _ (List.mem_of_getElem? (i := 4) rfl)) (by decide) (by decide)) (g := (mkF m 163 #[.val (.int p0), .val (.int p1), .val (.int p2), .val (.int p3), .val (.int p4), .val (.int (2 : Int32)), .val (.int (0 : Int32)), .val (.ref b31), .val (.int (-1640531535 : Int32)), .val (.int ((-1640531535 : Int32) * (-1640531535 : Int32))), .val (.int (((-1640531535 : Int32) * (-1640531535 : Int32)) * (-1640531535 : Int32))), .val (.int ((p0 * ((-1640531535 : Int32) * (-1640531535 : Int32))) + (p1 * (-1640531535 : Int32)))), .val (.int (((p0 * ((-1640531535 : Int32) * (-1640531535 : Int32))) + (p1 * (-1640531535 : Int32))) ^^^ ((((p0 * ((-1640531535 : Int32) * (-1640531535 : Int32))) + (p1 * (-1640531535 : Int32))).toUInt32 >>> ((16 : Int32) &&& 31).toUInt32).toInt32)))] [(.int (2 : Int32)), (.int (0 : Int32)), (.ref b31)])) rfl (by rw [hml]; rfl) (argsL := [(.ref b31), (.int (0 : Int32)), (.int (2 : Int32))]) (rest := []) (lenOf pd_0 rfl) rfl (by show 2 * 0 + _ ≤ _; exact Nat.le_of_eq rfl) (hb hby at_163) (fun _ _ => ⟨rfl, e35, (by decide : 1 + 0 ≤ _), (by decide : 4 + 0 ≤ _)⟩)
      dsimp only [Pt.U, Pt.locs, Pt.cells, Pt.slots] at X36 l36 y36 z36 st36 hQ36
      subst l36 y36 z36
      obtain ⟨rfl, Nq36, e36⟩ := hQ36
      have N36 := Fr.app N35 Nq36
      refine go st36 ?_
      show Goes p.tables e below _ (T36.setTop (mkF m 166 #[.val (.int p0), .val (.int p1), .val (.int p2), .val (.int p3), .val (.int p4), .val (.int (2 : Int32)), .val (.int (0 : Int32)), .val (.ref b31), .val (.int (-1640531535 : Int32)), .val (.int ((-1640531535 : Int32) * (-1640531535 : Int32))), .val (.int (((-1640531535 : Int32) * (-1640531535 : Int32)) * (-1640531535 : Int32))), .val (.int ((p0 * ((-1640531535 : Int32) * (-1640531535 : Int32))) + (p1 * (-1640531535 : Int32)))), .val (.int (((p0 * ((-1640531535 : Int32) * (-1640531535 : Int32))) + (p1 * (-1640531535 : Int32))) ^^^ ((((p0 * ((-1640531535 : Int32) * (-1640531535 : Int32))) + (p1 * (-1640531535 : Int32))).toUInt32 >>> ((16 : Int32) &&& 31).toUInt32).toInt32)))] [(.int (own_h02 p0 p1))]))
      refine go (fun t kt => XS.iload X36.here hx rfl (hb hby at_166) rfl kt) ?_
      show Goes p.tables e below _ (T36.setTop (mkF m 168 #[.val (.int p0), .val (.int p1), .val (.int p2), .val (.int p3), .val (.int p4), .val (.int (2 : Int32)), .val (.int (0 : Int32)), .val (.ref b31), .val (.int (-1640531535 : Int32)), .val (.int ((-1640531535 : Int32) * (-1640531535 : Int32))), .val (.int (((-1640531535 : Int32) * (-1640531535 : Int32)) * (-1640531535 : Int32))), .val (.int ((p0 * ((-1640531535 : Int32) * (-1640531535 : Int32))) + (p1 * (-1640531535 : Int32)))), .val (.int (((p0 * ((-1640531535 : Int32) * (-1640531535 : Int32))) + (p1 * (-1640531535 : Int32))) ^^^ ((((p0 * ((-1640531535 : Int32) * (-1640531535 : Int32))) + (p1 * (-1640531535 : Int32))).toUInt32 >>> ((16 : Int32) &&& 31).toUInt32).toInt32)))] [(.int (((p0 * ((-1640531535 : Int32) * (-1640531535 : Int32))) + (p1 * (-1640531535 : Int32))) ^^^ ((((p0 * ((-1640531535 : Int32) * (-1640531535 : Int32))) + (p1 * (-1640531535 : Int32))).toUInt32 >>> ((16 : Int32) &&& 31).toUInt32).toInt32))), (.int (own_h02 p0 p1))]))
      refine go (fun t kt => XS.icmpNo X36.here hx rfl (hb hby at_168) rfl (teq (by unfold own_h02; rw [own_e2])).2 kt) ?_
      show Goes p.tables e below _ (T36.setTop (mkF m 171 #[.val (.int p0), .val (.int p1), .val (.int p2), .val (.int p3), .val (.int p4), .val (.int (2 : Int32)), .val (.int (0 : Int32)), .val (.ref b31), .val (.int (-1640531535 : Int32)), .val (.int ((-1640531535 : Int32) * (-1640531535 : Int32))), .val (.int (((-1640531535 : Int32) * (-1640531535 : Int32)) * (-1640531535 : Int32))), .val (.int ((p0 * ((-1640531535 : Int32) * (-1640531535 : Int32))) + (p1 * (-1640531535 : Int32)))), .val (.int (((p0 * ((-1640531535 : Int32) * (-1640531535 : Int32))) + (p1 * (-1640531535 : Int32))) ^^^ ((((p0 * ((-1640531535 : Int32) * (-1640531535 : Int32))) + (p1 * (-1640531535 : Int32))).toUInt32 >>> ((16 : Int32) &&& 31).toUInt32).toInt32)))] []))
      refine go (fun t kt => XS.iconst X36.here hx rfl (hb hby at_171) kt) ?_
      show Goes p.tables e below _ (T36.setTop (mkF m 172 #[.val (.int p0), .val (.int p1), .val (.int p2), .val (.int p3), .val (.int p4), .val (.int (2 : Int32)), .val (.int (0 : Int32)), .val (.ref b31), .val (.int (-1640531535 : Int32)), .val (.int ((-1640531535 : Int32) * (-1640531535 : Int32))), .val (.int (((-1640531535 : Int32) * (-1640531535 : Int32)) * (-1640531535 : Int32))), .val (.int ((p0 * ((-1640531535 : Int32) * (-1640531535 : Int32))) + (p1 * (-1640531535 : Int32)))), .val (.int (((p0 * ((-1640531535 : Int32) * (-1640531535 : Int32))) + (p1 * (-1640531535 : Int32))) ^^^ ((((p0 * ((-1640531535 : Int32) * (-1640531535 : Int32))) + (p1 * (-1640531535 : Int32))).toUInt32 >>> ((16 : Int32) &&& 31).toUInt32).toInt32)))] [(.int (1 : Int32))]))
      refine go (fun t kt => XS.goto X36.here hx rfl (pc0 := 172) (pc' := 176) rfl (hb hby at_172) (by decide) (by decide) kt) ?_
      show Goes p.tables e below _ (T36.setTop (mkF m 176 #[.val (.int p0), .val (.int p1), .val (.int p2), .val (.int p3), .val (.int p4), .val (.int (2 : Int32)), .val (.int (0 : Int32)), .val (.ref b31), .val (.int (-1640531535 : Int32)), .val (.int ((-1640531535 : Int32) * (-1640531535 : Int32))), .val (.int (((-1640531535 : Int32) * (-1640531535 : Int32)) * (-1640531535 : Int32))), .val (.int ((p0 * ((-1640531535 : Int32) * (-1640531535 : Int32))) + (p1 * (-1640531535 : Int32)))), .val (.int (((p0 * ((-1640531535 : Int32) * (-1640531535 : Int32))) + (p1 * (-1640531535 : Int32))) ^^^ ((((p0 * ((-1640531535 : Int32) * (-1640531535 : Int32))) + (p1 * (-1640531535 : Int32))).toUInt32 >>> ((16 : Int32) &&& 31).toUInt32).toInt32)))] [(.int (1 : Int32))]))
      obtain ⟨fs, hr, hrun, hended, hW, hsame⟩ := X36.leave (v := some (.int (1 : Int32))) (fun h => by rw [Bd.returns] at h; cases h)
      refine ⟨_, _, retN X36 hx (t := .boolean) Bd.returns (by simp) (hb hby at_176) hr, hrun, hended, _, _, rfl, ?_, ⟨_, rfl⟩, hW, hsame.mono (by decide) (by decide)⟩
      show Q0 Z p0 p1 p2 p3 p4 h0 n0 _ T36.heap _
      rw [e36]
      exact ⟨rfl, N36⟩
    ·
      rw [hj2]
      show Goes p.tables e below _ (s₁.setTop (mkF m 14 #[.val (.int p0), .val (.int p1), .val (.int p2), .val (.int p3), .val (.int p4), .val (.int (2 : Int32)), .val (.int (1 : Int32)), .unset, .unset, .unset, .unset, .unset, .unset] []))
      refine go (fun t kt => XS.iconst X0.here hx rfl (hb hby at_14) kt) ?_
      show Goes p.tables e below _ (s₁.setTop (mkF m 15 #[.val (.int p0), .val (.int p1), .val (.int p2), .val (.int p3), .val (.int p4), .val (.int (2 : Int32)), .val (.int (1 : Int32)), .unset, .unset, .unset, .unset, .unset, .unset] [(.int (4 : Int32))]))
      obtain ⟨T38, h38, k38, X38, e38, E38, A38, st38⟩ := newP X0 hx hZ (hw _ (List.mem_of_getElem? (i := 0) rfl)) e0 (g := (mkF m 15 #[.val (.int p0), .val (.int p1), .val (.int p2), .val (.int p3), .val (.int p4), .val (.int (2 : Int32)), .val (.int (1 : Int32)), .unset, .unset, .unset, .unset, .unset, .unset] [(.int (4 : Int32))])) rfl (hb hby at_15) rfl (by decide) (cap := 4) (by decide) (by decide) (by decide) (by decide)
      obtain ⟨b38, g38⟩ : ∃ z, z = h0.size := ⟨_, rfl⟩
      rw [← g38] at A38 st38
      have g_b38 : n0 ≤ b38 := Nat.le_trans Z0 (Nat.le_of_eq g38.symm)
      have sz_b38 : h0.size ≤ b38 := Nat.le_trans K0.1 (Nat.le_of_eq g38.symm)
      have Zz38 := Nat.le_trans Z0 E38.1
      have Kk38 := K0.ext E38
      have V_b38 : Arv Z h38 b38 k38 .int (4 : Int32) [(.int (0 : Int32)), (.int (0 : Int32)), (.int (0 : Int32)), (.int (0 : Int32))] (.int (0 : Int32)) := (Arv.new A38 (by decide)).pad (pad_rep [] (.int (0 : Int32)) 4)
      refine go st38 ?_
      show Goes p.tables e below _ (T38.setTop (mkF m 17 #[.val (.int p0), .val (.int p1), .val (.int p2), .val (.int p3), .val (.int p4), .val (.int (2 : Int32)), .val (.int (1 : Int32)), .unset, .unset, .unset, .unset, .unset, .unset] [(.ref b38)]))
      refine go (fun t kt => XS.astore X38.here hx rfl (hb hby at_17) rfl rfl (l' := #[.val (.int p0), .val (.int p1), .val (.int p2), .val (.int p3), .val (.int p4), .val (.int (2 : Int32)), .val (.int (1 : Int32)), .val (.ref b38), .unset, .unset, .unset, .unset, .unset]) rfl kt) ?_
      show Goes p.tables e below _ (T38.setTop (mkF m 19 #[.val (.int p0), .val (.int p1), .val (.int p2), .val (.int p3), .val (.int p4), .val (.int (2 : Int32)), .val (.int (1 : Int32)), .val (.ref b38), .unset, .unset, .unset, .unset, .unset] []))
      refine go (fun t kt => XS.iload X38.here hx rfl (hb hby at_19) rfl kt) ?_
      show Goes p.tables e below _ (T38.setTop (mkF m 21 #[.val (.int p0), .val (.int p1), .val (.int p2), .val (.int p3), .val (.int p4), .val (.int (2 : Int32)), .val (.int (1 : Int32)), .val (.ref b38), .unset, .unset, .unset, .unset, .unset] [(.int (1 : Int32))]))
      refine go (fun t kt => XS.ifYes X38.here hx rfl (pc0 := 21) (pc' := 47) rfl (hb hby at_21) rfl ((if0 _ _).trans (feq (by decide : ¬ ((1 : Int32) = (0 : Int32)))).2) (by decide) (by decide) kt) ?_
      show Goes p.tables e below _ (T38.setTop (mkF m 47 #[.val (.int p0), .val (.int p1), .val (.int p2), .val (.int p3), .val (.int p4), .val (.int (2 : Int32)), .val (.int (1 : Int32)), .val (.ref b38), .unset, .unset, .unset, .unset, .unset] []))
      refine go (fun t kt => XS.aload X38.here hx rfl (hb hby at_47) rfl rfl kt) ?_
      show Goes p.tables e below _ (T38.setTop (mkF m 49 #[.val (.int p0), .val (.int p1), .val (.int p2), .val (.int p3), .val (.int p4), .val (.int (2 : Int32)), .val (.int (1 : Int32)), .val (.ref b38), .unset, .unset, .unset, .unset, .unset] [(.ref b38)]))
      refine go (fun t kt => XS.iconst X38.here hx rfl (hb hby at_49) kt) ?_
      show Goes p.tables e below _ (T38.setTop (mkF m 50 #[.val (.int p0), .val (.int p1), .val (.int p2), .val (.int p3), .val (.int p4), .val (.int (2 : Int32)), .val (.int (1 : Int32)), .val (.ref b38), .unset, .unset, .unset, .unset, .unset] [(.int (0 : Int32)), (.ref b38)]))
      refine go (fun t kt => XS.iloadN X38.here hx rfl (hb hby at_50) rfl kt) ?_
      show Goes p.tables e below _ (T38.setTop (mkF m 51 #[.val (.int p0), .val (.int p1), .val (.int p2), .val (.int p3), .val (.int p4), .val (.int (2 : Int32)), .val (.int (1 : Int32)), .val (.ref b38), .unset, .unset, .unset, .unset, .unset] [(.int p3), (.int (0 : Int32)), (.ref b38)]))
      obtain ⟨cl39, Ar39, q39, S39, M39, H39, G39⟩ := V_b38
      have hin39 : ¬ ((0 : Int32) < 0 ∨ cl39.slots.size ≤ ((0 : Int32)).toNatClampNeg) := inb_of S39 ⟨by decide, by decide⟩
      obtain ⟨T39, h39, X39, e39, W39, st39⟩ := stI X38 hx hZ e38 Ar39 (j := (0 : Int32)) hin39 (g := (mkF m 51 #[.val (.int p0), .val (.int p1), .val (.int p2), .val (.int p3), .val (.int p4), .val (.int (2 : Int32)), .val (.int (1 : Int32)), .val (.ref b38), .unset, .unset, .unset, .unset, .unset] [(.int p3), (.int (0 : Int32)), (.ref b38)])) rfl rfl (hb hby at_51)
      have V_b38 : Arv Z h39 b38 k38 .int (4 : Int32) [(.int p3), (.int (0 : Int32)), (.int (0 : Int32)), (.int (0 : Int32))] (.int (0 : Int32)) := Arv.set Ar39 q39 S39 M39 H39 G39 rfl W39 0 rfl (Nat.le_of_ble_eq_true rfl)
      have Zz39 := Nat.le_trans Zz38 (Keep.of_wr W39).1
      have Kk39 := Kk38.wr W39 (Or.inr sz_b38)
      have N39 := Fr.snoc X39 N0 g_b38
      refine go st39 ?_
      show Goes p.tables e below _ (T39.setTop (mkF m 52 #[.val (.int p0), .val (.int p1), .val (.int p2), .val (.int p3), .val (.int p4), .val (.int (2 : Int32)), .val (.int (1 : Int32)), .val (.ref b38), .unset, .unset, .unset, .unset, .unset] []))
      refine go (fun t kt => XS.aload X39.here hx rfl (hb hby at_52) rfl rfl kt) ?_
      show Goes p.tables e below _ (T39.setTop (mkF m 54 #[.val (.int p0), .val (.int p1), .val (.int p2), .val (.int p3), .val (.int p4), .val (.int (2 : Int32)), .val (.int (1 : Int32)), .val (.ref b38), .unset, .unset, .unset, .unset, .unset] [(.ref b38)]))
      refine go (fun t kt => XS.iconst X39.here hx rfl (hb hby at_54) kt) ?_
      show Goes p.tables e below _ (T39.setTop (mkF m 55 #[.val (.int p0), .val (.int p1), .val (.int p2), .val (.int p3), .val (.int p4), .val (.int (2 : Int32)), .val (.int (1 : Int32)), .val (.ref b38), .unset, .unset, .unset, .unset, .unset] [(.int (1 : Int32)), (.ref b38)]))
      refine go (fun t kt => XS.iloadN X39.here hx rfl (hb hby at_55) rfl kt) ?_
      show Goes p.tables e below _ (T39.setTop (mkF m 56 #[.val (.int p0), .val (.int p1), .val (.int p2), .val (.int p3), .val (.int p4), .val (.int (2 : Int32)), .val (.int (1 : Int32)), .val (.ref b38), .unset, .unset, .unset, .unset, .unset] [(.int p0), (.int (1 : Int32)), (.ref b38)]))
      obtain ⟨cl40, Ar40, q40, S40, M40, H40, G40⟩ := V_b38
      have hin40 : ¬ ((1 : Int32) < 0 ∨ cl40.slots.size ≤ ((1 : Int32)).toNatClampNeg) := inb_of S40 ⟨by decide, by decide⟩
      obtain ⟨T40, h40, X40, e40, W40, st40⟩ := stI X39 hx hZ e39 Ar40 (j := (1 : Int32)) hin40 (g := (mkF m 56 #[.val (.int p0), .val (.int p1), .val (.int p2), .val (.int p3), .val (.int p4), .val (.int (2 : Int32)), .val (.int (1 : Int32)), .val (.ref b38), .unset, .unset, .unset, .unset, .unset] [(.int p0), (.int (1 : Int32)), (.ref b38)])) rfl rfl (hb hby at_56)
      have V_b38 : Arv Z h40 b38 k38 .int (4 : Int32) [(.int p3), (.int p0), (.int (0 : Int32)), (.int (0 : Int32))] (.int (0 : Int32)) := Arv.set Ar40 q40 S40 M40 H40 G40 rfl W40 1 rfl (Nat.le_of_ble_eq_true rfl)
      have Zz40 := Nat.le_trans Zz39 (Keep.of_wr W40).1
      have Kk40 := Kk39.wr W40 (Or.inr sz_b38)
      have N40 := Fr.snoc X40 N39 g_b38
      refine go st40 ?_
      show Goes p.tables e below _ (T40.setTop (mkF m 57 #[.val (.int p0), .val (.int p1), .val (.int p2), .val (.int p3), .val (.int p4), .val (.int (2 : Int32)), .val (.int (1 : Int32)), .val (.ref b38), .unset, .unset, .unset, .unset, .unset] []))
      refine go (fun t kt => XS.aload X40.here hx rfl (hb hby at_57) rfl rfl kt) ?_
      show Goes p.tables e below _ (T40.setTop (mkF m 59 #[.val (.int p0), .val (.int p1), .val (.int p2), .val (.int p3), .val (.int p4), .val (.int (2 : Int32)), .val (.int (1 : Int32)), .val (.ref b38), .unset, .unset, .unset, .unset, .unset] [(.ref b38)]))
      refine go (fun t kt => XS.iconst X40.here hx rfl (hb hby at_59) kt) ?_
      show Goes p.tables e below _ (T40.setTop (mkF m 60 #[.val (.int p0), .val (.int p1), .val (.int p2), .val (.int p3), .val (.int p4), .val (.int (2 : Int32)), .val (.int (1 : Int32)), .val (.ref b38), .unset, .unset, .unset, .unset, .unset] [(.int (2 : Int32)), (.ref b38)]))
      refine go (fun t kt => XS.iloadN X40.here hx rfl (hb hby at_60) rfl kt) ?_
      show Goes p.tables e below _ (T40.setTop (mkF m 61 #[.val (.int p0), .val (.int p1), .val (.int p2), .val (.int p3), .val (.int p4), .val (.int (2 : Int32)), .val (.int (1 : Int32)), .val (.ref b38), .unset, .unset, .unset, .unset, .unset] [(.int p1), (.int (2 : Int32)), (.ref b38)]))
      obtain ⟨cl41, Ar41, q41, S41, M41, H41, G41⟩ := V_b38
      have hin41 : ¬ ((2 : Int32) < 0 ∨ cl41.slots.size ≤ ((2 : Int32)).toNatClampNeg) := inb_of S41 ⟨by decide, by decide⟩
      obtain ⟨T41, h41, X41, e41, W41, st41⟩ := stI X40 hx hZ e40 Ar41 (j := (2 : Int32)) hin41 (g := (mkF m 61 #[.val (.int p0), .val (.int p1), .val (.int p2), .val (.int p3), .val (.int p4), .val (.int (2 : Int32)), .val (.int (1 : Int32)), .val (.ref b38), .unset, .unset, .unset, .unset, .unset] [(.int p1), (.int (2 : Int32)), (.ref b38)])) rfl rfl (hb hby at_61)
      have V_b38 : Arv Z h41 b38 k38 .int (4 : Int32) [(.int p3), (.int p0), (.int p1), (.int (0 : Int32))] (.int (0 : Int32)) := Arv.set Ar41 q41 S41 M41 H41 G41 rfl W41 2 rfl (Nat.le_of_ble_eq_true rfl)
      have Zz41 := Nat.le_trans Zz40 (Keep.of_wr W41).1
      have Kk41 := Kk40.wr W41 (Or.inr sz_b38)
      have N41 := Fr.snoc X41 N40 g_b38
      refine go st41 ?_
      show Goes p.tables e below _ (T41.setTop (mkF m 62 #[.val (.int p0), .val (.int p1), .val (.int p2), .val (.int p3), .val (.int p4), .val (.int (2 : Int32)), .val (.int (1 : Int32)), .val (.ref b38), .unset, .unset, .unset, .unset, .unset] []))
      refine go (fun t kt => XS.aload X41.here hx rfl (hb hby at_62) rfl rfl kt) ?_
      show Goes p.tables e below _ (T41.setTop (mkF m 64 #[.val (.int p0), .val (.int p1), .val (.int p2), .val (.int p3), .val (.int p4), .val (.int (2 : Int32)), .val (.int (1 : Int32)), .val (.ref b38), .unset, .unset, .unset, .unset, .unset] [(.ref b38)]))
      refine go (fun t kt => XS.iconst X41.here hx rfl (hb hby at_64) kt) ?_
      show Goes p.tables e below _ (T41.setTop (mkF m 65 #[.val (.int p0), .val (.int p1), .val (.int p2), .val (.int p3), .val (.int p4), .val (.int (2 : Int32)), .val (.int (1 : Int32)), .val (.ref b38), .unset, .unset, .unset, .unset, .unset] [(.int (3 : Int32)), (.ref b38)]))
      refine go (fun t kt => XS.iloadN X41.here hx rfl (hb hby at_65) rfl kt) ?_
      show Goes p.tables e below _ (T41.setTop (mkF m 66 #[.val (.int p0), .val (.int p1), .val (.int p2), .val (.int p3), .val (.int p4), .val (.int (2 : Int32)), .val (.int (1 : Int32)), .val (.ref b38), .unset, .unset, .unset, .unset, .unset] [(.int p2), (.int (3 : Int32)), (.ref b38)]))
      obtain ⟨cl42, Ar42, q42, S42, M42, H42, G42⟩ := V_b38
      have hin42 : ¬ ((3 : Int32) < 0 ∨ cl42.slots.size ≤ ((3 : Int32)).toNatClampNeg) := inb_of S42 ⟨by decide, by decide⟩
      obtain ⟨T42, h42, X42, e42, W42, st42⟩ := stI X41 hx hZ e41 Ar42 (j := (3 : Int32)) hin42 (g := (mkF m 66 #[.val (.int p0), .val (.int p1), .val (.int p2), .val (.int p3), .val (.int p4), .val (.int (2 : Int32)), .val (.int (1 : Int32)), .val (.ref b38), .unset, .unset, .unset, .unset, .unset] [(.int p2), (.int (3 : Int32)), (.ref b38)])) rfl rfl (hb hby at_66)
      have V_b38 : Arv Z h42 b38 k38 .int (4 : Int32) [(.int p3), (.int p0), (.int p1), (.int p2)] (.int (0 : Int32)) := Arv.set Ar42 q42 S42 M42 H42 G42 rfl W42 3 rfl (Nat.le_of_ble_eq_true rfl)
      have Zz42 := Nat.le_trans Zz41 (Keep.of_wr W42).1
      have Kk42 := Kk41.wr W42 (Or.inr sz_b38)
      have N42 := Fr.snoc X42 N41 g_b38
      refine go st42 ?_
      show Goes p.tables e below _ (T42.setTop (mkF m 67 #[.val (.int p0), .val (.int p1), .val (.int p2), .val (.int p3), .val (.int p4), .val (.int (2 : Int32)), .val (.int (1 : Int32)), .val (.ref b38), .unset, .unset, .unset, .unset, .unset] []))
      refine go (X42.ldcInt hx hown (mvT hZ (hw _ (List.mem_of_getElem? (i := 1) rfl))) (g := (mkF m 67 #[.val (.int p0), .val (.int p1), .val (.int p2), .val (.int p3), .val (.int p4), .val (.int (2 : Int32)), .val (.int (1 : Int32)), .val (.ref b38), .unset, .unset, .unset, .unset, .unset] [])) rfl (hb hby at_67)) ?_
      show Goes p.tables e below _ (T42.setTop (mkF m 69 #[.val (.int p0), .val (.int p1), .val (.int p2), .val (.int p3), .val (.int p4), .val (.int (2 : Int32)), .val (.int (1 : Int32)), .val (.ref b38), .unset, .unset, .unset, .unset, .unset] [(.int (-1640531535 : Int32))]))
      refine go (fun t kt => XS.istore X42.here hx rfl (hb hby at_69) rfl (l' := #[.val (.int p0), .val (.int p1), .val (.int p2), .val (.int p3), .val (.int p4), .val (.int (2 : Int32)), .val (.int (1 : Int32)), .val (.ref b38), .val (.int (-1640531535 : Int32)), .unset, .unset, .unset, .unset]) rfl kt) ?_
      show Goes p.tables e below _ (T42.setTop (mkF m 71 #[.val (.int p0), .val (.int p1), .val (.int p2), .val (.int p3), .val (.int p4), .val (.int (2 : Int32)), .val (.int (1 : Int32)), .val (.ref b38), .val (.int (-1640531535 : Int32)), .unset, .unset, .unset, .unset] []))
      refine go (fun t kt => XS.iload X42.here hx rfl (hb hby at_71) rfl kt) ?_
      show Goes p.tables e below _ (T42.setTop (mkF m 73 #[.val (.int p0), .val (.int p1), .val (.int p2), .val (.int p3), .val (.int p4), .val (.int (2 : Int32)), .val (.int (1 : Int32)), .val (.ref b38), .val (.int (-1640531535 : Int32)), .unset, .unset, .unset, .unset] [(.int (-1640531535 : Int32))]))
      refine go (fun t kt => XS.iload X42.here hx rfl (hb hby at_73) rfl kt) ?_
      show Goes p.tables e below _ (T42.setTop (mkF m 75 #[.val (.int p0), .val (.int p1), .val (.int p2), .val (.int p3), .val (.int p4), .val (.int (2 : Int32)), .val (.int (1 : Int32)), .val (.ref b38), .val (.int (-1640531535 : Int32)), .unset, .unset, .unset, .unset] [(.int (-1640531535 : Int32)), (.int (-1640531535 : Int32))]))
      refine go (fun t kt => XS.imul X42.here hx rfl (hb hby at_75) rfl kt) ?_
      show Goes p.tables e below _ (T42.setTop (mkF m 76 #[.val (.int p0), .val (.int p1), .val (.int p2), .val (.int p3), .val (.int p4), .val (.int (2 : Int32)), .val (.int (1 : Int32)), .val (.ref b38), .val (.int (-1640531535 : Int32)), .unset, .unset, .unset, .unset] [(.int ((-1640531535 : Int32) * (-1640531535 : Int32)))]))
      refine go (fun t kt => XS.istore X42.here hx rfl (hb hby at_76) rfl (l' := #[.val (.int p0), .val (.int p1), .val (.int p2), .val (.int p3), .val (.int p4), .val (.int (2 : Int32)), .val (.int (1 : Int32)), .val (.ref b38), .val (.int (-1640531535 : Int32)), .val (.int ((-1640531535 : Int32) * (-1640531535 : Int32))), .unset, .unset, .unset]) rfl kt) ?_
      show Goes p.tables e below _ (T42.setTop (mkF m 78 #[.val (.int p0), .val (.int p1), .val (.int p2), .val (.int p3), .val (.int p4), .val (.int (2 : Int32)), .val (.int (1 : Int32)), .val (.ref b38), .val (.int (-1640531535 : Int32)), .val (.int ((-1640531535 : Int32) * (-1640531535 : Int32))), .unset, .unset, .unset] []))
      refine go (fun t kt => XS.iload X42.here hx rfl (hb hby at_78) rfl kt) ?_
      show Goes p.tables e below _ (T42.setTop (mkF m 80 #[.val (.int p0), .val (.int p1), .val (.int p2), .val (.int p3), .val (.int p4), .val (.int (2 : Int32)), .val (.int (1 : Int32)), .val (.ref b38), .val (.int (-1640531535 : Int32)), .val (.int ((-1640531535 : Int32) * (-1640531535 : Int32))), .unset, .unset, .unset] [(.int ((-1640531535 : Int32) * (-1640531535 : Int32)))]))
      refine go (fun t kt => XS.iload X42.here hx rfl (hb hby at_80) rfl kt) ?_
      show Goes p.tables e below _ (T42.setTop (mkF m 82 #[.val (.int p0), .val (.int p1), .val (.int p2), .val (.int p3), .val (.int p4), .val (.int (2 : Int32)), .val (.int (1 : Int32)), .val (.ref b38), .val (.int (-1640531535 : Int32)), .val (.int ((-1640531535 : Int32) * (-1640531535 : Int32))), .unset, .unset, .unset] [(.int (-1640531535 : Int32)), (.int ((-1640531535 : Int32) * (-1640531535 : Int32)))]))
      refine go (fun t kt => XS.imul X42.here hx rfl (hb hby at_82) rfl kt) ?_
      show Goes p.tables e below _ (T42.setTop (mkF m 83 #[.val (.int p0), .val (.int p1), .val (.int p2), .val (.int p3), .val (.int p4), .val (.int (2 : Int32)), .val (.int (1 : Int32)), .val (.ref b38), .val (.int (-1640531535 : Int32)), .val (.int ((-1640531535 : Int32) * (-1640531535 : Int32))), .unset, .unset, .unset] [(.int (((-1640531535 : Int32) * (-1640531535 : Int32)) * (-1640531535 : Int32)))]))
      refine go (fun t kt => XS.istore X42.here hx rfl (hb hby at_83) rfl (l' := #[.val (.int p0), .val (.int p1), .val (.int p2), .val (.int p3), .val (.int p4), .val (.int (2 : Int32)), .val (.int (1 : Int32)), .val (.ref b38), .val (.int (-1640531535 : Int32)), .val (.int ((-1640531535 : Int32) * (-1640531535 : Int32))), .val (.int (((-1640531535 : Int32) * (-1640531535 : Int32)) * (-1640531535 : Int32))), .unset, .unset]) rfl kt) ?_
      show Goes p.tables e below _ (T42.setTop (mkF m 85 #[.val (.int p0), .val (.int p1), .val (.int p2), .val (.int p3), .val (.int p4), .val (.int (2 : Int32)), .val (.int (1 : Int32)), .val (.ref b38), .val (.int (-1640531535 : Int32)), .val (.int ((-1640531535 : Int32) * (-1640531535 : Int32))), .val (.int (((-1640531535 : Int32) * (-1640531535 : Int32)) * (-1640531535 : Int32))), .unset, .unset] []))
      refine go (fun t kt => XS.iload X42.here hx rfl (hb hby at_85) rfl kt) ?_
      show Goes p.tables e below _ (T42.setTop (mkF m 87 #[.val (.int p0), .val (.int p1), .val (.int p2), .val (.int p3), .val (.int p4), .val (.int (2 : Int32)), .val (.int (1 : Int32)), .val (.ref b38), .val (.int (-1640531535 : Int32)), .val (.int ((-1640531535 : Int32) * (-1640531535 : Int32))), .val (.int (((-1640531535 : Int32) * (-1640531535 : Int32)) * (-1640531535 : Int32))), .unset, .unset] [(.int (2 : Int32))]))
      refine go (fun t kt => XS.ifYes X42.here hx rfl (pc0 := 87) (pc' := 96) rfl (hb hby at_87) rfl ((if0 _ _).trans (feq (by decide : ¬ ((2 : Int32) = (0 : Int32)))).2) (by decide) (by decide) kt) ?_
      show Goes p.tables e below _ (T42.setTop (mkF m 96 #[.val (.int p0), .val (.int p1), .val (.int p2), .val (.int p3), .val (.int p4), .val (.int (2 : Int32)), .val (.int (1 : Int32)), .val (.ref b38), .val (.int (-1640531535 : Int32)), .val (.int ((-1640531535 : Int32) * (-1640531535 : Int32))), .val (.int (((-1640531535 : Int32) * (-1640531535 : Int32)) * (-1640531535 : Int32))), .unset, .unset] []))
      refine go (fun t kt => XS.iload X42.here hx rfl (hb hby at_96) rfl kt) ?_
      show Goes p.tables e below _ (T42.setTop (mkF m 98 #[.val (.int p0), .val (.int p1), .val (.int p2), .val (.int p3), .val (.int p4), .val (.int (2 : Int32)), .val (.int (1 : Int32)), .val (.ref b38), .val (.int (-1640531535 : Int32)), .val (.int ((-1640531535 : Int32) * (-1640531535 : Int32))), .val (.int (((-1640531535 : Int32) * (-1640531535 : Int32)) * (-1640531535 : Int32))), .unset, .unset] [(.int (2 : Int32))]))
      refine go (fun t kt => XS.iconst X42.here hx rfl (hb hby at_98) kt) ?_
      show Goes p.tables e below _ (T42.setTop (mkF m 99 #[.val (.int p0), .val (.int p1), .val (.int p2), .val (.int p3), .val (.int p4), .val (.int (2 : Int32)), .val (.int (1 : Int32)), .val (.ref b38), .val (.int (-1640531535 : Int32)), .val (.int ((-1640531535 : Int32) * (-1640531535 : Int32))), .val (.int (((-1640531535 : Int32) * (-1640531535 : Int32)) * (-1640531535 : Int32))), .unset, .unset] [(.int (1 : Int32)), (.int (2 : Int32))]))
      refine go (fun t kt => XS.icmpYes X42.here hx rfl (pc0 := 99) (pc' := 111) rfl (hb hby at_99) rfl (feq (by decide : ¬ ((2 : Int32) = (1 : Int32)))).2 (by decide) (by decide) kt) ?_
      show Goes p.tables e below _ (T42.setTop (mkF m 111 #[.val (.int p0), .val (.int p1), .val (.int p2), .val (.int p3), .val (.int p4), .val (.int (2 : Int32)), .val (.int (1 : Int32)), .val (.ref b38), .val (.int (-1640531535 : Int32)), .val (.int ((-1640531535 : Int32) * (-1640531535 : Int32))), .val (.int (((-1640531535 : Int32) * (-1640531535 : Int32)) * (-1640531535 : Int32))), .unset, .unset] []))
      refine go (fun t kt => XS.iload X42.here hx rfl (hb hby at_111) rfl kt) ?_
      show Goes p.tables e below _ (T42.setTop (mkF m 113 #[.val (.int p0), .val (.int p1), .val (.int p2), .val (.int p3), .val (.int p4), .val (.int (2 : Int32)), .val (.int (1 : Int32)), .val (.ref b38), .val (.int (-1640531535 : Int32)), .val (.int ((-1640531535 : Int32) * (-1640531535 : Int32))), .val (.int (((-1640531535 : Int32) * (-1640531535 : Int32)) * (-1640531535 : Int32))), .unset, .unset] [(.int (2 : Int32))]))
      refine go (fun t kt => XS.iconst X42.here hx rfl (hb hby at_113) kt) ?_
      show Goes p.tables e below _ (T42.setTop (mkF m 114 #[.val (.int p0), .val (.int p1), .val (.int p2), .val (.int p3), .val (.int p4), .val (.int (2 : Int32)), .val (.int (1 : Int32)), .val (.ref b38), .val (.int (-1640531535 : Int32)), .val (.int ((-1640531535 : Int32) * (-1640531535 : Int32))), .val (.int (((-1640531535 : Int32) * (-1640531535 : Int32)) * (-1640531535 : Int32))), .unset, .unset] [(.int (2 : Int32)), (.int (2 : Int32))]))
      refine go (fun t kt => XS.icmpNo X42.here hx rfl (hb hby at_114) rfl (teq (by decide : ((2 : Int32) = (2 : Int32)))).2 kt) ?_
      show Goes p.tables e below _ (T42.setTop (mkF m 117 #[.val (.int p0), .val (.int p1), .val (.int p2), .val (.int p3), .val (.int p4), .val (.int (2 : Int32)), .val (.int (1 : Int32)), .val (.ref b38), .val (.int (-1640531535 : Int32)), .val (.int ((-1640531535 : Int32) * (-1640531535 : Int32))), .val (.int (((-1640531535 : Int32) * (-1640531535 : Int32)) * (-1640531535 : Int32))), .unset, .unset] []))
      refine go (fun t kt => XS.iloadN X42.here hx rfl (hb hby at_117) rfl kt) ?_
      show Goes p.tables e below _ (T42.setTop (mkF m 118 #[.val (.int p0), .val (.int p1), .val (.int p2), .val (.int p3), .val (.int p4), .val (.int (2 : Int32)), .val (.int (1 : Int32)), .val (.ref b38), .val (.int (-1640531535 : Int32)), .val (.int ((-1640531535 : Int32) * (-1640531535 : Int32))), .val (.int (((-1640531535 : Int32) * (-1640531535 : Int32)) * (-1640531535 : Int32))), .unset, .unset] [(.int p0)]))
      refine go (fun t kt => XS.iload X42.here hx rfl (hb hby at_118) rfl kt) ?_
      show Goes p.tables e below _ (T42.setTop (mkF m 120 #[.val (.int p0), .val (.int p1), .val (.int p2), .val (.int p3), .val (.int p4), .val (.int (2 : Int32)), .val (.int (1 : Int32)), .val (.ref b38), .val (.int (-1640531535 : Int32)), .val (.int ((-1640531535 : Int32) * (-1640531535 : Int32))), .val (.int (((-1640531535 : Int32) * (-1640531535 : Int32)) * (-1640531535 : Int32))), .unset, .unset] [(.int ((-1640531535 : Int32) * (-1640531535 : Int32))), (.int p0)]))
      refine go (fun t kt => XS.imul X42.here hx rfl (hb hby at_120) rfl kt) ?_
      show Goes p.tables e below _ (T42.setTop (mkF m 121 #[.val (.int p0), .val (.int p1), .val (.int p2), .val (.int p3), .val (.int p4), .val (.int (2 : Int32)), .val (.int (1 : Int32)), .val (.ref b38), .val (.int (-1640531535 : Int32)), .val (.int ((-1640531535 : Int32) * (-1640531535 : Int32))), .val (.int (((-1640531535 : Int32) * (-1640531535 : Int32)) * (-1640531535 : Int32))), .unset, .unset] [(.int (p0 * ((-1640531535 : Int32) * (-1640531535 : Int32))))]))
      refine go (fun t kt => XS.iloadN X42.here hx rfl (hb hby at_121) rfl kt) ?_
      show Goes p.tables e below _ (T42.setTop (mkF m 122 #[.val (.int p0), .val (.int p1), .val (.int p2), .val (.int p3), .val (.int p4), .val (.int (2 : Int32)), .val (.int (1 : Int32)), .val (.ref b38), .val (.int (-1640531535 : Int32)), .val (.int ((-1640531535 : Int32) * (-1640531535 : Int32))), .val (.int (((-1640531535 : Int32) * (-1640531535 : Int32)) * (-1640531535 : Int32))), .unset, .unset] [(.int p1), (.int (p0 * ((-1640531535 : Int32) * (-1640531535 : Int32))))]))
      refine go (fun t kt => XS.iload X42.here hx rfl (hb hby at_122) rfl kt) ?_
      show Goes p.tables e below _ (T42.setTop (mkF m 124 #[.val (.int p0), .val (.int p1), .val (.int p2), .val (.int p3), .val (.int p4), .val (.int (2 : Int32)), .val (.int (1 : Int32)), .val (.ref b38), .val (.int (-1640531535 : Int32)), .val (.int ((-1640531535 : Int32) * (-1640531535 : Int32))), .val (.int (((-1640531535 : Int32) * (-1640531535 : Int32)) * (-1640531535 : Int32))), .unset, .unset] [(.int (-1640531535 : Int32)), (.int p1), (.int (p0 * ((-1640531535 : Int32) * (-1640531535 : Int32))))]))
      refine go (fun t kt => XS.imul X42.here hx rfl (hb hby at_124) rfl kt) ?_
      show Goes p.tables e below _ (T42.setTop (mkF m 125 #[.val (.int p0), .val (.int p1), .val (.int p2), .val (.int p3), .val (.int p4), .val (.int (2 : Int32)), .val (.int (1 : Int32)), .val (.ref b38), .val (.int (-1640531535 : Int32)), .val (.int ((-1640531535 : Int32) * (-1640531535 : Int32))), .val (.int (((-1640531535 : Int32) * (-1640531535 : Int32)) * (-1640531535 : Int32))), .unset, .unset] [(.int (p1 * (-1640531535 : Int32))), (.int (p0 * ((-1640531535 : Int32) * (-1640531535 : Int32))))]))
      refine go (fun t kt => XS.iadd X42.here hx rfl (hb hby at_125) rfl kt) ?_
      show Goes p.tables e below _ (T42.setTop (mkF m 126 #[.val (.int p0), .val (.int p1), .val (.int p2), .val (.int p3), .val (.int p4), .val (.int (2 : Int32)), .val (.int (1 : Int32)), .val (.ref b38), .val (.int (-1640531535 : Int32)), .val (.int ((-1640531535 : Int32) * (-1640531535 : Int32))), .val (.int (((-1640531535 : Int32) * (-1640531535 : Int32)) * (-1640531535 : Int32))), .unset, .unset] [(.int ((p0 * ((-1640531535 : Int32) * (-1640531535 : Int32))) + (p1 * (-1640531535 : Int32))))]))
      refine go (fun t kt => XS.istore X42.here hx rfl (hb hby at_126) rfl (l' := #[.val (.int p0), .val (.int p1), .val (.int p2), .val (.int p3), .val (.int p4), .val (.int (2 : Int32)), .val (.int (1 : Int32)), .val (.ref b38), .val (.int (-1640531535 : Int32)), .val (.int ((-1640531535 : Int32) * (-1640531535 : Int32))), .val (.int (((-1640531535 : Int32) * (-1640531535 : Int32)) * (-1640531535 : Int32))), .val (.int ((p0 * ((-1640531535 : Int32) * (-1640531535 : Int32))) + (p1 * (-1640531535 : Int32)))), .unset]) rfl kt) ?_
      show Goes p.tables e below _ (T42.setTop (mkF m 128 #[.val (.int p0), .val (.int p1), .val (.int p2), .val (.int p3), .val (.int p4), .val (.int (2 : Int32)), .val (.int (1 : Int32)), .val (.ref b38), .val (.int (-1640531535 : Int32)), .val (.int ((-1640531535 : Int32) * (-1640531535 : Int32))), .val (.int (((-1640531535 : Int32) * (-1640531535 : Int32)) * (-1640531535 : Int32))), .val (.int ((p0 * ((-1640531535 : Int32) * (-1640531535 : Int32))) + (p1 * (-1640531535 : Int32)))), .unset] []))
      refine go (fun t kt => XS.goto X42.here hx rfl (pc0 := 128) (pc' := 147) rfl (hb hby at_128) (by decide) (by decide) kt) ?_
      show Goes p.tables e below _ (T42.setTop (mkF m 147 #[.val (.int p0), .val (.int p1), .val (.int p2), .val (.int p3), .val (.int p4), .val (.int (2 : Int32)), .val (.int (1 : Int32)), .val (.ref b38), .val (.int (-1640531535 : Int32)), .val (.int ((-1640531535 : Int32) * (-1640531535 : Int32))), .val (.int (((-1640531535 : Int32) * (-1640531535 : Int32)) * (-1640531535 : Int32))), .val (.int ((p0 * ((-1640531535 : Int32) * (-1640531535 : Int32))) + (p1 * (-1640531535 : Int32)))), .unset] []))
      refine go (fun t kt => XS.iload X42.here hx rfl (hb hby at_147) rfl kt) ?_
      show Goes p.tables e below _ (T42.setTop (mkF m 149 #[.val (.int p0), .val (.int p1), .val (.int p2), .val (.int p3), .val (.int p4), .val (.int (2 : Int32)), .val (.int (1 : Int32)), .val (.ref b38), .val (.int (-1640531535 : Int32)), .val (.int ((-1640531535 : Int32) * (-1640531535 : Int32))), .val (.int (((-1640531535 : Int32) * (-1640531535 : Int32)) * (-1640531535 : Int32))), .val (.int ((p0 * ((-1640531535 : Int32) * (-1640531535 : Int32))) + (p1 * (-1640531535 : Int32)))), .unset] [(.int ((p0 * ((-1640531535 : Int32) * (-1640531535 : Int32))) + (p1 * (-1640531535 : Int32))))]))
      refine go (fun t kt => XS.iload X42.here hx rfl (hb hby at_149) rfl kt) ?_
      show Goes p.tables e below _ (T42.setTop (mkF m 151 #[.val (.int p0), .val (.int p1), .val (.int p2), .val (.int p3), .val (.int p4), .val (.int (2 : Int32)), .val (.int (1 : Int32)), .val (.ref b38), .val (.int (-1640531535 : Int32)), .val (.int ((-1640531535 : Int32) * (-1640531535 : Int32))), .val (.int (((-1640531535 : Int32) * (-1640531535 : Int32)) * (-1640531535 : Int32))), .val (.int ((p0 * ((-1640531535 : Int32) * (-1640531535 : Int32))) + (p1 * (-1640531535 : Int32)))), .unset] [(.int ((p0 * ((-1640531535 : Int32) * (-1640531535 : Int32))) + (p1 * (-1640531535 : Int32)))), (.int ((p0 * ((-1640531535 : Int32) * (-1640531535 : Int32))) + (p1 * (-1640531535 : Int32))))]))
      refine go (fun t kt => XS.bipush X42.here hx rfl (hb hby at_151) kt) ?_
      show Goes p.tables e below _ (T42.setTop (mkF m 153 #[.val (.int p0), .val (.int p1), .val (.int p2), .val (.int p3), .val (.int p4), .val (.int (2 : Int32)), .val (.int (1 : Int32)), .val (.ref b38), .val (.int (-1640531535 : Int32)), .val (.int ((-1640531535 : Int32) * (-1640531535 : Int32))), .val (.int (((-1640531535 : Int32) * (-1640531535 : Int32)) * (-1640531535 : Int32))), .val (.int ((p0 * ((-1640531535 : Int32) * (-1640531535 : Int32))) + (p1 * (-1640531535 : Int32)))), .unset] [(.int (16 : Int32)), (.int ((p0 * ((-1640531535 : Int32) * (-1640531535 : Int32))) + (p1 * (-1640531535 : Int32)))), (.int ((p0 * ((-1640531535 : Int32) * (-1640531535 : Int32))) + (p1 * (-1640531535 : Int32))))]))
      refine go (fun t kt => XS.iushr X42.here hx rfl (hb hby at_153) rfl kt) ?_
      show Goes p.tables e below _ (T42.setTop (mkF m 154 #[.val (.int p0), .val (.int p1), .val (.int p2), .val (.int p3), .val (.int p4), .val (.int (2 : Int32)), .val (.int (1 : Int32)), .val (.ref b38), .val (.int (-1640531535 : Int32)), .val (.int ((-1640531535 : Int32) * (-1640531535 : Int32))), .val (.int (((-1640531535 : Int32) * (-1640531535 : Int32)) * (-1640531535 : Int32))), .val (.int ((p0 * ((-1640531535 : Int32) * (-1640531535 : Int32))) + (p1 * (-1640531535 : Int32)))), .unset] [(.int ((((p0 * ((-1640531535 : Int32) * (-1640531535 : Int32))) + (p1 * (-1640531535 : Int32))).toUInt32 >>> ((16 : Int32) &&& 31).toUInt32).toInt32)), (.int ((p0 * ((-1640531535 : Int32) * (-1640531535 : Int32))) + (p1 * (-1640531535 : Int32))))]))
      refine go (fun t kt => XS.ixor X42.here hx rfl (hb hby at_154) rfl kt) ?_
      show Goes p.tables e below _ (T42.setTop (mkF m 155 #[.val (.int p0), .val (.int p1), .val (.int p2), .val (.int p3), .val (.int p4), .val (.int (2 : Int32)), .val (.int (1 : Int32)), .val (.ref b38), .val (.int (-1640531535 : Int32)), .val (.int ((-1640531535 : Int32) * (-1640531535 : Int32))), .val (.int (((-1640531535 : Int32) * (-1640531535 : Int32)) * (-1640531535 : Int32))), .val (.int ((p0 * ((-1640531535 : Int32) * (-1640531535 : Int32))) + (p1 * (-1640531535 : Int32)))), .unset] [(.int (((p0 * ((-1640531535 : Int32) * (-1640531535 : Int32))) + (p1 * (-1640531535 : Int32))) ^^^ ((((p0 * ((-1640531535 : Int32) * (-1640531535 : Int32))) + (p1 * (-1640531535 : Int32))).toUInt32 >>> ((16 : Int32) &&& 31).toUInt32).toInt32)))]))
      refine go (fun t kt => XS.istore X42.here hx rfl (hb hby at_155) rfl (l' := #[.val (.int p0), .val (.int p1), .val (.int p2), .val (.int p3), .val (.int p4), .val (.int (2 : Int32)), .val (.int (1 : Int32)), .val (.ref b38), .val (.int (-1640531535 : Int32)), .val (.int ((-1640531535 : Int32) * (-1640531535 : Int32))), .val (.int (((-1640531535 : Int32) * (-1640531535 : Int32)) * (-1640531535 : Int32))), .val (.int ((p0 * ((-1640531535 : Int32) * (-1640531535 : Int32))) + (p1 * (-1640531535 : Int32)))), .val (.int (((p0 * ((-1640531535 : Int32) * (-1640531535 : Int32))) + (p1 * (-1640531535 : Int32))) ^^^ ((((p0 * ((-1640531535 : Int32) * (-1640531535 : Int32))) + (p1 * (-1640531535 : Int32))).toUInt32 >>> ((16 : Int32) &&& 31).toUInt32).toInt32)))]) rfl kt) ?_
      show Goes p.tables e below _ (T42.setTop (mkF m 157 #[.val (.int p0), .val (.int p1), .val (.int p2), .val (.int p3), .val (.int p4), .val (.int (2 : Int32)), .val (.int (1 : Int32)), .val (.ref b38), .val (.int (-1640531535 : Int32)), .val (.int ((-1640531535 : Int32) * (-1640531535 : Int32))), .val (.int (((-1640531535 : Int32) * (-1640531535 : Int32)) * (-1640531535 : Int32))), .val (.int ((p0 * ((-1640531535 : Int32) * (-1640531535 : Int32))) + (p1 * (-1640531535 : Int32)))), .val (.int (((p0 * ((-1640531535 : Int32) * (-1640531535 : Int32))) + (p1 * (-1640531535 : Int32))) ^^^ ((((p0 * ((-1640531535 : Int32) * (-1640531535 : Int32))) + (p1 * (-1640531535 : Int32))).toUInt32 >>> ((16 : Int32) &&& 31).toUInt32).toInt32)))] []))
      refine go (fun t kt => XS.aload X42.here hx rfl (hb hby at_157) rfl rfl kt) ?_
      show Goes p.tables e below _ (T42.setTop (mkF m 159 #[.val (.int p0), .val (.int p1), .val (.int p2), .val (.int p3), .val (.int p4), .val (.int (2 : Int32)), .val (.int (1 : Int32)), .val (.ref b38), .val (.int (-1640531535 : Int32)), .val (.int ((-1640531535 : Int32) * (-1640531535 : Int32))), .val (.int (((-1640531535 : Int32) * (-1640531535 : Int32)) * (-1640531535 : Int32))), .val (.int ((p0 * ((-1640531535 : Int32) * (-1640531535 : Int32))) + (p1 * (-1640531535 : Int32)))), .val (.int (((p0 * ((-1640531535 : Int32) * (-1640531535 : Int32))) + (p1 * (-1640531535 : Int32))) ^^^ ((((p0 * ((-1640531535 : Int32) * (-1640531535 : Int32))) + (p1 * (-1640531535 : Int32))).toUInt32 >>> ((16 : Int32) &&& 31).toUInt32).toInt32)))] [(.ref b38)]))
      refine go (fun t kt => XS.iload X42.here hx rfl (hb hby at_159) rfl kt) ?_
      show Goes p.tables e below _ (T42.setTop (mkF m 161 #[.val (.int p0), .val (.int p1), .val (.int p2), .val (.int p3), .val (.int p4), .val (.int (2 : Int32)), .val (.int (1 : Int32)), .val (.ref b38), .val (.int (-1640531535 : Int32)), .val (.int ((-1640531535 : Int32) * (-1640531535 : Int32))), .val (.int (((-1640531535 : Int32) * (-1640531535 : Int32)) * (-1640531535 : Int32))), .val (.int ((p0 * ((-1640531535 : Int32) * (-1640531535 : Int32))) + (p1 * (-1640531535 : Int32)))), .val (.int (((p0 * ((-1640531535 : Int32) * (-1640531535 : Int32))) + (p1 * (-1640531535 : Int32))) ^^^ ((((p0 * ((-1640531535 : Int32) * (-1640531535 : Int32))) + (p1 * (-1640531535 : Int32))).toUInt32 >>> ((16 : Int32) &&& 31).toUInt32).toInt32)))] [(.int (1 : Int32)), (.ref b38)]))
      refine go (fun t kt => XS.iload X42.here hx rfl (hb hby at_161) rfl kt) ?_
      show Goes p.tables e below _ (T42.setTop (mkF m 163 #[.val (.int p0), .val (.int p1), .val (.int p2), .val (.int p3), .val (.int p4), .val (.int (2 : Int32)), .val (.int (1 : Int32)), .val (.ref b38), .val (.int (-1640531535 : Int32)), .val (.int ((-1640531535 : Int32) * (-1640531535 : Int32))), .val (.int (((-1640531535 : Int32) * (-1640531535 : Int32)) * (-1640531535 : Int32))), .val (.int ((p0 * ((-1640531535 : Int32) * (-1640531535 : Int32))) + (p1 * (-1640531535 : Int32)))), .val (.int (((p0 * ((-1640531535 : Int32) * (-1640531535 : Int32))) + (p1 * (-1640531535 : Int32))) ^^^ ((((p0 * ((-1640531535 : Int32) * (-1640531535 : Int32))) + (p1 * (-1640531535 : Int32))).toUInt32 >>> ((16 : Int32) &&& 31).toUInt32).toInt32)))] [(.int (2 : Int32)), (.int (1 : Int32)), (.ref b38)]))
      obtain ⟨_, _, ⟨T43, L43, k43, n43⟩, -, X43, ⟨Lc43, hQ43, l43, y43, z43⟩, st43⟩ := Jvm.LawKit.callS X42 hx (y := (⟨"com/example/limpet/limpet/model/NodeLabel", "hashOf", "([III)I"⟩ : MethodName)) hown (mvT hZ (hw _ (List.mem_of_getElem? (i := 2) rfl))) (mvT hZ (hw _ (List.mem_of_getElem? (i := 3) rfl))) (mvT hZ (hw _ (List.mem_of_getElem? (i := 4) rfl))) (mvT hZ (hw _ (List.mem_of_getElem? (i := 5) rfl))) (by decide) (backOf (W := 0) (rmh12 l Z a0 hw [] b38 k38 p3 p0 p1 p2 h42 n0 Zz42 V_b38) hZ (hw _ (List.mem_of_getElem? (i := 5) rfl)) (hw _ (List.mem_of_getElem? (i := 4) rfl)) (by decide) (by decide)) (g := (mkF m 163 #[.val (.int p0), .val (.int p1), .val (.int p2), .val (.int p3), .val (.int p4), .val (.int (2 : Int32)), .val (.int (1 : Int32)), .val (.ref b38), .val (.int (-1640531535 : Int32)), .val (.int ((-1640531535 : Int32) * (-1640531535 : Int32))), .val (.int (((-1640531535 : Int32) * (-1640531535 : Int32)) * (-1640531535 : Int32))), .val (.int ((p0 * ((-1640531535 : Int32) * (-1640531535 : Int32))) + (p1 * (-1640531535 : Int32)))), .val (.int (((p0 * ((-1640531535 : Int32) * (-1640531535 : Int32))) + (p1 * (-1640531535 : Int32))) ^^^ ((((p0 * ((-1640531535 : Int32) * (-1640531535 : Int32))) + (p1 * (-1640531535 : Int32))).toUInt32 >>> ((16 : Int32) &&& 31).toUInt32).toInt32)))] [(.int (2 : Int32)), (.int (1 : Int32)), (.ref b38)])) rfl (by rw [hml]; rfl) (argsL := [(.ref b38), (.int (1 : Int32)), (.int (2 : Int32))]) (rest := []) (lenOf pd_0 rfl) rfl (by show 2 * 0 + _ ≤ _; exact Nat.le_of_eq rfl) (hb hby at_163) (fun _ _ => ⟨rfl, e42, (by decide : 1 + 0 ≤ _), (by decide : 4 + 0 ≤ _)⟩)
      dsimp only [Pt.U, Pt.locs, Pt.cells, Pt.slots] at X43 l43 y43 z43 st43 hQ43
      subst l43 y43 z43
      obtain ⟨rfl, Nq43, e43⟩ := hQ43
      have N43 := Fr.app N42 Nq43
      refine go st43 ?_
      show Goes p.tables e below _ (T43.setTop (mkF m 166 #[.val (.int p0), .val (.int p1), .val (.int p2), .val (.int p3), .val (.int p4), .val (.int (2 : Int32)), .val (.int (1 : Int32)), .val (.ref b38), .val (.int (-1640531535 : Int32)), .val (.int ((-1640531535 : Int32) * (-1640531535 : Int32))), .val (.int (((-1640531535 : Int32) * (-1640531535 : Int32)) * (-1640531535 : Int32))), .val (.int ((p0 * ((-1640531535 : Int32) * (-1640531535 : Int32))) + (p1 * (-1640531535 : Int32)))), .val (.int (((p0 * ((-1640531535 : Int32) * (-1640531535 : Int32))) + (p1 * (-1640531535 : Int32))) ^^^ ((((p0 * ((-1640531535 : Int32) * (-1640531535 : Int32))) + (p1 * (-1640531535 : Int32))).toUInt32 >>> ((16 : Int32) &&& 31).toUInt32).toInt32)))] [(.int (own_h12 p0 p1))]))
      refine go (fun t kt => XS.iload X43.here hx rfl (hb hby at_166) rfl kt) ?_
      show Goes p.tables e below _ (T43.setTop (mkF m 168 #[.val (.int p0), .val (.int p1), .val (.int p2), .val (.int p3), .val (.int p4), .val (.int (2 : Int32)), .val (.int (1 : Int32)), .val (.ref b38), .val (.int (-1640531535 : Int32)), .val (.int ((-1640531535 : Int32) * (-1640531535 : Int32))), .val (.int (((-1640531535 : Int32) * (-1640531535 : Int32)) * (-1640531535 : Int32))), .val (.int ((p0 * ((-1640531535 : Int32) * (-1640531535 : Int32))) + (p1 * (-1640531535 : Int32)))), .val (.int (((p0 * ((-1640531535 : Int32) * (-1640531535 : Int32))) + (p1 * (-1640531535 : Int32))) ^^^ ((((p0 * ((-1640531535 : Int32) * (-1640531535 : Int32))) + (p1 * (-1640531535 : Int32))).toUInt32 >>> ((16 : Int32) &&& 31).toUInt32).toInt32)))] [(.int (((p0 * ((-1640531535 : Int32) * (-1640531535 : Int32))) + (p1 * (-1640531535 : Int32))) ^^^ ((((p0 * ((-1640531535 : Int32) * (-1640531535 : Int32))) + (p1 * (-1640531535 : Int32))).toUInt32 >>> ((16 : Int32) &&& 31).toUInt32).toInt32))), (.int (own_h12 p0 p1))]))
      refine go (fun t kt => XS.icmpNo X43.here hx rfl (hb hby at_168) rfl (teq (by unfold own_h12; rw [own_e2])).2 kt) ?_
      show Goes p.tables e below _ (T43.setTop (mkF m 171 #[.val (.int p0), .val (.int p1), .val (.int p2), .val (.int p3), .val (.int p4), .val (.int (2 : Int32)), .val (.int (1 : Int32)), .val (.ref b38), .val (.int (-1640531535 : Int32)), .val (.int ((-1640531535 : Int32) * (-1640531535 : Int32))), .val (.int (((-1640531535 : Int32) * (-1640531535 : Int32)) * (-1640531535 : Int32))), .val (.int ((p0 * ((-1640531535 : Int32) * (-1640531535 : Int32))) + (p1 * (-1640531535 : Int32)))), .val (.int (((p0 * ((-1640531535 : Int32) * (-1640531535 : Int32))) + (p1 * (-1640531535 : Int32))) ^^^ ((((p0 * ((-1640531535 : Int32) * (-1640531535 : Int32))) + (p1 * (-1640531535 : Int32))).toUInt32 >>> ((16 : Int32) &&& 31).toUInt32).toInt32)))] []))
      refine go (fun t kt => XS.iconst X43.here hx rfl (hb hby at_171) kt) ?_
      show Goes p.tables e below _ (T43.setTop (mkF m 172 #[.val (.int p0), .val (.int p1), .val (.int p2), .val (.int p3), .val (.int p4), .val (.int (2 : Int32)), .val (.int (1 : Int32)), .val (.ref b38), .val (.int (-1640531535 : Int32)), .val (.int ((-1640531535 : Int32) * (-1640531535 : Int32))), .val (.int (((-1640531535 : Int32) * (-1640531535 : Int32)) * (-1640531535 : Int32))), .val (.int ((p0 * ((-1640531535 : Int32) * (-1640531535 : Int32))) + (p1 * (-1640531535 : Int32)))), .val (.int (((p0 * ((-1640531535 : Int32) * (-1640531535 : Int32))) + (p1 * (-1640531535 : Int32))) ^^^ ((((p0 * ((-1640531535 : Int32) * (-1640531535 : Int32))) + (p1 * (-1640531535 : Int32))).toUInt32 >>> ((16 : Int32) &&& 31).toUInt32).toInt32)))] [(.int (1 : Int32))]))
      refine go (fun t kt => XS.goto X43.here hx rfl (pc0 := 172) (pc' := 176) rfl (hb hby at_172) (by decide) (by decide) kt) ?_
      show Goes p.tables e below _ (T43.setTop (mkF m 176 #[.val (.int p0), .val (.int p1), .val (.int p2), .val (.int p3), .val (.int p4), .val (.int (2 : Int32)), .val (.int (1 : Int32)), .val (.ref b38), .val (.int (-1640531535 : Int32)), .val (.int ((-1640531535 : Int32) * (-1640531535 : Int32))), .val (.int (((-1640531535 : Int32) * (-1640531535 : Int32)) * (-1640531535 : Int32))), .val (.int ((p0 * ((-1640531535 : Int32) * (-1640531535 : Int32))) + (p1 * (-1640531535 : Int32)))), .val (.int (((p0 * ((-1640531535 : Int32) * (-1640531535 : Int32))) + (p1 * (-1640531535 : Int32))) ^^^ ((((p0 * ((-1640531535 : Int32) * (-1640531535 : Int32))) + (p1 * (-1640531535 : Int32))).toUInt32 >>> ((16 : Int32) &&& 31).toUInt32).toInt32)))] [(.int (1 : Int32))]))
      obtain ⟨fs, hr, hrun, hended, hW, hsame⟩ := X43.leave (v := some (.int (1 : Int32))) (fun h => by rw [Bd.returns] at h; cases h)
      refine ⟨_, _, retN X43 hx (t := .boolean) Bd.returns (by simp) (hb hby at_176) hr, hrun, hended, _, _, rfl, ?_, ⟨_, rfl⟩, hW, hsame.mono (by decide) (by decide)⟩
      show Q0 Z p0 p1 p2 p3 p4 h0 n0 _ T43.heap _
      rw [e43]
      exact ⟨rfl, N43⟩
  ·
    rw [hk1]
    rcases own_c2 ((p4.toUInt32 >>> ((2 : Int32) &&& 31).toUInt32).toInt32) with hj2 | hj2
    ·
      rw [hj2]
      show Goes p.tables e below _ (s₁.setTop (mkF m 14 #[.val (.int p0), .val (.int p1), .val (.int p2), .val (.int p3), .val (.int p4), .val (.int (3 : Int32)), .val (.int (0 : Int32)), .unset, .unset, .unset, .unset, .unset, .unset] []))
      refine go (fun t kt => XS.iconst X0.here hx rfl (hb hby at_14) kt) ?_
      show Goes p.tables e below _ (s₁.setTop (mkF m 15 #[.val (.int p0), .val (.int p1), .val (.int p2), .val (.int p3), .val (.int p4), .val (.int (3 : Int32)), .val (.int (0 : Int32)), .unset, .unset, .unset, .unset, .unset, .unset] [(.int (4 : Int32))]))
      obtain ⟨T45, h45, k45, X45, e45, E45, A45, st45⟩ := newP X0 hx hZ (hw _ (List.mem_of_getElem? (i := 0) rfl)) e0 (g := (mkF m 15 #[.val (.int p0), .val (.int p1), .val (.int p2), .val (.int p3), .val (.int p4), .val (.int (3 : Int32)), .val (.int (0 : Int32)), .unset, .unset, .unset, .unset, .unset, .unset] [(.int (4 : Int32))])) rfl (hb hby at_15) rfl (by decide) (cap := 4) (by decide) (by decide) (by decide) (by decide)
      obtain ⟨b45, g45⟩ : ∃ z, z = h0.size := ⟨_, rfl⟩
      rw [← g45] at A45 st45
      have g_b45 : n0 ≤ b45 := Nat.le_trans Z0 (Nat.le_of_eq g45.symm)
      have sz_b45 : h0.size ≤ b45 := Nat.le_trans K0.1 (Nat.le_of_eq g45.symm)
      have Zz45 := Nat.le_trans Z0 E45.1
      have Kk45 := K0.ext E45
      have V_b45 : Arv Z h45 b45 k45 .int (4 : Int32) [(.int (0 : Int32)), (.int (0 : Int32)), (.int (0 : Int32)), (.int (0 : Int32))] (.int (0 : Int32)) := (Arv.new A45 (by decide)).pad (pad_rep [] (.int (0 : Int32)) 4)
      refine go st45 ?_
      show Goes p.tables e below _ (T45.setTop (mkF m 17 #[.val (.int p0), .val (.int p1), .val (.int p2), .val (.int p3), .val (.int p4), .val (.int (3 : Int32)), .val (.int (0 : Int32)), .unset, .unset, .unset, .unset, .unset, .unset] [(.ref b45)]))
      refine go (fun t kt => XS.astore X45.here hx rfl (hb hby at_17) rfl rfl (l' := #[.val (.int p0), .val (.int p1), .val (.int p2), .val (.int p3), .val (.int p4), .val (.int (3 : Int32)), .val (.int (0 : Int32)), .val (.ref b45), .unset, .unset, .unset, .unset, .unset]) rfl kt) ?_
      show Goes p.tables e below _ (T45.setTop (mkF m 19 #[.val (.int p0), .val (.int p1), .val (.int p2), .val (.int p3), .val (.int p4), .val (.int (3 : Int32)), .val (.int (0 : Int32)), .val (.ref b45), .unset, .unset, .unset, .unset, .unset] []))
      refine go (fun t kt => XS.iload X45.here hx rfl (hb hby at_19) rfl kt) ?_
      show Goes p.tables e below _ (T45.setTop (mkF m 21 #[.val (.int p0), .val (.int p1), .val (.int p2), .val (.int p3), .val (.int p4), .val (.int (3 : Int32)), .val (.int (0 : Int32)), .val (.ref b45), .unset, .unset, .unset, .unset, .unset] [(.int (0 : Int32))]))
      refine go (fun t kt => XS.ifNo X45.here hx rfl (hb hby at_21) rfl ((if0 _ _).trans (teq (by decide : ((0 : Int32) = (0 : Int32)))).2) kt) ?_
      show Goes p.tables e below _ (T45.setTop (mkF m 24 #[.val (.int p0), .val (.int p1), .val (.int p2), .val (.int p3), .val (.int p4), .val (.int (3 : Int32)), .val (.int (0 : Int32)), .val (.ref b45), .unset, .unset, .unset, .unset, .unset] []))
      refine go (fun t kt => XS.aload X45.here hx rfl (hb hby at_24) rfl rfl kt) ?_
      show Goes p.tables e below _ (T45.setTop (mkF m 26 #[.val (.int p0), .val (.int p1), .val (.int p2), .val (.int p3), .val (.int p4), .val (.int (3 : Int32)), .val (.int (0 : Int32)), .val (.ref b45), .unset, .unset, .unset, .unset, .unset] [(.ref b45)]))
      refine go (fun t kt => XS.iconst X45.here hx rfl (hb hby at_26) kt) ?_
      show Goes p.tables e below _ (T45.setTop (mkF m 27 #[.val (.int p0), .val (.int p1), .val (.int p2), .val (.int p3), .val (.int p4), .val (.int (3 : Int32)), .val (.int (0 : Int32)), .val (.ref b45), .unset, .unset, .unset, .unset, .unset] [(.int (0 : Int32)), (.ref b45)]))
      refine go (fun t kt => XS.iloadN X45.here hx rfl (hb hby at_27) rfl kt) ?_
      show Goes p.tables e below _ (T45.setTop (mkF m 28 #[.val (.int p0), .val (.int p1), .val (.int p2), .val (.int p3), .val (.int p4), .val (.int (3 : Int32)), .val (.int (0 : Int32)), .val (.ref b45), .unset, .unset, .unset, .unset, .unset] [(.int p0), (.int (0 : Int32)), (.ref b45)]))
      obtain ⟨cl46, Ar46, q46, S46, M46, H46, G46⟩ := V_b45
      have hin46 : ¬ ((0 : Int32) < 0 ∨ cl46.slots.size ≤ ((0 : Int32)).toNatClampNeg) := inb_of S46 ⟨by decide, by decide⟩
      obtain ⟨T46, h46, X46, e46, W46, st46⟩ := stI X45 hx hZ e45 Ar46 (j := (0 : Int32)) hin46 (g := (mkF m 28 #[.val (.int p0), .val (.int p1), .val (.int p2), .val (.int p3), .val (.int p4), .val (.int (3 : Int32)), .val (.int (0 : Int32)), .val (.ref b45), .unset, .unset, .unset, .unset, .unset] [(.int p0), (.int (0 : Int32)), (.ref b45)])) rfl rfl (hb hby at_28)
      have V_b45 : Arv Z h46 b45 k45 .int (4 : Int32) [(.int p0), (.int (0 : Int32)), (.int (0 : Int32)), (.int (0 : Int32))] (.int (0 : Int32)) := Arv.set Ar46 q46 S46 M46 H46 G46 rfl W46 0 rfl (Nat.le_of_ble_eq_true rfl)
      have Zz46 := Nat.le_trans Zz45 (Keep.of_wr W46).1
      have Kk46 := Kk45.wr W46 (Or.inr sz_b45)
      have N46 := Fr.snoc X46 N0 g_b45
      refine go st46 ?_
      show Goes p.tables e below _ (T46.setTop (mkF m 29 #[.val (.int p0), .val (.int p1), .val (.int p2), .val (.int p3), .val (.int p4), .val (.int (3 : Int32)), .val (.int (0 : Int32)), .val (.ref b45), .unset, .unset, .unset, .unset, .unset] []))
      refine go (fun t kt => XS.aload X46.here hx rfl (hb hby at_29) rfl rfl kt) ?_
      show Goes p.tables e below _ (T46.setTop (mkF m 31 #[.val (.int p0), .val (.int p1), .val (.int p2), .val (.int p3), .val (.int p4), .val (.int (3 : Int32)), .val (.int (0 : Int32)), .val (.ref b45), .unset, .unset, .unset, .unset, .unset] [(.ref b45)]))
      refine go (fun t kt => XS.iconst X46.here hx rfl (hb hby at_31) kt) ?_
      show Goes p.tables e below _ (T46.setTop (mkF m 32 #[.val (.int p0), .val (.int p1), .val (.int p2), .val (.int p3), .val (.int p4), .val (.int (3 : Int32)), .val (.int (0 : Int32)), .val (.ref b45), .unset, .unset, .unset, .unset, .unset] [(.int (1 : Int32)), (.ref b45)]))
      refine go (fun t kt => XS.iloadN X46.here hx rfl (hb hby at_32) rfl kt) ?_
      show Goes p.tables e below _ (T46.setTop (mkF m 33 #[.val (.int p0), .val (.int p1), .val (.int p2), .val (.int p3), .val (.int p4), .val (.int (3 : Int32)), .val (.int (0 : Int32)), .val (.ref b45), .unset, .unset, .unset, .unset, .unset] [(.int p1), (.int (1 : Int32)), (.ref b45)]))
      obtain ⟨cl47, Ar47, q47, S47, M47, H47, G47⟩ := V_b45
      have hin47 : ¬ ((1 : Int32) < 0 ∨ cl47.slots.size ≤ ((1 : Int32)).toNatClampNeg) := inb_of S47 ⟨by decide, by decide⟩
      obtain ⟨T47, h47, X47, e47, W47, st47⟩ := stI X46 hx hZ e46 Ar47 (j := (1 : Int32)) hin47 (g := (mkF m 33 #[.val (.int p0), .val (.int p1), .val (.int p2), .val (.int p3), .val (.int p4), .val (.int (3 : Int32)), .val (.int (0 : Int32)), .val (.ref b45), .unset, .unset, .unset, .unset, .unset] [(.int p1), (.int (1 : Int32)), (.ref b45)])) rfl rfl (hb hby at_33)
      have V_b45 : Arv Z h47 b45 k45 .int (4 : Int32) [(.int p0), (.int p1), (.int (0 : Int32)), (.int (0 : Int32))] (.int (0 : Int32)) := Arv.set Ar47 q47 S47 M47 H47 G47 rfl W47 1 rfl (Nat.le_of_ble_eq_true rfl)
      have Zz47 := Nat.le_trans Zz46 (Keep.of_wr W47).1
      have Kk47 := Kk46.wr W47 (Or.inr sz_b45)
      have N47 := Fr.snoc X47 N46 g_b45
      refine go st47 ?_
      show Goes p.tables e below _ (T47.setTop (mkF m 34 #[.val (.int p0), .val (.int p1), .val (.int p2), .val (.int p3), .val (.int p4), .val (.int (3 : Int32)), .val (.int (0 : Int32)), .val (.ref b45), .unset, .unset, .unset, .unset, .unset] []))
      refine go (fun t kt => XS.aload X47.here hx rfl (hb hby at_34) rfl rfl kt) ?_
      show Goes p.tables e below _ (T47.setTop (mkF m 36 #[.val (.int p0), .val (.int p1), .val (.int p2), .val (.int p3), .val (.int p4), .val (.int (3 : Int32)), .val (.int (0 : Int32)), .val (.ref b45), .unset, .unset, .unset, .unset, .unset] [(.ref b45)]))
      refine go (fun t kt => XS.iconst X47.here hx rfl (hb hby at_36) kt) ?_
      show Goes p.tables e below _ (T47.setTop (mkF m 37 #[.val (.int p0), .val (.int p1), .val (.int p2), .val (.int p3), .val (.int p4), .val (.int (3 : Int32)), .val (.int (0 : Int32)), .val (.ref b45), .unset, .unset, .unset, .unset, .unset] [(.int (2 : Int32)), (.ref b45)]))
      refine go (fun t kt => XS.iloadN X47.here hx rfl (hb hby at_37) rfl kt) ?_
      show Goes p.tables e below _ (T47.setTop (mkF m 38 #[.val (.int p0), .val (.int p1), .val (.int p2), .val (.int p3), .val (.int p4), .val (.int (3 : Int32)), .val (.int (0 : Int32)), .val (.ref b45), .unset, .unset, .unset, .unset, .unset] [(.int p2), (.int (2 : Int32)), (.ref b45)]))
      obtain ⟨cl48, Ar48, q48, S48, M48, H48, G48⟩ := V_b45
      have hin48 : ¬ ((2 : Int32) < 0 ∨ cl48.slots.size ≤ ((2 : Int32)).toNatClampNeg) := inb_of S48 ⟨by decide, by decide⟩
      obtain ⟨T48, h48, X48, e48, W48, st48⟩ := stI X47 hx hZ e47 Ar48 (j := (2 : Int32)) hin48 (g := (mkF m 38 #[.val (.int p0), .val (.int p1), .val (.int p2), .val (.int p3), .val (.int p4), .val (.int (3 : Int32)), .val (.int (0 : Int32)), .val (.ref b45), .unset, .unset, .unset, .unset, .unset] [(.int p2), (.int (2 : Int32)), (.ref b45)])) rfl rfl (hb hby at_38)
      have V_b45 : Arv Z h48 b45 k45 .int (4 : Int32) [(.int p0), (.int p1), (.int p2), (.int (0 : Int32))] (.int (0 : Int32)) := Arv.set Ar48 q48 S48 M48 H48 G48 rfl W48 2 rfl (Nat.le_of_ble_eq_true rfl)
      have Zz48 := Nat.le_trans Zz47 (Keep.of_wr W48).1
      have Kk48 := Kk47.wr W48 (Or.inr sz_b45)
      have N48 := Fr.snoc X48 N47 g_b45
      refine go st48 ?_
      show Goes p.tables e below _ (T48.setTop (mkF m 39 #[.val (.int p0), .val (.int p1), .val (.int p2), .val (.int p3), .val (.int p4), .val (.int (3 : Int32)), .val (.int (0 : Int32)), .val (.ref b45), .unset, .unset, .unset, .unset, .unset] []))
      refine go (fun t kt => XS.aload X48.here hx rfl (hb hby at_39) rfl rfl kt) ?_
      show Goes p.tables e below _ (T48.setTop (mkF m 41 #[.val (.int p0), .val (.int p1), .val (.int p2), .val (.int p3), .val (.int p4), .val (.int (3 : Int32)), .val (.int (0 : Int32)), .val (.ref b45), .unset, .unset, .unset, .unset, .unset] [(.ref b45)]))
      refine go (fun t kt => XS.iconst X48.here hx rfl (hb hby at_41) kt) ?_
      show Goes p.tables e below _ (T48.setTop (mkF m 42 #[.val (.int p0), .val (.int p1), .val (.int p2), .val (.int p3), .val (.int p4), .val (.int (3 : Int32)), .val (.int (0 : Int32)), .val (.ref b45), .unset, .unset, .unset, .unset, .unset] [(.int (3 : Int32)), (.ref b45)]))
      refine go (fun t kt => XS.iloadN X48.here hx rfl (hb hby at_42) rfl kt) ?_
      show Goes p.tables e below _ (T48.setTop (mkF m 43 #[.val (.int p0), .val (.int p1), .val (.int p2), .val (.int p3), .val (.int p4), .val (.int (3 : Int32)), .val (.int (0 : Int32)), .val (.ref b45), .unset, .unset, .unset, .unset, .unset] [(.int p3), (.int (3 : Int32)), (.ref b45)]))
      obtain ⟨cl49, Ar49, q49, S49, M49, H49, G49⟩ := V_b45
      have hin49 : ¬ ((3 : Int32) < 0 ∨ cl49.slots.size ≤ ((3 : Int32)).toNatClampNeg) := inb_of S49 ⟨by decide, by decide⟩
      obtain ⟨T49, h49, X49, e49, W49, st49⟩ := stI X48 hx hZ e48 Ar49 (j := (3 : Int32)) hin49 (g := (mkF m 43 #[.val (.int p0), .val (.int p1), .val (.int p2), .val (.int p3), .val (.int p4), .val (.int (3 : Int32)), .val (.int (0 : Int32)), .val (.ref b45), .unset, .unset, .unset, .unset, .unset] [(.int p3), (.int (3 : Int32)), (.ref b45)])) rfl rfl (hb hby at_43)
      have V_b45 : Arv Z h49 b45 k45 .int (4 : Int32) [(.int p0), (.int p1), (.int p2), (.int p3)] (.int (0 : Int32)) := Arv.set Ar49 q49 S49 M49 H49 G49 rfl W49 3 rfl (Nat.le_of_ble_eq_true rfl)
      have Zz49 := Nat.le_trans Zz48 (Keep.of_wr W49).1
      have Kk49 := Kk48.wr W49 (Or.inr sz_b45)
      have N49 := Fr.snoc X49 N48 g_b45
      refine go st49 ?_
      show Goes p.tables e below _ (T49.setTop (mkF m 44 #[.val (.int p0), .val (.int p1), .val (.int p2), .val (.int p3), .val (.int p4), .val (.int (3 : Int32)), .val (.int (0 : Int32)), .val (.ref b45), .unset, .unset, .unset, .unset, .unset] []))
      refine go (fun t kt => XS.goto X49.here hx rfl (pc0 := 44) (pc' := 67) rfl (hb hby at_44) (by decide) (by decide) kt) ?_
      show Goes p.tables e below _ (T49.setTop (mkF m 67 #[.val (.int p0), .val (.int p1), .val (.int p2), .val (.int p3), .val (.int p4), .val (.int (3 : Int32)), .val (.int (0 : Int32)), .val (.ref b45), .unset, .unset, .unset, .unset, .unset] []))
      refine go (X49.ldcInt hx hown (mvT hZ (hw _ (List.mem_of_getElem? (i := 1) rfl))) (g := (mkF m 67 #[.val (.int p0), .val (.int p1), .val (.int p2), .val (.int p3), .val (.int p4), .val (.int (3 : Int32)), .val (.int (0 : Int32)), .val (.ref b45), .unset, .unset, .unset, .unset, .unset] [])) rfl (hb hby at_67)) ?_
      show Goes p.tables e below _ (T49.setTop (mkF m 69 #[.val (.int p0), .val (.int p1), .val (.int p2), .val (.int p3), .val (.int p4), .val (.int (3 : Int32)), .val (.int (0 : Int32)), .val (.ref b45), .unset, .unset, .unset, .unset, .unset] [(.int (-1640531535 : Int32))]))
      refine go (fun t kt => XS.istore X49.here hx rfl (hb hby at_69) rfl (l' := #[.val (.int p0), .val (.int p1), .val (.int p2), .val (.int p3), .val (.int p4), .val (.int (3 : Int32)), .val (.int (0 : Int32)), .val (.ref b45), .val (.int (-1640531535 : Int32)), .unset, .unset, .unset, .unset]) rfl kt) ?_
      show Goes p.tables e below _ (T49.setTop (mkF m 71 #[.val (.int p0), .val (.int p1), .val (.int p2), .val (.int p3), .val (.int p4), .val (.int (3 : Int32)), .val (.int (0 : Int32)), .val (.ref b45), .val (.int (-1640531535 : Int32)), .unset, .unset, .unset, .unset] []))
      refine go (fun t kt => XS.iload X49.here hx rfl (hb hby at_71) rfl kt) ?_
      show Goes p.tables e below _ (T49.setTop (mkF m 73 #[.val (.int p0), .val (.int p1), .val (.int p2), .val (.int p3), .val (.int p4), .val (.int (3 : Int32)), .val (.int (0 : Int32)), .val (.ref b45), .val (.int (-1640531535 : Int32)), .unset, .unset, .unset, .unset] [(.int (-1640531535 : Int32))]))
      refine go (fun t kt => XS.iload X49.here hx rfl (hb hby at_73) rfl kt) ?_
      show Goes p.tables e below _ (T49.setTop (mkF m 75 #[.val (.int p0), .val (.int p1), .val (.int p2), .val (.int p3), .val (.int p4), .val (.int (3 : Int32)), .val (.int (0 : Int32)), .val (.ref b45), .val (.int (-1640531535 : Int32)), .unset, .unset, .unset, .unset] [(.int (-1640531535 : Int32)), (.int (-1640531535 : Int32))]))
      refine go (fun t kt => XS.imul X49.here hx rfl (hb hby at_75) rfl kt) ?_
      show Goes p.tables e below _ (T49.setTop (mkF m 76 #[.val (.int p0), .val (.int p1), .val (.int p2), .val (.int p3), .val (.int p4), .val (.int (3 : Int32)), .val (.int (0 : Int32)), .val (.ref b45), .val (.int (-1640531535 : Int32)), .unset, .unset, .unset, .unset] [(.int ((-1640531535 : Int32) * (-1640531535 : Int32)))]))
      refine go (fun t kt => XS.istore X49.here hx rfl (hb hby at_76) rfl (l' := #[.val (.int p0), .val (.int p1), .val (.int p2), .val (.int p3), .val (.int p4), .val (.int (3 : Int32)), .val (.int (0 : Int32)), .val (.ref b45), .val (.int (-1640531535 : Int32)), .val (.int ((-1640531535 : Int32) * (-1640531535 : Int32))), .unset, .unset, .unset]) rfl kt) ?_
      show Goes p.tables e below _ (T49.setTop (mkF m 78 #[.val (.int p0), .val (.int p1), .val (.int p2), .val (.int p3), .val (.int p4), .val (.int (3 : Int32)), .val (.int (0 : Int32)), .val (.ref b45), .val (.int (-1640531535 : Int32)), .val (.int ((-1640531535 : Int32) * (-1640531535 : Int32))), .unset, .unset, .unset] []))
      refine go (fun t kt => XS.iload X49.here hx rfl (hb hby at_78) rfl kt) ?_
      show Goes p.tables e below _ (T49.setTop (mkF m 80 #[.val (.int p0), .val (.int p1), .val (.int p2), .val (.int p3), .val (.int p4), .val (.int (3 : Int32)), .val (.int (0 : Int32)), .val (.ref b45), .val (.int (-1640531535 : Int32)), .val (.int ((-1640531535 : Int32) * (-1640531535 : Int32))), .unset, .unset, .unset] [(.int ((-1640531535 : Int32) * (-1640531535 : Int32)))]))
      refine go (fun t kt => XS.iload X49.here hx rfl (hb hby at_80) rfl kt) ?_
      show Goes p.tables e below _ (T49.setTop (mkF m 82 #[.val (.int p0), .val (.int p1), .val (.int p2), .val (.int p3), .val (.int p4), .val (.int (3 : Int32)), .val (.int (0 : Int32)), .val (.ref b45), .val (.int (-1640531535 : Int32)), .val (.int ((-1640531535 : Int32) * (-1640531535 : Int32))), .unset, .unset, .unset] [(.int (-1640531535 : Int32)), (.int ((-1640531535 : Int32) * (-1640531535 : Int32)))]))
      refine go (fun t kt => XS.imul X49.here hx rfl (hb hby at_82) rfl kt) ?_
      show Goes p.tables e below _ (T49.setTop (mkF m 83 #[.val (.int p0), .val (.int p1), .val (.int p2), .val (.int p3), .val (.int p4), .val (.int (3 : Int32)), .val (.int (0 : Int32)), .val (.ref b45), .val (.int (-1640531535 : Int32)), .val (.int ((-1640531535 : Int32) * (-1640531535 : Int32))), .unset, .unset, .unset] [(.int (((-1640531535 : Int32) * (-1640531535 : Int32)) * (-1640531535 : Int32)))]))
      refine go (fun t kt => XS.istore X49.here hx rfl (hb hby at_83) rfl (l' := #[.val (.int p0), .val (.int p1), .val (.int p2), .val (.int p3), .val (.int p4), .val (.int (3 : Int32)), .val (.int (0 : Int32)), .val (.ref b45), .val (.int (-1640531535 : Int32)), .val (.int ((-1640531535 : Int32) * (-1640531535 : Int32))), .val (.int (((-1640531535 : Int32) * (-1640531535 : Int32)) * (-1640531535 : Int32))), .unset, .unset]) rfl kt) ?_
      show Goes p.tables e below _ (T49.setTop (mkF m 85 #[.val (.int p0), .val (.int p1), .val (.int p2), .val (.int p3), .val (.int p4), .val (.int (3 : Int32)), .val (.int (0 : Int32)), .val (.ref b45), .val (.int (-1640531535 : Int32)), .val (.int ((-1640531535 : Int32) * (-1640531535 : Int32))), .val (.int (((-1640531535 : Int32) * (-1640531535 : Int32)) * (-1640531535 : Int32))), .unset, .unset] []))
      refine go (fun t kt => XS.iload X49.here hx rfl (hb hby at_85) rfl kt) ?_
      show Goes p.tables e below _ (T49.setTop (mkF m 87 #[.val (.int p0), .val (.int p1), .val (.int p2), .val (.int p3), .val (.int p4), .val (.int (3 : Int32)), .val (.int (0 : Int32)), .val (.ref b45), .val (.int (-1640531535 : Int32)), .val (.int ((-1640531535 : Int32) * (-1640531535 : Int32))), .val (.int (((-1640531535 : Int32) * (-1640531535 : Int32)) * (-1640531535 : Int32))), .unset, .unset] [(.int (3 : Int32))]))
      refine go (fun t kt => XS.ifYes X49.here hx rfl (pc0 := 87) (pc' := 96) rfl (hb hby at_87) rfl ((if0 _ _).trans (feq (by decide : ¬ ((3 : Int32) = (0 : Int32)))).2) (by decide) (by decide) kt) ?_
      show Goes p.tables e below _ (T49.setTop (mkF m 96 #[.val (.int p0), .val (.int p1), .val (.int p2), .val (.int p3), .val (.int p4), .val (.int (3 : Int32)), .val (.int (0 : Int32)), .val (.ref b45), .val (.int (-1640531535 : Int32)), .val (.int ((-1640531535 : Int32) * (-1640531535 : Int32))), .val (.int (((-1640531535 : Int32) * (-1640531535 : Int32)) * (-1640531535 : Int32))), .unset, .unset] []))
      refine go (fun t kt => XS.iload X49.here hx rfl (hb hby at_96) rfl kt) ?_
      show Goes p.tables e below _ (T49.setTop (mkF m 98 #[.val (.int p0), .val (.int p1), .val (.int p2), .val (.int p3), .val (.int p4), .val (.int (3 : Int32)), .val (.int (0 : Int32)), .val (.ref b45), .val (.int (-1640531535 : Int32)), .val (.int ((-1640531535 : Int32) * (-1640531535 : Int32))), .val (.int (((-1640531535 : Int32) * (-1640531535 : Int32)) * (-1640531535 : Int32))), .unset, .unset] [(.int (3 : Int32))]))
      refine go (fun t kt => XS.iconst X49.here hx rfl (hb hby at_98) kt) ?_
      show Goes p.tables e below _ (T49.setTop (mkF m 99 #[.val (.int p0), .val (.int p1), .val (.int p2), .val (.int p3), .val (.int p4), .val (.int (3 : Int32)), .val (.int (0 : Int32)), .val (.ref b45), .val (.int (-1640531535 : Int32)), .val (.int ((-1640531535 : Int32) * (-1640531535 : Int32))), .val (.int (((-1640531535 : Int32) * (-1640531535 : Int32)) * (-1640531535 : Int32))), .unset, .unset] [(.int (1 : Int32)), (.int (3 : Int32))]))
      refine go (fun t kt => XS.icmpYes X49.here hx rfl (pc0 := 99) (pc' := 111) rfl (hb hby at_99) rfl (feq (by decide : ¬ ((3 : Int32) = (1 : Int32)))).2 (by decide) (by decide) kt) ?_
      show Goes p.tables e below _ (T49.setTop (mkF m 111 #[.val (.int p0), .val (.int p1), .val (.int p2), .val (.int p3), .val (.int p4), .val (.int (3 : Int32)), .val (.int (0 : Int32)), .val (.ref b45), .val (.int (-1640531535 : Int32)), .val (.int ((-1640531535 : Int32) * (-1640531535 : Int32))), .val (.int (((-1640531535 : Int32) * (-1640531535 : Int32)) * (-1640531535 : Int32))), .unset, .unset] []))
      refine go (fun t kt => XS.iload X49.here hx rfl (hb hby at_111) rfl kt) ?_
      show Goes p.tables e below _ (T49.setTop (mkF m 113 #[.val (.int p0), .val (.int p1), .val (.int p2), .val (.int p3), .val (.int p4), .val (.int (3 : Int32)), .val (.int (0 : Int32)), .val (.ref b45), .val (.int (-1640531535 : Int32)), .val (.int ((-1640531535 : Int32) * (-1640531535 : Int32))), .val (.int (((-1640531535 : Int32) * (-1640531535 : Int32)) * (-1640531535 : Int32))), .unset, .unset] [(.int (3 : Int32))]))
      refine go (fun t kt => XS.iconst X49.here hx rfl (hb hby at_113) kt) ?_
      show Goes p.tables e below _ (T49.setTop (mkF m 114 #[.val (.int p0), .val (.int p1), .val (.int p2), .val (.int p3), .val (.int p4), .val (.int (3 : Int32)), .val (.int (0 : Int32)), .val (.ref b45), .val (.int (-1640531535 : Int32)), .val (.int ((-1640531535 : Int32) * (-1640531535 : Int32))), .val (.int (((-1640531535 : Int32) * (-1640531535 : Int32)) * (-1640531535 : Int32))), .unset, .unset] [(.int (2 : Int32)), (.int (3 : Int32))]))
      refine go (fun t kt => XS.icmpYes X49.here hx rfl (pc0 := 114) (pc' := 131) rfl (hb hby at_114) rfl (feq (by decide : ¬ ((3 : Int32) = (2 : Int32)))).2 (by decide) (by decide) kt) ?_
      show Goes p.tables e below _ (T49.setTop (mkF m 131 #[.val (.int p0), .val (.int p1), .val (.int p2), .val (.int p3), .val (.int p4), .val (.int (3 : Int32)), .val (.int (0 : Int32)), .val (.ref b45), .val (.int (-1640531535 : Int32)), .val (.int ((-1640531535 : Int32) * (-1640531535 : Int32))), .val (.int (((-1640531535 : Int32) * (-1640531535 : Int32)) * (-1640531535 : Int32))), .unset, .unset] []))
      refine go (fun t kt => XS.iloadN X49.here hx rfl (hb hby at_131) rfl kt) ?_
      show Goes p.tables e below _ (T49.setTop (mkF m 132 #[.val (.int p0), .val (.int p1), .val (.int p2), .val (.int p3), .val (.int p4), .val (.int (3 : Int32)), .val (.int (0 : Int32)), .val (.ref b45), .val (.int (-1640531535 : Int32)), .val (.int ((-1640531535 : Int32) * (-1640531535 : Int32))), .val (.int (((-1640531535 : Int32) * (-1640531535 : Int32)) * (-1640531535 : Int32))), .unset, .unset] [(.int p0)]))
      refine go (fun t kt => XS.iload X49.here hx rfl (hb hby at_132) rfl kt) ?_
      show Goes p.tables e below _ (T49.setTop (mkF m 134 #[.val (.int p0), .val (.int p1), .val (.int p2), .val (.int p3), .val (.int p4), .val (.int (3 : Int32)), .val (.int (0 : Int32)), .val (.ref b45), .val (.int (-1640531535 : Int32)), .val (.int ((-1640531535 : Int32) * (-1640531535 : Int32))), .val (.int (((-1640531535 : Int32) * (-1640531535 : Int32)) * (-1640531535 : Int32))), .unset, .unset] [(.int (((-1640531535 : Int32) * (-1640531535 : Int32)) * (-1640531535 : Int32))), (.int p0)]))
      refine go (fun t kt => XS.imul X49.here hx rfl (hb hby at_134) rfl kt) ?_
      show Goes p.tables e below _ (T49.setTop (mkF m 135 #[.val (.int p0), .val (.int p1), .val (.int p2), .val (.int p3), .val (.int p4), .val (.int (3 : Int32)), .val (.int (0 : Int32)), .val (.ref b45), .val (.int (-1640531535 : Int32)), .val (.int ((-1640531535 : Int32) * (-1640531535 : Int32))), .val (.int (((-1640531535 : Int32) * (-1640531535 : Int32)) * (-1640531535 : Int32))), .unset, .unset] [(.int (p0 * (((-1640531535 : Int32) * (-1640531535 : Int32)) * (-1640531535 : Int32))))]))
      refine go (fun t kt => XS.iloadN X49.here hx rfl (hb hby at_135) rfl kt) ?_
      show Goes p.tables e below _ (T49.setTop (mkF m 136 #[.val (.int p0), .val (.int p1), .val (.int p2), .val (.int p3), .val (.int p4), .val (.int (3 : Int32)), .val (.int (0 : Int32)), .val (.ref b45), .val (.int (-1640531535 : Int32)), .val (.int ((-1640531535 : Int32) * (-1640531535 : Int32))), .val (.int (((-1640531535 : Int32) * (-1640531535 : Int32)) * (-1640531535 : Int32))), .unset, .unset] [(.int p1), (.int (p0 * (((-1640531535 : Int32) * (-1640531535 : Int32)) * (-1640531535 : Int32))))]))
      refine go (fun t kt => XS.iload X49.here hx rfl (hb hby at_136) rfl kt) ?_
      show Goes p.tables e below _ (T49.setTop (mkF m 138 #[.val (.int p0), .val (.int p1), .val (.int p2), .val (.int p3), .val (.int p4), .val (.int (3 : Int32)), .val (.int (0 : Int32)), .val (.ref b45), .val (.int (-1640531535 : Int32)), .val (.int ((-1640531535 : Int32) * (-1640531535 : Int32))), .val (.int (((-1640531535 : Int32) * (-1640531535 : Int32)) * (-1640531535 : Int32))), .unset, .unset] [(.int ((-1640531535 : Int32) * (-1640531535 : Int32))), (.int p1), (.int (p0 * (((-1640531535 : Int32) * (-1640531535 : Int32)) * (-1640531535 : Int32))))]))
      refine go (fun t kt => XS.imul X49.here hx rfl (hb hby at_138) rfl kt) ?_
      show Goes p.tables e below _ (T49.setTop (mkF m 139 #[.val (.int p0), .val (.int p1), .val (.int p2), .val (.int p3), .val (.int p4), .val (.int (3 : Int32)), .val (.int (0 : Int32)), .val (.ref b45), .val (.int (-1640531535 : Int32)), .val (.int ((-1640531535 : Int32) * (-1640531535 : Int32))), .val (.int (((-1640531535 : Int32) * (-1640531535 : Int32)) * (-1640531535 : Int32))), .unset, .unset] [(.int (p1 * ((-1640531535 : Int32) * (-1640531535 : Int32)))), (.int (p0 * (((-1640531535 : Int32) * (-1640531535 : Int32)) * (-1640531535 : Int32))))]))
      refine go (fun t kt => XS.iadd X49.here hx rfl (hb hby at_139) rfl kt) ?_
      show Goes p.tables e below _ (T49.setTop (mkF m 140 #[.val (.int p0), .val (.int p1), .val (.int p2), .val (.int p3), .val (.int p4), .val (.int (3 : Int32)), .val (.int (0 : Int32)), .val (.ref b45), .val (.int (-1640531535 : Int32)), .val (.int ((-1640531535 : Int32) * (-1640531535 : Int32))), .val (.int (((-1640531535 : Int32) * (-1640531535 : Int32)) * (-1640531535 : Int32))), .unset, .unset] [(.int ((p0 * (((-1640531535 : Int32) * (-1640531535 : Int32)) * (-1640531535 : Int32))) + (p1 * ((-1640531535 : Int32) * (-1640531535 : Int32)))))]))
      refine go (fun t kt => XS.iloadN X49.here hx rfl (hb hby at_140) rfl kt) ?_
      show Goes p.tables e below _ (T49.setTop (mkF m 141 #[.val (.int p0), .val (.int p1), .val (.int p2), .val (.int p3), .val (.int p4), .val (.int (3 : Int32)), .val (.int (0 : Int32)), .val (.ref b45), .val (.int (-1640531535 : Int32)), .val (.int ((-1640531535 : Int32) * (-1640531535 : Int32))), .val (.int (((-1640531535 : Int32) * (-1640531535 : Int32)) * (-1640531535 : Int32))), .unset, .unset] [(.int p2), (.int ((p0 * (((-1640531535 : Int32) * (-1640531535 : Int32)) * (-1640531535 : Int32))) + (p1 * ((-1640531535 : Int32) * (-1640531535 : Int32)))))]))
      refine go (fun t kt => XS.iload X49.here hx rfl (hb hby at_141) rfl kt) ?_
      show Goes p.tables e below _ (T49.setTop (mkF m 143 #[.val (.int p0), .val (.int p1), .val (.int p2), .val (.int p3), .val (.int p4), .val (.int (3 : Int32)), .val (.int (0 : Int32)), .val (.ref b45), .val (.int (-1640531535 : Int32)), .val (.int ((-1640531535 : Int32) * (-1640531535 : Int32))), .val (.int (((-1640531535 : Int32) * (-1640531535 : Int32)) * (-1640531535 : Int32))), .unset, .unset] [(.int (-1640531535 : Int32)), (.int p2), (.int ((p0 * (((-1640531535 : Int32) * (-1640531535 : Int32)) * (-1640531535 : Int32))) + (p1 * ((-1640531535 : Int32) * (-1640531535 : Int32)))))]))
      refine go (fun t kt => XS.imul X49.here hx rfl (hb hby at_143) rfl kt) ?_
      show Goes p.tables e below _ (T49.setTop (mkF m 144 #[.val (.int p0), .val (.int p1), .val (.int p2), .val (.int p3), .val (.int p4), .val (.int (3 : Int32)), .val (.int (0 : Int32)), .val (.ref b45), .val (.int (-1640531535 : Int32)), .val (.int ((-1640531535 : Int32) * (-1640531535 : Int32))), .val (.int (((-1640531535 : Int32) * (-1640531535 : Int32)) * (-1640531535 : Int32))), .unset, .unset] [(.int (p2 * (-1640531535 : Int32))), (.int ((p0 * (((-1640531535 : Int32) * (-1640531535 : Int32)) * (-1640531535 : Int32))) + (p1 * ((-1640531535 : Int32) * (-1640531535 : Int32)))))]))
      refine go (fun t kt => XS.iadd X49.here hx rfl (hb hby at_144) rfl kt) ?_
      show Goes p.tables e below _ (T49.setTop (mkF m 145 #[.val (.int p0), .val (.int p1), .val (.int p2), .val (.int p3), .val (.int p4), .val (.int (3 : Int32)), .val (.int (0 : Int32)), .val (.ref b45), .val (.int (-1640531535 : Int32)), .val (.int ((-1640531535 : Int32) * (-1640531535 : Int32))), .val (.int (((-1640531535 : Int32) * (-1640531535 : Int32)) * (-1640531535 : Int32))), .unset, .unset] [(.int (((p0 * (((-1640531535 : Int32) * (-1640531535 : Int32)) * (-1640531535 : Int32))) + (p1 * ((-1640531535 : Int32) * (-1640531535 : Int32)))) + (p2 * (-1640531535 : Int32))))]))
      refine go (fun t kt => XS.istore X49.here hx rfl (hb hby at_145) rfl (l' := #[.val (.int p0), .val (.int p1), .val (.int p2), .val (.int p3), .val (.int p4), .val (.int (3 : Int32)), .val (.int (0 : Int32)), .val (.ref b45), .val (.int (-1640531535 : Int32)), .val (.int ((-1640531535 : Int32) * (-1640531535 : Int32))), .val (.int (((-1640531535 : Int32) * (-1640531535 : Int32)) * (-1640531535 : Int32))), .val (.int (((p0 * (((-1640531535 : Int32) * (-1640531535 : Int32)) * (-1640531535 : Int32))) + (p1 * ((-1640531535 : Int32) * (-1640531535 : Int32)))) + (p2 * (-1640531535 : Int32)))), .unset]) rfl kt) ?_
      show Goes p.tables e below _ (T49.setTop (mkF m 147 #[.val (.int p0), .val (.int p1), .val (.int p2), .val (.int p3), .val (.int p4), .val (.int (3 : Int32)), .val (.int (0 : Int32)), .val (.ref b45), .val (.int (-1640531535 : Int32)), .val (.int ((-1640531535 : Int32) * (-1640531535 : Int32))), .val (.int (((-1640531535 : Int32) * (-1640531535 : Int32)) * (-1640531535 : Int32))), .val (.int (((p0 * (((-1640531535 : Int32) * (-1640531535 : Int32)) * (-1640531535 : Int32))) + (p1 * ((-1640531535 : Int32) * (-1640531535 : Int32)))) + (p2 * (-1640531535 : Int32)))), .unset] []))
      refine go (fun t kt => XS.iload X49.here hx rfl (hb hby at_147) rfl kt) ?_
      show Goes p.tables e below _ (T49.setTop (mkF m 149 #[.val (.int p0), .val (.int p1), .val (.int p2), .val (.int p3), .val (.int p4), .val (.int (3 : Int32)), .val (.int (0 : Int32)), .val (.ref b45), .val (.int (-1640531535 : Int32)), .val (.int ((-1640531535 : Int32) * (-1640531535 : Int32))), .val (.int (((-1640531535 : Int32) * (-1640531535 : Int32)) * (-1640531535 : Int32))), .val (.int (((p0 * (((-1640531535 : Int32) * (-1640531535 : Int32)) * (-1640531535 : Int32))) + (p1 * ((-1640531535 : Int32) * (-1640531535 : Int32)))) + (p2 * (-1640531535 : Int32)))), .unset] [(.int (((p0 * (((-1640531535 : Int32) * (-1640531535 : Int32)) * (-1640531535 : Int32))) + (p1 * ((-1640531535 : Int32) * (-1640531535 : Int32)))) + (p2 * (-1640531535 : Int32))))]))
      refine go (fun t kt => XS.iload X49.here hx rfl (hb hby at_149) rfl kt) ?_
      show Goes p.tables e below _ (T49.setTop (mkF m 151 #[.val (.int p0), .val (.int p1), .val (.int p2), .val (.int p3), .val (.int p4), .val (.int (3 : Int32)), .val (.int (0 : Int32)), .val (.ref b45), .val (.int (-1640531535 : Int32)), .val (.int ((-1640531535 : Int32) * (-1640531535 : Int32))), .val (.int (((-1640531535 : Int32) * (-1640531535 : Int32)) * (-1640531535 : Int32))), .val (.int (((p0 * (((-1640531535 : Int32) * (-1640531535 : Int32)) * (-1640531535 : Int32))) + (p1 * ((-1640531535 : Int32) * (-1640531535 : Int32)))) + (p2 * (-1640531535 : Int32)))), .unset] [(.int (((p0 * (((-1640531535 : Int32) * (-1640531535 : Int32)) * (-1640531535 : Int32))) + (p1 * ((-1640531535 : Int32) * (-1640531535 : Int32)))) + (p2 * (-1640531535 : Int32)))), (.int (((p0 * (((-1640531535 : Int32) * (-1640531535 : Int32)) * (-1640531535 : Int32))) + (p1 * ((-1640531535 : Int32) * (-1640531535 : Int32)))) + (p2 * (-1640531535 : Int32))))]))
      refine go (fun t kt => XS.bipush X49.here hx rfl (hb hby at_151) kt) ?_
      show Goes p.tables e below _ (T49.setTop (mkF m 153 #[.val (.int p0), .val (.int p1), .val (.int p2), .val (.int p3), .val (.int p4), .val (.int (3 : Int32)), .val (.int (0 : Int32)), .val (.ref b45), .val (.int (-1640531535 : Int32)), .val (.int ((-1640531535 : Int32) * (-1640531535 : Int32))), .val (.int (((-1640531535 : Int32) * (-1640531535 : Int32)) * (-1640531535 : Int32))), .val (.int (((p0 * (((-1640531535 : Int32) * (-1640531535 : Int32)) * (-1640531535 : Int32))) + (p1 * ((-1640531535 : Int32) * (-1640531535 : Int32)))) + (p2 * (-1640531535 : Int32)))), .unset] [(.int (16 : Int32)), (.int (((p0 * (((-1640531535 : Int32) * (-1640531535 : Int32)) * (-1640531535 : Int32))) + (p1 * ((-1640531535 : Int32) * (-1640531535 : Int32)))) + (p2 * (-1640531535 : Int32)))), (.int (((p0 * (((-1640531535 : Int32) * (-1640531535 : Int32)) * (-1640531535 : Int32))) + (p1 * ((-1640531535 : Int32) * (-1640531535 : Int32)))) + (p2 * (-1640531535 : Int32))))]))
      refine go (fun t kt => XS.iushr X49.here hx rfl (hb hby at_153) rfl kt) ?_
      show Goes p.tables e below _ (T49.setTop (mkF m 154 #[.val (.int p0), .val (.int p1), .val (.int p2), .val (.int p3), .val (.int p4), .val (.int (3 : Int32)), .val (.int (0 : Int32)), .val (.ref b45), .val (.int (-1640531535 : Int32)), .val (.int ((-1640531535 : Int32) * (-1640531535 : Int32))), .val (.int (((-1640531535 : Int32) * (-1640531535 : Int32)) * (-1640531535 : Int32))), .val (.int (((p0 * (((-1640531535 : Int32) * (-1640531535 : Int32)) * (-1640531535 : Int32))) + (p1 * ((-1640531535 : Int32) * (-1640531535 : Int32)))) + (p2 * (-1640531535 : Int32)))), .unset] [(.int (((((p0 * (((-1640531535 : Int32) * (-1640531535 : Int32)) * (-1640531535 : Int32))) + (p1 * ((-1640531535 : Int32) * (-1640531535 : Int32)))) + (p2 * (-1640531535 : Int32))).toUInt32 >>> ((16 : Int32) &&& 31).toUInt32).toInt32)), (.int (((p0 * (((-1640531535 : Int32) * (-1640531535 : Int32)) * (-1640531535 : Int32))) + (p1 * ((-1640531535 : Int32) * (-1640531535 : Int32)))) + (p2 * (-1640531535 : Int32))))]))
      refine go (fun t kt => XS.ixor X49.here hx rfl (hb hby at_154) rfl kt) ?_
      show Goes p.tables e below _ (T49.setTop (mkF m 155 #[.val (.int p0), .val (.int p1), .val (.int p2), .val (.int p3), .val (.int p4), .val (.int (3 : Int32)), .val (.int (0 : Int32)), .val (.ref b45), .val (.int (-1640531535 : Int32)), .val (.int ((-1640531535 : Int32) * (-1640531535 : Int32))), .val (.int (((-1640531535 : Int32) * (-1640531535 : Int32)) * (-1640531535 : Int32))), .val (.int (((p0 * (((-1640531535 : Int32) * (-1640531535 : Int32)) * (-1640531535 : Int32))) + (p1 * ((-1640531535 : Int32) * (-1640531535 : Int32)))) + (p2 * (-1640531535 : Int32)))), .unset] [(.int ((((p0 * (((-1640531535 : Int32) * (-1640531535 : Int32)) * (-1640531535 : Int32))) + (p1 * ((-1640531535 : Int32) * (-1640531535 : Int32)))) + (p2 * (-1640531535 : Int32))) ^^^ (((((p0 * (((-1640531535 : Int32) * (-1640531535 : Int32)) * (-1640531535 : Int32))) + (p1 * ((-1640531535 : Int32) * (-1640531535 : Int32)))) + (p2 * (-1640531535 : Int32))).toUInt32 >>> ((16 : Int32) &&& 31).toUInt32).toInt32)))]))
      refine go (fun t kt => XS.istore X49.here hx rfl (hb hby at_155) rfl (l' := #[.val (.int p0), .val (.int p1), .val (.int p2), .val (.int p3), .val (.int p4), .val (.int (3 : Int32)), .val (.int (0 : Int32)), .val (.ref b45), .val (.int (-1640531535 : Int32)), .val (.int ((-1640531535 : Int32) * (-1640531535 : Int32))), .val (.int (((-1640531535 : Int32) * (-1640531535 : Int32)) * (-1640531535 : Int32))), .val (.int (((p0 * (((-1640531535 : Int32) * (-1640531535 : Int32)) * (-1640531535 : Int32))) + (p1 * ((-1640531535 : Int32) * (-1640531535 : Int32)))) + (p2 * (-1640531535 : Int32)))), .val (.int ((((p0 * (((-1640531535 : Int32) * (-1640531535 : Int32)) * (-1640531535 : Int32))) + (p1 * ((-1640531535 : Int32) * (-1640531535 : Int32)))) + (p2 * (-1640531535 : Int32))) ^^^ (((((p0 * (((-1640531535 : Int32) * (-1640531535 : Int32)) * (-1640531535 : Int32))) + (p1 * ((-1640531535 : Int32) * (-1640531535 : Int32)))) + (p2 * (-1640531535 : Int32))).toUInt32 >>> ((16 : Int32) &&& 31).toUInt32).toInt32)))]) rfl kt) ?_
      show Goes p.tables e below _ (T49.setTop (mkF m 157 #[.val (.int p0), .val (.int p1), .val (.int p2), .val (.int p3), .val (.int p4), .val (.int (3 : Int32)), .val (.int (0 : Int32)), .val (.ref b45), .val (.int (-1640531535 : Int32)), .val (.int ((-1640531535 : Int32) * (-1640531535 : Int32))), .val (.int (((-1640531535 : Int32) * (-1640531535 : Int32)) * (-1640531535 : Int32))), .val (.int (((p0 * (((-1640531535 : Int32) * (-1640531535 : Int32)) * (-1640531535 : Int32))) + (p1 * ((-1640531535 : Int32) * (-1640531535 : Int32)))) + (p2 * (-1640531535 : Int32)))), .val (.int ((((p0 * (((-1640531535 : Int32) * (-1640531535 : Int32)) * (-1640531535 : Int32))) + (p1 * ((-1640531535 : Int32) * (-1640531535 : Int32)))) + (p2 * (-1640531535 : Int32))) ^^^ (((((p0 * (((-1640531535 : Int32) * (-1640531535 : Int32)) * (-1640531535 : Int32))) + (p1 * ((-1640531535 : Int32) * (-1640531535 : Int32)))) + (p2 * (-1640531535 : Int32))).toUInt32 >>> ((16 : Int32) &&& 31).toUInt32).toInt32)))] []))
      refine go (fun t kt => XS.aload X49.here hx rfl (hb hby at_157) rfl rfl kt) ?_
      show Goes p.tables e below _ (T49.setTop (mkF m 159 #[.val (.int p0), .val (.int p1), .val (.int p2), .val (.int p3), .val (.int p4), .val (.int (3 : Int32)), .val (.int (0 : Int32)), .val (.ref b45), .val (.int (-1640531535 : Int32)), .val (.int ((-1640531535 : Int32) * (-1640531535 : Int32))), .val (.int (((-1640531535 : Int32) * (-1640531535 : Int32)) * (-1640531535 : Int32))), .val (.int (((p0 * (((-1640531535 : Int32) * (-1640531535 : Int32)) * (-1640531535 : Int32))) + (p1 * ((-1640531535 : Int32) * (-1640531535 : Int32)))) + (p2 * (-1640531535 : Int32)))), .val (.int ((((p0 * (((-1640531535 : Int32) * (-1640531535 : Int32)) * (-1640531535 : Int32))) + (p1 * ((-1640531535 : Int32) * (-1640531535 : Int32)))) + (p2 * (-1640531535 : Int32))) ^^^ (((((p0 * (((-1640531535 : Int32) * (-1640531535 : Int32)) * (-1640531535 : Int32))) + (p1 * ((-1640531535 : Int32) * (-1640531535 : Int32)))) + (p2 * (-1640531535 : Int32))).toUInt32 >>> ((16 : Int32) &&& 31).toUInt32).toInt32)))] [(.ref b45)]))
      refine go (fun t kt => XS.iload X49.here hx rfl (hb hby at_159) rfl kt) ?_
      show Goes p.tables e below _ (T49.setTop (mkF m 161 #[.val (.int p0), .val (.int p1), .val (.int p2), .val (.int p3), .val (.int p4), .val (.int (3 : Int32)), .val (.int (0 : Int32)), .val (.ref b45), .val (.int (-1640531535 : Int32)), .val (.int ((-1640531535 : Int32) * (-1640531535 : Int32))), .val (.int (((-1640531535 : Int32) * (-1640531535 : Int32)) * (-1640531535 : Int32))), .val (.int (((p0 * (((-1640531535 : Int32) * (-1640531535 : Int32)) * (-1640531535 : Int32))) + (p1 * ((-1640531535 : Int32) * (-1640531535 : Int32)))) + (p2 * (-1640531535 : Int32)))), .val (.int ((((p0 * (((-1640531535 : Int32) * (-1640531535 : Int32)) * (-1640531535 : Int32))) + (p1 * ((-1640531535 : Int32) * (-1640531535 : Int32)))) + (p2 * (-1640531535 : Int32))) ^^^ (((((p0 * (((-1640531535 : Int32) * (-1640531535 : Int32)) * (-1640531535 : Int32))) + (p1 * ((-1640531535 : Int32) * (-1640531535 : Int32)))) + (p2 * (-1640531535 : Int32))).toUInt32 >>> ((16 : Int32) &&& 31).toUInt32).toInt32)))] [(.int (0 : Int32)), (.ref b45)]))
      refine go (fun t kt => XS.iload X49.here hx rfl (hb hby at_161) rfl kt) ?_
      show Goes p.tables e below _ (T49.setTop (mkF m 163 #[.val (.int p0), .val (.int p1), .val (.int p2), .val (.int p3), .val (.int p4), .val (.int (3 : Int32)), .val (.int (0 : Int32)), .val (.ref b45), .val (.int (-1640531535 : Int32)), .val (.int ((-1640531535 : Int32) * (-1640531535 : Int32))), .val (.int (((-1640531535 : Int32) * (-1640531535 : Int32)) * (-1640531535 : Int32))), .val (.int (((p0 * (((-1640531535 : Int32) * (-1640531535 : Int32)) * (-1640531535 : Int32))) + (p1 * ((-1640531535 : Int32) * (-1640531535 : Int32)))) + (p2 * (-1640531535 : Int32)))), .val (.int ((((p0 * (((-1640531535 : Int32) * (-1640531535 : Int32)) * (-1640531535 : Int32))) + (p1 * ((-1640531535 : Int32) * (-1640531535 : Int32)))) + (p2 * (-1640531535 : Int32))) ^^^ (((((p0 * (((-1640531535 : Int32) * (-1640531535 : Int32)) * (-1640531535 : Int32))) + (p1 * ((-1640531535 : Int32) * (-1640531535 : Int32)))) + (p2 * (-1640531535 : Int32))).toUInt32 >>> ((16 : Int32) &&& 31).toUInt32).toInt32)))] [(.int (3 : Int32)), (.int (0 : Int32)), (.ref b45)]))
      obtain ⟨_, _, ⟨T50, L50, k50, n50⟩, -, X50, ⟨Lc50, hQ50, l50, y50, z50⟩, st50⟩ := Jvm.LawKit.callS X49 hx (y := (⟨"com/example/limpet/limpet/model/NodeLabel", "hashOf", "([III)I"⟩ : MethodName)) hown (mvT hZ (hw _ (List.mem_of_getElem? (i := 2) rfl))) (mvT hZ (hw _ (List.mem_of_getElem? (i := 3) rfl))) (mvT hZ (hw _ (List.mem_of_getElem? (i := 4) rfl))) (mvT hZ (hw _ (List.mem_of_getElem? (i := 5) rfl))) (by decide) (backOf (W := 0) (rmh03 l Z a0 hw [] b45 k45 p0 p1 p2 p3 h49 n0 Zz49 V_b45) hZ (hw _ (List.mem_of_getElem? (i := 5) rfl)) (hw _ (List.mem_of_getElem? (i := 4) rfl)) (by decide) (by decide)) (g := (mkF m 163 #[.val (.int p0), .val (.int p1), .val (.int p2), .val (.int p3), .val (.int p4), .val (.int (3 : Int32)), .val (.int (0 : Int32)), .val (.ref b45), .val (.int (-1640531535 : Int32)), .val (.int ((-1640531535 : Int32) * (-1640531535 : Int32))), .val (.int (((-1640531535 : Int32) * (-1640531535 : Int32)) * (-1640531535 : Int32))), .val (.int (((p0 * (((-1640531535 : Int32) * (-1640531535 : Int32)) * (-1640531535 : Int32))) + (p1 * ((-1640531535 : Int32) * (-1640531535 : Int32)))) + (p2 * (-1640531535 : Int32)))), .val (.int ((((p0 * (((-1640531535 : Int32) * (-1640531535 : Int32)) * (-1640531535 : Int32))) + (p1 * ((-1640531535 : Int32) * (-1640531535 : Int32)))) + (p2 * (-1640531535 : Int32))) ^^^ (((((p0 * (((-1640531535 : Int32) * (-1640531535 : Int32)) * (-1640531535 : Int32))) + (p1 * ((-1640531535 : Int32) * (-1640531535 : Int32)))) + (p2 * (-1640531535 : Int32))).toUInt32 >>> ((16 : Int32) &&& 31).toUInt32).toInt32)))] [(.int (3 : Int32)), (.int (0 : Int32)), (.ref b45)])) rfl (by rw [hml]; rfl) (argsL := [(.ref b45), (.int (0 : Int32)), (.int (3 : Int32))]) (rest := []) (lenOf pd_0 rfl) rfl (by show 2 * 0 + _ ≤ _; exact Nat.le_of_eq rfl) (hb hby at_163) (fun _ _ => ⟨rfl, e49, (by decide : 1 + 0 ≤ _), (by decide : 4 + 0 ≤ _)⟩)
      dsimp only [Pt.U, Pt.locs, Pt.cells, Pt.slots] at X50 l50 y50 z50 st50 hQ50
      subst l50 y50 z50
      obtain ⟨rfl, Nq50, e50⟩ := hQ50
      have N50 := Fr.app N49 Nq50
      refine go st50 ?_
      show Goes p.tables e below _ (T50.setTop (mkF m 166 #[.val (.int p0), .val (.int p1), .val (.int p2), .val (.int p3), .val (.int p4), .val (.int (3 : Int32)), .val (.int (0 : Int32)), .val (.ref b45), .val (.int (-1640531535 : Int32)), .val (.int ((-1640531535 : Int32) * (-1640531535 : Int32))), .val (.int (((-1640531535 : Int32) * (-1640531535 : Int32)) * (-1640531535 : Int32))), .val (.int (((p0 * (((-1640531535 : Int32) * (-1640531535 : Int32)) * (-1640531535 : Int32))) + (p1 * ((-1640531535 : Int32) * (-1640531535 : Int32)))) + (p2 * (-1640531535 : Int32)))), .val (.int ((((p0 * (((-1640531535 : Int32) * (-1640531535 : Int32)) * (-1640531535 : Int32))) + (p1 * ((-1640531535 : Int32) * (-1640531535 : Int32)))) + (p2 * (-1640531535 : Int32))) ^^^ (((((p0 * (((-1640531535 : Int32) * (-1640531535 : Int32)) * (-1640531535 : Int32))) + (p1 * ((-1640531535 : Int32) * (-1640531535 : Int32)))) + (p2 * (-1640531535 : Int32))).toUInt32 >>> ((16 : Int32) &&& 31).toUInt32).toInt32)))] [(.int (own_h03 p0 p1 p2))]))
      refine go (fun t kt => XS.iload X50.here hx rfl (hb hby at_166) rfl kt) ?_
      show Goes p.tables e below _ (T50.setTop (mkF m 168 #[.val (.int p0), .val (.int p1), .val (.int p2), .val (.int p3), .val (.int p4), .val (.int (3 : Int32)), .val (.int (0 : Int32)), .val (.ref b45), .val (.int (-1640531535 : Int32)), .val (.int ((-1640531535 : Int32) * (-1640531535 : Int32))), .val (.int (((-1640531535 : Int32) * (-1640531535 : Int32)) * (-1640531535 : Int32))), .val (.int (((p0 * (((-1640531535 : Int32) * (-1640531535 : Int32)) * (-1640531535 : Int32))) + (p1 * ((-1640531535 : Int32) * (-1640531535 : Int32)))) + (p2 * (-1640531535 : Int32)))), .val (.int ((((p0 * (((-1640531535 : Int32) * (-1640531535 : Int32)) * (-1640531535 : Int32))) + (p1 * ((-1640531535 : Int32) * (-1640531535 : Int32)))) + (p2 * (-1640531535 : Int32))) ^^^ (((((p0 * (((-1640531535 : Int32) * (-1640531535 : Int32)) * (-1640531535 : Int32))) + (p1 * ((-1640531535 : Int32) * (-1640531535 : Int32)))) + (p2 * (-1640531535 : Int32))).toUInt32 >>> ((16 : Int32) &&& 31).toUInt32).toInt32)))] [(.int ((((p0 * (((-1640531535 : Int32) * (-1640531535 : Int32)) * (-1640531535 : Int32))) + (p1 * ((-1640531535 : Int32) * (-1640531535 : Int32)))) + (p2 * (-1640531535 : Int32))) ^^^ (((((p0 * (((-1640531535 : Int32) * (-1640531535 : Int32)) * (-1640531535 : Int32))) + (p1 * ((-1640531535 : Int32) * (-1640531535 : Int32)))) + (p2 * (-1640531535 : Int32))).toUInt32 >>> ((16 : Int32) &&& 31).toUInt32).toInt32))), (.int (own_h03 p0 p1 p2))]))
      refine go (fun t kt => XS.icmpNo X50.here hx rfl (hb hby at_168) rfl (teq (by unfold own_h03; rw [own_e3])).2 kt) ?_
      show Goes p.tables e below _ (T50.setTop (mkF m 171 #[.val (.int p0), .val (.int p1), .val (.int p2), .val (.int p3), .val (.int p4), .val (.int (3 : Int32)), .val (.int (0 : Int32)), .val (.ref b45), .val (.int (-1640531535 : Int32)), .val (.int ((-1640531535 : Int32) * (-1640531535 : Int32))), .val (.int (((-1640531535 : Int32) * (-1640531535 : Int32)) * (-1640531535 : Int32))), .val (.int (((p0 * (((-1640531535 : Int32) * (-1640531535 : Int32)) * (-1640531535 : Int32))) + (p1 * ((-1640531535 : Int32) * (-1640531535 : Int32)))) + (p2 * (-1640531535 : Int32)))), .val (.int ((((p0 * (((-1640531535 : Int32) * (-1640531535 : Int32)) * (-1640531535 : Int32))) + (p1 * ((-1640531535 : Int32) * (-1640531535 : Int32)))) + (p2 * (-1640531535 : Int32))) ^^^ (((((p0 * (((-1640531535 : Int32) * (-1640531535 : Int32)) * (-1640531535 : Int32))) + (p1 * ((-1640531535 : Int32) * (-1640531535 : Int32)))) + (p2 * (-1640531535 : Int32))).toUInt32 >>> ((16 : Int32) &&& 31).toUInt32).toInt32)))] []))
      refine go (fun t kt => XS.iconst X50.here hx rfl (hb hby at_171) kt) ?_
      show Goes p.tables e below _ (T50.setTop (mkF m 172 #[.val (.int p0), .val (.int p1), .val (.int p2), .val (.int p3), .val (.int p4), .val (.int (3 : Int32)), .val (.int (0 : Int32)), .val (.ref b45), .val (.int (-1640531535 : Int32)), .val (.int ((-1640531535 : Int32) * (-1640531535 : Int32))), .val (.int (((-1640531535 : Int32) * (-1640531535 : Int32)) * (-1640531535 : Int32))), .val (.int (((p0 * (((-1640531535 : Int32) * (-1640531535 : Int32)) * (-1640531535 : Int32))) + (p1 * ((-1640531535 : Int32) * (-1640531535 : Int32)))) + (p2 * (-1640531535 : Int32)))), .val (.int ((((p0 * (((-1640531535 : Int32) * (-1640531535 : Int32)) * (-1640531535 : Int32))) + (p1 * ((-1640531535 : Int32) * (-1640531535 : Int32)))) + (p2 * (-1640531535 : Int32))) ^^^ (((((p0 * (((-1640531535 : Int32) * (-1640531535 : Int32)) * (-1640531535 : Int32))) + (p1 * ((-1640531535 : Int32) * (-1640531535 : Int32)))) + (p2 * (-1640531535 : Int32))).toUInt32 >>> ((16 : Int32) &&& 31).toUInt32).toInt32)))] [(.int (1 : Int32))]))
      refine go (fun t kt => XS.goto X50.here hx rfl (pc0 := 172) (pc' := 176) rfl (hb hby at_172) (by decide) (by decide) kt) ?_
      show Goes p.tables e below _ (T50.setTop (mkF m 176 #[.val (.int p0), .val (.int p1), .val (.int p2), .val (.int p3), .val (.int p4), .val (.int (3 : Int32)), .val (.int (0 : Int32)), .val (.ref b45), .val (.int (-1640531535 : Int32)), .val (.int ((-1640531535 : Int32) * (-1640531535 : Int32))), .val (.int (((-1640531535 : Int32) * (-1640531535 : Int32)) * (-1640531535 : Int32))), .val (.int (((p0 * (((-1640531535 : Int32) * (-1640531535 : Int32)) * (-1640531535 : Int32))) + (p1 * ((-1640531535 : Int32) * (-1640531535 : Int32)))) + (p2 * (-1640531535 : Int32)))), .val (.int ((((p0 * (((-1640531535 : Int32) * (-1640531535 : Int32)) * (-1640531535 : Int32))) + (p1 * ((-1640531535 : Int32) * (-1640531535 : Int32)))) + (p2 * (-1640531535 : Int32))) ^^^ (((((p0 * (((-1640531535 : Int32) * (-1640531535 : Int32)) * (-1640531535 : Int32))) + (p1 * ((-1640531535 : Int32) * (-1640531535 : Int32)))) + (p2 * (-1640531535 : Int32))).toUInt32 >>> ((16 : Int32) &&& 31).toUInt32).toInt32)))] [(.int (1 : Int32))]))
      obtain ⟨fs, hr, hrun, hended, hW, hsame⟩ := X50.leave (v := some (.int (1 : Int32))) (fun h => by rw [Bd.returns] at h; cases h)
      refine ⟨_, _, retN X50 hx (t := .boolean) Bd.returns (by simp) (hb hby at_176) hr, hrun, hended, _, _, rfl, ?_, ⟨_, rfl⟩, hW, hsame.mono (by decide) (by decide)⟩
      show Q0 Z p0 p1 p2 p3 p4 h0 n0 _ T50.heap _
      rw [e50]
      exact ⟨rfl, N50⟩
    ·
      rw [hj2]
      show Goes p.tables e below _ (s₁.setTop (mkF m 14 #[.val (.int p0), .val (.int p1), .val (.int p2), .val (.int p3), .val (.int p4), .val (.int (3 : Int32)), .val (.int (1 : Int32)), .unset, .unset, .unset, .unset, .unset, .unset] []))
      refine go (fun t kt => XS.iconst X0.here hx rfl (hb hby at_14) kt) ?_
      show Goes p.tables e below _ (s₁.setTop (mkF m 15 #[.val (.int p0), .val (.int p1), .val (.int p2), .val (.int p3), .val (.int p4), .val (.int (3 : Int32)), .val (.int (1 : Int32)), .unset, .unset, .unset, .unset, .unset, .unset] [(.int (4 : Int32))]))
      obtain ⟨T52, h52, k52, X52, e52, E52, A52, st52⟩ := newP X0 hx hZ (hw _ (List.mem_of_getElem? (i := 0) rfl)) e0 (g := (mkF m 15 #[.val (.int p0), .val (.int p1), .val (.int p2), .val (.int p3), .val (.int p4), .val (.int (3 : Int32)), .val (.int (1 : Int32)), .unset, .unset, .unset, .unset, .unset, .unset] [(.int (4 : Int32))])) rfl (hb hby at_15) rfl (by decide) (cap := 4) (by decide) (by decide) (by decide) (by decide)
      obtain ⟨b52, g52⟩ : ∃ z, z = h0.size := ⟨_, rfl⟩
      rw [← g52] at A52 st52
      have g_b52 : n0 ≤ b52 := Nat.le_trans Z0 (Nat.le_of_eq g52.symm)
      have sz_b52 : h0.size ≤ b52 := Nat.le_trans K0.1 (Nat.le_of_eq g52.symm)
      have Zz52 := Nat.le_trans Z0 E52.1
      have Kk52 := K0.ext E52
      have V_b52 : Arv Z h52 b52 k52 .int (4 : Int32) [(.int (0 : Int32)), (.int (0 : Int32)), (.int (0 : Int32)), (.int (0 : Int32))] (.int (0 : Int32)) := (Arv.new A52 (by decide)).pad (pad_rep [] (.int (0 : Int32)) 4)
      refine go st52 ?_
      show Goes p.tables e below _ (T52.setTop (mkF m 17 #[.val (.int p0), .val (.int p1), .val (.int p2), .val (.int p3), .val (.int p4), .val (.int (3 : Int32)), .val (.int (1 : Int32)), .unset, .unset, .unset, .unset, .unset, .unset] [(.ref b52)]))
      refine go (fun t kt => XS.astore X52.here hx rfl (hb hby at_17) rfl rfl (l' := #[.val (.int p0), .val (.int p1), .val (.int p2), .val (.int p3), .val (.int p4), .val (.int (3 : Int32)), .val (.int (1 : Int32)), .val (.ref b52), .unset, .unset, .unset, .unset, .unset]) rfl kt) ?_
      show Goes p.tables e below _ (T52.setTop (mkF m 19 #[.val (.int p0), .val (.int p1), .val (.int p2), .val (.int p3), .val (.int p4), .val (.int (3 : Int32)), .val (.int (1 : Int32)), .val (.ref b52), .unset, .unset, .unset, .unset, .unset] []))
      refine go (fun t kt => XS.iload X52.here hx rfl (hb hby at_19) rfl kt) ?_
      show Goes p.tables e below _ (T52.setTop (mkF m 21 #[.val (.int p0), .val (.int p1), .val (.int p2), .val (.int p3), .val (.int p4), .val (.int (3 : Int32)), .val (.int (1 : Int32)), .val (.ref b52), .unset, .unset, .unset, .unset, .unset] [(.int (1 : Int32))]))
      refine go (fun t kt => XS.ifYes X52.here hx rfl (pc0 := 21) (pc' := 47) rfl (hb hby at_21) rfl ((if0 _ _).trans (feq (by decide : ¬ ((1 : Int32) = (0 : Int32)))).2) (by decide) (by decide) kt) ?_
      show Goes p.tables e below _ (T52.setTop (mkF m 47 #[.val (.int p0), .val (.int p1), .val (.int p2), .val (.int p3), .val (.int p4), .val (.int (3 : Int32)), .val (.int (1 : Int32)), .val (.ref b52), .unset, .unset, .unset, .unset, .unset] []))
      refine go (fun t kt => XS.aload X52.here hx rfl (hb hby at_47) rfl rfl kt) ?_
      show Goes p.tables e below _ (T52.setTop (mkF m 49 #[.val (.int p0), .val (.int p1), .val (.int p2), .val (.int p3), .val (.int p4), .val (.int (3 : Int32)), .val (.int (1 : Int32)), .val (.ref b52), .unset, .unset, .unset, .unset, .unset] [(.ref b52)]))
      refine go (fun t kt => XS.iconst X52.here hx rfl (hb hby at_49) kt) ?_
      show Goes p.tables e below _ (T52.setTop (mkF m 50 #[.val (.int p0), .val (.int p1), .val (.int p2), .val (.int p3), .val (.int p4), .val (.int (3 : Int32)), .val (.int (1 : Int32)), .val (.ref b52), .unset, .unset, .unset, .unset, .unset] [(.int (0 : Int32)), (.ref b52)]))
      refine go (fun t kt => XS.iloadN X52.here hx rfl (hb hby at_50) rfl kt) ?_
      show Goes p.tables e below _ (T52.setTop (mkF m 51 #[.val (.int p0), .val (.int p1), .val (.int p2), .val (.int p3), .val (.int p4), .val (.int (3 : Int32)), .val (.int (1 : Int32)), .val (.ref b52), .unset, .unset, .unset, .unset, .unset] [(.int p3), (.int (0 : Int32)), (.ref b52)]))
      obtain ⟨cl53, Ar53, q53, S53, M53, H53, G53⟩ := V_b52
      have hin53 : ¬ ((0 : Int32) < 0 ∨ cl53.slots.size ≤ ((0 : Int32)).toNatClampNeg) := inb_of S53 ⟨by decide, by decide⟩
      obtain ⟨T53, h53, X53, e53, W53, st53⟩ := stI X52 hx hZ e52 Ar53 (j := (0 : Int32)) hin53 (g := (mkF m 51 #[.val (.int p0), .val (.int p1), .val (.int p2), .val (.int p3), .val (.int p4), .val (.int (3 : Int32)), .val (.int (1 : Int32)), .val (.ref b52), .unset, .unset, .unset, .unset, .unset] [(.int p3), (.int (0 : Int32)), (.ref b52)])) rfl rfl (hb hby at_51)
      have V_b52 : Arv Z h53 b52 k52 .int (4 : Int32) [(.int p3), (.int (0 : Int32)), (.int (0 : Int32)), (.int (0 : Int32))] (.int (0 : Int32)) := Arv.set Ar53 q53 S53 M53 H53 G53 rfl W53 0 rfl (Nat.le_of_ble_eq_true rfl)
      have Zz53 := Nat.le_trans Zz52 (Keep.of_wr W53).1
      have Kk53 := Kk52.wr W53 (Or.inr sz_b52)
      have N53 := Fr.snoc X53 N0 g_b52
      refine go st53 ?_
      show Goes p.tables e below _ (T53.setTop (mkF m 52 #[.val (.int p0), .val (.int p1), .val (.int p2), .val (.int p3), .val (.int p4), .val (.int (3 : Int32)), .val (.int (1 : Int32)), .val (.ref b52), .unset, .unset, .unset, .unset, .unset] []))
      refine go (fun t kt => XS.aload X53.here hx rfl (hb hby at_52) rfl rfl kt) ?_
      show Goes p.tables e below _ (T53.setTop (mkF m 54 #[.val (.int p0), .val (.int p1), .val (.int p2), .val (.int p3), .val (.int p4), .val (.int (3 : Int32)), .val (.int (1 : Int32)), .val (.ref b52), .unset, .unset, .unset, .unset, .unset] [(.ref b52)]))
      refine go (fun t kt => XS.iconst X53.here hx rfl (hb hby at_54) kt) ?_
      show Goes p.tables e below _ (T53.setTop (mkF m 55 #[.val (.int p0), .val (.int p1), .val (.int p2), .val (.int p3), .val (.int p4), .val (.int (3 : Int32)), .val (.int (1 : Int32)), .val (.ref b52), .unset, .unset, .unset, .unset, .unset] [(.int (1 : Int32)), (.ref b52)]))
      refine go (fun t kt => XS.iloadN X53.here hx rfl (hb hby at_55) rfl kt) ?_
      show Goes p.tables e below _ (T53.setTop (mkF m 56 #[.val (.int p0), .val (.int p1), .val (.int p2), .val (.int p3), .val (.int p4), .val (.int (3 : Int32)), .val (.int (1 : Int32)), .val (.ref b52), .unset, .unset, .unset, .unset, .unset] [(.int p0), (.int (1 : Int32)), (.ref b52)]))
      obtain ⟨cl54, Ar54, q54, S54, M54, H54, G54⟩ := V_b52
      have hin54 : ¬ ((1 : Int32) < 0 ∨ cl54.slots.size ≤ ((1 : Int32)).toNatClampNeg) := inb_of S54 ⟨by decide, by decide⟩
      obtain ⟨T54, h54, X54, e54, W54, st54⟩ := stI X53 hx hZ e53 Ar54 (j := (1 : Int32)) hin54 (g := (mkF m 56 #[.val (.int p0), .val (.int p1), .val (.int p2), .val (.int p3), .val (.int p4), .val (.int (3 : Int32)), .val (.int (1 : Int32)), .val (.ref b52), .unset, .unset, .unset, .unset, .unset] [(.int p0), (.int (1 : Int32)), (.ref b52)])) rfl rfl (hb hby at_56)
      have V_b52 : Arv Z h54 b52 k52 .int (4 : Int32) [(.int p3), (.int p0), (.int (0 : Int32)), (.int (0 : Int32))] (.int (0 : Int32)) := Arv.set Ar54 q54 S54 M54 H54 G54 rfl W54 1 rfl (Nat.le_of_ble_eq_true rfl)
      have Zz54 := Nat.le_trans Zz53 (Keep.of_wr W54).1
      have Kk54 := Kk53.wr W54 (Or.inr sz_b52)
      have N54 := Fr.snoc X54 N53 g_b52
      refine go st54 ?_
      show Goes p.tables e below _ (T54.setTop (mkF m 57 #[.val (.int p0), .val (.int p1), .val (.int p2), .val (.int p3), .val (.int p4), .val (.int (3 : Int32)), .val (.int (1 : Int32)), .val (.ref b52), .unset, .unset, .unset, .unset, .unset] []))
      refine go (fun t kt => XS.aload X54.here hx rfl (hb hby at_57) rfl rfl kt) ?_
      show Goes p.tables e below _ (T54.setTop (mkF m 59 #[.val (.int p0), .val (.int p1), .val (.int p2), .val (.int p3), .val (.int p4), .val (.int (3 : Int32)), .val (.int (1 : Int32)), .val (.ref b52), .unset, .unset, .unset, .unset, .unset] [(.ref b52)]))
      refine go (fun t kt => XS.iconst X54.here hx rfl (hb hby at_59) kt) ?_
      show Goes p.tables e below _ (T54.setTop (mkF m 60 #[.val (.int p0), .val (.int p1), .val (.int p2), .val (.int p3), .val (.int p4), .val (.int (3 : Int32)), .val (.int (1 : Int32)), .val (.ref b52), .unset, .unset, .unset, .unset, .unset] [(.int (2 : Int32)), (.ref b52)]))
      refine go (fun t kt => XS.iloadN X54.here hx rfl (hb hby at_60) rfl kt) ?_
      show Goes p.tables e below _ (T54.setTop (mkF m 61 #[.val (.int p0), .val (.int p1), .val (.int p2), .val (.int p3), .val (.int p4), .val (.int (3 : Int32)), .val (.int (1 : Int32)), .val (.ref b52), .unset, .unset, .unset, .unset, .unset] [(.int p1), (.int (2 : Int32)), (.ref b52)]))
      obtain ⟨cl55, Ar55, q55, S55, M55, H55, G55⟩ := V_b52
      have hin55 : ¬ ((2 : Int32) < 0 ∨ cl55.slots.size ≤ ((2 : Int32)).toNatClampNeg) := inb_of S55 ⟨by decide, by decide⟩
      obtain ⟨T55, h55, X55, e55, W55, st55⟩ := stI X54 hx hZ e54 Ar55 (j := (2 : Int32)) hin55 (g := (mkF m 61 #[.val (.int p0), .val (.int p1), .val (.int p2), .val (.int p3), .val (.int p4), .val (.int (3 : Int32)), .val (.int (1 : Int32)), .val (.ref b52), .unset, .unset, .unset, .unset, .unset] [(.int p1), (.int (2 : Int32)), (.ref b52)])) rfl rfl (hb hby at_61)
      have V_b52 : Arv Z h55 b52 k52 .int (4 : Int32) [(.int p3), (.int p0), (.int p1), (.int (0 : Int32))] (.int (0 : Int32)) := Arv.set Ar55 q55 S55 M55 H55 G55 rfl W55 2 rfl (Nat.le_of_ble_eq_true rfl)
      have Zz55 := Nat.le_trans Zz54 (Keep.of_wr W55).1
      have Kk55 := Kk54.wr W55 (Or.inr sz_b52)
      have N55 := Fr.snoc X55 N54 g_b52
      refine go st55 ?_
      show Goes p.tables e below _ (T55.setTop (mkF m 62 #[.val (.int p0), .val (.int p1), .val (.int p2), .val (.int p3), .val (.int p4), .val (.int (3 : Int32)), .val (.int (1 : Int32)), .val (.ref b52), .unset, .unset, .unset, .unset, .unset] []))
      refine go (fun t kt => XS.aload X55.here hx rfl (hb hby at_62) rfl rfl kt) ?_
      show Goes p.tables e below _ (T55.setTop (mkF m 64 #[.val (.int p0), .val (.int p1), .val (.int p2), .val (.int p3), .val (.int p4), .val (.int (3 : Int32)), .val (.int (1 : Int32)), .val (.ref b52), .unset, .unset, .unset, .unset, .unset] [(.ref b52)]))
      refine go (fun t kt => XS.iconst X55.here hx rfl (hb hby at_64) kt) ?_
      show Goes p.tables e below _ (T55.setTop (mkF m 65 #[.val (.int p0), .val (.int p1), .val (.int p2), .val (.int p3), .val (.int p4), .val (.int (3 : Int32)), .val (.int (1 : Int32)), .val (.ref b52), .unset, .unset, .unset, .unset, .unset] [(.int (3 : Int32)), (.ref b52)]))
      refine go (fun t kt => XS.iloadN X55.here hx rfl (hb hby at_65) rfl kt) ?_
      show Goes p.tables e below _ (T55.setTop (mkF m 66 #[.val (.int p0), .val (.int p1), .val (.int p2), .val (.int p3), .val (.int p4), .val (.int (3 : Int32)), .val (.int (1 : Int32)), .val (.ref b52), .unset, .unset, .unset, .unset, .unset] [(.int p2), (.int (3 : Int32)), (.ref b52)]))
      obtain ⟨cl56, Ar56, q56, S56, M56, H56, G56⟩ := V_b52
      have hin56 : ¬ ((3 : Int32) < 0 ∨ cl56.slots.size ≤ ((3 : Int32)).toNatClampNeg) := inb_of S56 ⟨by decide, by decide⟩
      obtain ⟨T56, h56, X56, e56, W56, st56⟩ := stI X55 hx hZ e55 Ar56 (j := (3 : Int32)) hin56 (g := (mkF m 66 #[.val (.int p0), .val (.int p1), .val (.int p2), .val (.int p3), .val (.int p4), .val (.int (3 : Int32)), .val (.int (1 : Int32)), .val (.ref b52), .unset, .unset, .unset, .unset, .unset] [(.int p2), (.int (3 : Int32)), (.ref b52)])) rfl rfl (hb hby at_66)
      have V_b52 : Arv Z h56 b52 k52 .int (4 : Int32) [(.int p3), (.int p0), (.int p1), (.int p2)] (.int (0 : Int32)) := Arv.set Ar56 q56 S56 M56 H56 G56 rfl W56 3 rfl (Nat.le_of_ble_eq_true rfl)
      have Zz56 := Nat.le_trans Zz55 (Keep.of_wr W56).1
      have Kk56 := Kk55.wr W56 (Or.inr sz_b52)
      have N56 := Fr.snoc X56 N55 g_b52
      refine go st56 ?_
      show Goes p.tables e below _ (T56.setTop (mkF m 67 #[.val (.int p0), .val (.int p1), .val (.int p2), .val (.int p3), .val (.int p4), .val (.int (3 : Int32)), .val (.int (1 : Int32)), .val (.ref b52), .unset, .unset, .unset, .unset, .unset] []))
      refine go (X56.ldcInt hx hown (mvT hZ (hw _ (List.mem_of_getElem? (i := 1) rfl))) (g := (mkF m 67 #[.val (.int p0), .val (.int p1), .val (.int p2), .val (.int p3), .val (.int p4), .val (.int (3 : Int32)), .val (.int (1 : Int32)), .val (.ref b52), .unset, .unset, .unset, .unset, .unset] [])) rfl (hb hby at_67)) ?_
      show Goes p.tables e below _ (T56.setTop (mkF m 69 #[.val (.int p0), .val (.int p1), .val (.int p2), .val (.int p3), .val (.int p4), .val (.int (3 : Int32)), .val (.int (1 : Int32)), .val (.ref b52), .unset, .unset, .unset, .unset, .unset] [(.int (-1640531535 : Int32))]))
      refine go (fun t kt => XS.istore X56.here hx rfl (hb hby at_69) rfl (l' := #[.val (.int p0), .val (.int p1), .val (.int p2), .val (.int p3), .val (.int p4), .val (.int (3 : Int32)), .val (.int (1 : Int32)), .val (.ref b52), .val (.int (-1640531535 : Int32)), .unset, .unset, .unset, .unset]) rfl kt) ?_
      show Goes p.tables e below _ (T56.setTop (mkF m 71 #[.val (.int p0), .val (.int p1), .val (.int p2), .val (.int p3), .val (.int p4), .val (.int (3 : Int32)), .val (.int (1 : Int32)), .val (.ref b52), .val (.int (-1640531535 : Int32)), .unset, .unset, .unset, .unset] []))
      refine go (fun t kt => XS.iload X56.here hx rfl (hb hby at_71) rfl kt) ?_
      show Goes p.tables e below _ (T56.setTop (mkF m 73 #[.val (.int p0), .val (.int p1), .val (.int p2), .val (.int p3), .val (.int p4), .val (.int (3 : Int32)), .val (.int (1 : Int32)), .val (.ref b52), .val (.int (-1640531535 : Int32)), .unset, .unset, .unset, .unset] [(.int (-1640531535 : Int32))]))
      refine go (fun t kt => XS.iload X56.here hx rfl (hb hby at_73) rfl kt) ?_
      show Goes p.tables e below _ (T56.setTop (mkF m 75 #[.val (.int p0), .val (.int p1), .val (.int p2), .val (.int p3), .val (.int p4), .val (.int (3 : Int32)), .val (.int (1 : Int32)), .val (.ref b52), .val (.int (-1640531535 : Int32)), .unset, .unset, .unset, .unset] [(.int (-1640531535 : Int32)), (.int (-1640531535 : Int32))]))
      refine go (fun t kt => XS.imul X56.here hx rfl (hb hby at_75) rfl kt) ?_
      show Goes p.tables e below _ (T56.setTop (mkF m 76 #[.val (.int p0), .val (.int p1), .val (.int p2), .val (.int p3), .val (.int p4), .val (.int (3 : Int32)), .val (.int (1 : Int32)), .val (.ref b52), .val (.int (-1640531535 : Int32)), .unset, .unset, .unset, .unset] [(.int ((-1640531535 : Int32) * (-1640531535 : Int32)))]))
      refine go (fun t kt => XS.istore X56.here hx rfl (hb hby at_76) rfl (l' := #[.val (.int p0), .val (.int p1), .val (.int p2), .val (.int p3), .val (.int p4), .val (.int (3 : Int32)), .val (.int (1 : Int32)), .val (.ref b52), .val (.int (-1640531535 : Int32)), .val (.int ((-1640531535 : Int32) * (-1640531535 : Int32))), .unset, .unset, .unset]) rfl kt) ?_
      show Goes p.tables e below _ (T56.setTop (mkF m 78 #[.val (.int p0), .val (.int p1), .val (.int p2), .val (.int p3), .val (.int p4), .val (.int (3 : Int32)), .val (.int (1 : Int32)), .val (.ref b52), .val (.int (-1640531535 : Int32)), .val (.int ((-1640531535 : Int32) * (-1640531535 : Int32))), .unset, .unset, .unset] []))
      refine go (fun t kt => XS.iload X56.here hx rfl (hb hby at_78) rfl kt) ?_
      show Goes p.tables e below _ (T56.setTop (mkF m 80 #[.val (.int p0), .val (.int p1), .val (.int p2), .val (.int p3), .val (.int p4), .val (.int (3 : Int32)), .val (.int (1 : Int32)), .val (.ref b52), .val (.int (-1640531535 : Int32)), .val (.int ((-1640531535 : Int32) * (-1640531535 : Int32))), .unset, .unset, .unset] [(.int ((-1640531535 : Int32) * (-1640531535 : Int32)))]))
      refine go (fun t kt => XS.iload X56.here hx rfl (hb hby at_80) rfl kt) ?_
      show Goes p.tables e below _ (T56.setTop (mkF m 82 #[.val (.int p0), .val (.int p1), .val (.int p2), .val (.int p3), .val (.int p4), .val (.int (3 : Int32)), .val (.int (1 : Int32)), .val (.ref b52), .val (.int (-1640531535 : Int32)), .val (.int ((-1640531535 : Int32) * (-1640531535 : Int32))), .unset, .unset, .unset] [(.int (-1640531535 : Int32)), (.int ((-1640531535 : Int32) * (-1640531535 : Int32)))]))
      refine go (fun t kt => XS.imul X56.here hx rfl (hb hby at_82) rfl kt) ?_
      show Goes p.tables e below _ (T56.setTop (mkF m 83 #[.val (.int p0), .val (.int p1), .val (.int p2), .val (.int p3), .val (.int p4), .val (.int (3 : Int32)), .val (.int (1 : Int32)), .val (.ref b52), .val (.int (-1640531535 : Int32)), .val (.int ((-1640531535 : Int32) * (-1640531535 : Int32))), .unset, .unset, .unset] [(.int (((-1640531535 : Int32) * (-1640531535 : Int32)) * (-1640531535 : Int32)))]))
      refine go (fun t kt => XS.istore X56.here hx rfl (hb hby at_83) rfl (l' := #[.val (.int p0), .val (.int p1), .val (.int p2), .val (.int p3), .val (.int p4), .val (.int (3 : Int32)), .val (.int (1 : Int32)), .val (.ref b52), .val (.int (-1640531535 : Int32)), .val (.int ((-1640531535 : Int32) * (-1640531535 : Int32))), .val (.int (((-1640531535 : Int32) * (-1640531535 : Int32)) * (-1640531535 : Int32))), .unset, .unset]) rfl kt) ?_
      show Goes p.tables e below _ (T56.setTop (mkF m 85 #[.val (.int p0), .val (.int p1), .val (.int p2), .val (.int p3), .val (.int p4), .val (.int (3 : Int32)), .val (.int (1 : Int32)), .val (.ref b52), .val (.int (-1640531535 : Int32)), .val (.int ((-1640531535 : Int32) * (-1640531535 : Int32))), .val (.int (((-1640531535 : Int32) * (-1640531535 : Int32)) * (-1640531535 : Int32))), .unset, .unset] []))
      refine go (fun t kt => XS.iload X56.here hx rfl (hb hby at_85) rfl kt) ?_
      show Goes p.tables e below _ (T56.setTop (mkF m 87 #[.val (.int p0), .val (.int p1), .val (.int p2), .val (.int p3), .val (.int p4), .val (.int (3 : Int32)), .val (.int (1 : Int32)), .val (.ref b52), .val (.int (-1640531535 : Int32)), .val (.int ((-1640531535 : Int32) * (-1640531535 : Int32))), .val (.int (((-1640531535 : Int32) * (-1640531535 : Int32)) * (-1640531535 : Int32))), .unset, .unset] [(.int (3 : Int32))]))
      refine go (fun t kt => XS.ifYes X56.here hx rfl (pc0 := 87) (pc' := 96) rfl (hb hby at_87) rfl ((if0 _ _).trans (feq (by decide : ¬ ((3 : Int32) = (0 : Int32)))).2) (by decide) (by decide) kt) ?_
      show Goes p.tables e below _ (T56.setTop (mkF m 96 #[.val (.int p0), .val (.int p1), .val (.int p2), .val (.int p3), .val (.int p4), .val (.int (3 : Int32)), .val (.int (1 : Int32)), .val (.ref b52), .val (.int (-1640531535 : Int32)), .val (.int ((-1640531535 : Int32) * (-1640531535 : Int32))), .val (.int (((-1640531535 : Int32) * (-1640531535 : Int32)) * (-1640531535 : Int32))), .unset, .unset] []))
      refine go (fun t kt => XS.iload X56.here hx rfl (hb hby at_96) rfl kt) ?_
      show Goes p.tables e below _ (T56.setTop (mkF m 98 #[.val (.int p0), .val (.int p1), .val (.int p2), .val (.int p3), .val (.int p4), .val (.int (3 : Int32)), .val (.int (1 : Int32)), .val (.ref b52), .val (.int (-1640531535 : Int32)), .val (.int ((-1640531535 : Int32) * (-1640531535 : Int32))), .val (.int (((-1640531535 : Int32) * (-1640531535 : Int32)) * (-1640531535 : Int32))), .unset, .unset] [(.int (3 : Int32))]))
      refine go (fun t kt => XS.iconst X56.here hx rfl (hb hby at_98) kt) ?_
      show Goes p.tables e below _ (T56.setTop (mkF m 99 #[.val (.int p0), .val (.int p1), .val (.int p2), .val (.int p3), .val (.int p4), .val (.int (3 : Int32)), .val (.int (1 : Int32)), .val (.ref b52), .val (.int (-1640531535 : Int32)), .val (.int ((-1640531535 : Int32) * (-1640531535 : Int32))), .val (.int (((-1640531535 : Int32) * (-1640531535 : Int32)) * (-1640531535 : Int32))), .unset, .unset] [(.int (1 : Int32)), (.int (3 : Int32))]))
      refine go (fun t kt => XS.icmpYes X56.here hx rfl (pc0 := 99) (pc' := 111) rfl (hb hby at_99) rfl (feq (by decide : ¬ ((3 : Int32) = (1 : Int32)))).2 (by decide) (by decide) kt) ?_
      show Goes p.tables e below _ (T56.setTop (mkF m 111 #[.val (.int p0), .val (.int p1), .val (.int p2), .val (.int p3), .val (.int p4), .val (.int (3 : Int32)), .val (.int (1 : Int32)), .val (.ref b52), .val (.int (-1640531535 : Int32)), .val (.int ((-1640531535 : Int32) * (-1640531535 : Int32))), .val (.int (((-1640531535 : Int32) * (-1640531535 : Int32)) * (-1640531535 : Int32))), .unset, .unset] []))
      refine go (fun t kt => XS.iload X56.here hx rfl (hb hby at_111) rfl kt) ?_
      show Goes p.tables e below _ (T56.setTop (mkF m 113 #[.val (.int p0), .val (.int p1), .val (.int p2), .val (.int p3), .val (.int p4), .val (.int (3 : Int32)), .val (.int (1 : Int32)), .val (.ref b52), .val (.int (-1640531535 : Int32)), .val (.int ((-1640531535 : Int32) * (-1640531535 : Int32))), .val (.int (((-1640531535 : Int32) * (-1640531535 : Int32)) * (-1640531535 : Int32))), .unset, .unset] [(.int (3 : Int32))]))
      refine go (fun t kt => XS.iconst X56.here hx rfl (hb hby at_113) kt) ?_
      show Goes p.tables e below _ (T56.setTop (mkF m 114 #[.val (.int p0), .val (.int p1), .val (.int p2), .val (.int p3), .val (.int p4), .val (.int (3 : Int32)), .val (.int (1 : Int32)), .val (.ref b52), .val (.int (-1640531535 : Int32)), .val (.int ((-1640531535 : Int32) * (-1640531535 : Int32))), .val (.int (((-1640531535 : Int32) * (-1640531535 : Int32)) * (-1640531535 : Int32))), .unset, .unset] [(.int (2 : Int32)), (.int (3 : Int32))]))
      refine go (fun t kt => XS.icmpYes X56.here hx rfl (pc0 := 114) (pc' := 131) rfl (hb hby at_114) rfl (feq (by decide : ¬ ((3 : Int32) = (2 : Int32)))).2 (by decide) (by decide) kt) ?_
      show Goes p.tables e below _ (T56.setTop (mkF m 131 #[.val (.int p0), .val (.int p1), .val (.int p2), .val (.int p3), .val (.int p4), .val (.int (3 : Int32)), .val (.int (1 : Int32)), .val (.ref b52), .val (.int (-1640531535 : Int32)), .val (.int ((-1640531535 : Int32) * (-1640531535 : Int32))), .val (.int (((-1640531535 : Int32) * (-1640531535 : Int32)) * (-1640531535 : Int32))), .unset, .unset] []))
      refine go (fun t kt => XS.iloadN X56.here hx rfl (hb hby at_131) rfl kt) ?_
      show Goes p.tables e below _ (T56.setTop (mkF m 132 #[.val (.int p0), .val (.int p1), .val (.int p2), .val (.int p3), .val (.int p4), .val (.int (3 : Int32)), .val (.int (1 : Int32)), .val (.ref b52), .val (.int (-1640531535 : Int32)), .val (.int ((-1640531535 : Int32) * (-1640531535 : Int32))), .val (.int (((-1640531535 : Int32) * (-1640531535 : Int32)) * (-1640531535 : Int32))), .unset, .unset] [(.int p0)]))
      refine go (fun t kt => XS.iload X56.here hx rfl (hb hby at_132) rfl kt) ?_
      show Goes p.tables e below _ (T56.setTop (mkF m 134 #[.val (.int p0), .val (.int p1), .val (.int p2), .val (.int p3), .val (.int p4), .val (.int (3 : Int32)), .val (.int (1 : Int32)), .val (.ref b52), .val (.int (-1640531535 : Int32)), .val (.int ((-1640531535 : Int32) * (-1640531535 : Int32))), .val (.int (((-1640531535 : Int32) * (-1640531535 : Int32)) * (-1640531535 : Int32))), .unset, .unset] [(.int (((-1640531535 : Int32) * (-1640531535 : Int32)) * (-1640531535 : Int32))), (.int p0)]))
      refine go (fun t kt => XS.imul X56.here hx rfl (hb hby at_134) rfl kt) ?_
      show Goes p.tables e below _ (T56.setTop (mkF m 135 #[.val (.int p0), .val (.int p1), .val (.int p2), .val (.int p3), .val (.int p4), .val (.int (3 : Int32)), .val (.int (1 : Int32)), .val (.ref b52), .val (.int (-1640531535 : Int32)), .val (.int ((-1640531535 : Int32) * (-1640531535 : Int32))), .val (.int (((-1640531535 : Int32) * (-1640531535 : Int32)) * (-1640531535 : Int32))), .unset, .unset] [(.int (p0 * (((-1640531535 : Int32) * (-1640531535 : Int32)) * (-1640531535 : Int32))))]))
      refine go (fun t kt => XS.iloadN X56.here hx rfl (hb hby at_135) rfl kt) ?_
      show Goes p.tables e below _ (T56.setTop (mkF m 136 #[.val (.int p0), .val (.int p1), .val (.int p2), .val (.int p3), .val (.int p4), .val (.int (3 : Int32)), .val (.int (1 : Int32)), .val (.ref b52), .val (.int (-1640531535 : Int32)), .val (.int ((-1640531535 : Int32) * (-1640531535 : Int32))), .val (.int (((-1640531535 : Int32) * (-1640531535 : Int32)) * (-1640531535 : Int32))), .unset, .unset] [(.int p1), (.int (p0 * (((-1640531535 : Int32) * (-1640531535 : Int32)) * (-1640531535 : Int32))))]))
      refine go (fun t kt => XS.iload X56.here hx rfl (hb hby at_136) rfl kt) ?_
      show Goes p.tables e below _ (T56.setTop (mkF m 138 #[.val (.int p0), .val (.int p1), .val (.int p2), .val (.int p3), .val (.int p4), .val (.int (3 : Int32)), .val (.int (1 : Int32)), .val (.ref b52), .val (.int (-1640531535 : Int32)), .val (.int ((-1640531535 : Int32) * (-1640531535 : Int32))), .val (.int (((-1640531535 : Int32) * (-1640531535 : Int32)) * (-1640531535 : Int32))), .unset, .unset] [(.int ((-1640531535 : Int32) * (-1640531535 : Int32))), (.int p1), (.int (p0 * (((-1640531535 : Int32) * (-1640531535 : Int32)) * (-1640531535 : Int32))))]))
      refine go (fun t kt => XS.imul X56.here hx rfl (hb hby at_138) rfl kt) ?_
      show Goes p.tables e below _ (T56.setTop (mkF m 139 #[.val (.int p0), .val (.int p1), .val (.int p2), .val (.int p3), .val (.int p4), .val (.int (3 : Int32)), .val (.int (1 : Int32)), .val (.ref b52), .val (.int (-1640531535 : Int32)), .val (.int ((-1640531535 : Int32) * (-1640531535 : Int32))), .val (.int (((-1640531535 : Int32) * (-1640531535 : Int32)) * (-1640531535 : Int32))), .unset, .unset] [(.int (p1 * ((-1640531535 : Int32) * (-1640531535 : Int32)))), (.int (p0 * (((-1640531535 : Int32) * (-1640531535 : Int32)) * (-1640531535 : Int32))))]))
      refine go (fun t kt => XS.iadd X56.here hx rfl (hb hby at_139) rfl kt) ?_
      show Goes p.tables e below _ (T56.setTop (mkF m 140 #[.val (.int p0), .val (.int p1), .val (.int p2), .val (.int p3), .val (.int p4), .val (.int (3 : Int32)), .val (.int (1 : Int32)), .val (.ref b52), .val (.int (-1640531535 : Int32)), .val (.int ((-1640531535 : Int32) * (-1640531535 : Int32))), .val (.int (((-1640531535 : Int32) * (-1640531535 : Int32)) * (-1640531535 : Int32))), .unset, .unset] [(.int ((p0 * (((-1640531535 : Int32) * (-1640531535 : Int32)) * (-1640531535 : Int32))) + (p1 * ((-1640531535 : Int32) * (-1640531535 : Int32)))))]))
      refine go (fun t kt => XS.iloadN X56.here hx rfl (hb hby at_140) rfl kt) ?_
      show Goes p.tables e below _ (T56.setTop (mkF m 141 #[.val (.int p0), .val (.int p1), .val (.int p2), .val (.int p3), .val (.int p4), .val (.int (3 : Int32)), .val (.int (1 : Int32)), .val (.ref b52), .val (.int (-1640531535 : Int32)), .val (.int ((-1640531535 : Int32) * (-1640531535 : Int32))), .val (.int (((-1640531535 : Int32) * (-1640531535 : Int32)) * (-1640531535 : Int32))), .unset, .unset] [(.int p2), (.int ((p0 * (((-1640531535 : Int32) * (-1640531535 : Int32)) * (-1640531535 : Int32))) + (p1 * ((-1640531535 : Int32) * (-1640531535 : Int32)))))]))
      refine go (fun t kt => XS.iload X56.here hx rfl (hb hby at_141) rfl kt) ?_
      show Goes p.tables e below _ (T56.setTop (mkF m 143 #[.val (.int p0), .val (.int p1), .val (.int p2), .val (.int p3), .val (.int p4), .val (.int (3 : Int32)), .val (.int (1 : Int32)), .val (.ref b52), .val (.int (-1640531535 : Int32)), .val (.int ((-1640531535 : Int32) * (-1640531535 : Int32))), .val (.int (((-1640531535 : Int32) * (-1640531535 : Int32)) * (-1640531535 : Int32))), .unset, .unset] [(.int (-1640531535 : Int32)), (.int p2), (.int ((p0 * (((-1640531535 : Int32) * (-1640531535 : Int32)) * (-1640531535 : Int32))) + (p1 * ((-1640531535 : Int32) * (-1640531535 : Int32)))))]))
      refine go (fun t kt => XS.imul X56.here hx rfl (hb hby at_143) rfl kt) ?_
      show Goes p.tables e below _ (T56.setTop (mkF m 144 #[.val (.int p0), .val (.int p1), .val (.int p2), .val (.int p3), .val (.int p4), .val (.int (3 : Int32)), .val (.int (1 : Int32)), .val (.ref b52), .val (.int (-1640531535 : Int32)), .val (.int ((-1640531535 : Int32) * (-1640531535 : Int32))), .val (.int (((-1640531535 : Int32) * (-1640531535 : Int32)) * (-1640531535 : Int32))), .unset, .unset] [(.int (p2 * (-1640531535 : Int32))), (.int ((p0 * (((-1640531535 : Int32) * (-1640531535 : Int32)) * (-1640531535 : Int32))) + (p1 * ((-1640531535 : Int32) * (-1640531535 : Int32)))))]))
      refine go (fun t kt => XS.iadd X56.here hx rfl (hb hby at_144) rfl kt) ?_
      show Goes p.tables e below _ (T56.setTop (mkF m 145 #[.val (.int p0), .val (.int p1), .val (.int p2), .val (.int p3), .val (.int p4), .val (.int (3 : Int32)), .val (.int (1 : Int32)), .val (.ref b52), .val (.int (-1640531535 : Int32)), .val (.int ((-1640531535 : Int32) * (-1640531535 : Int32))), .val (.int (((-1640531535 : Int32) * (-1640531535 : Int32)) * (-1640531535 : Int32))), .unset, .unset] [(.int (((p0 * (((-1640531535 : Int32) * (-1640531535 : Int32)) * (-1640531535 : Int32))) + (p1 * ((-1640531535 : Int32) * (-1640531535 : Int32)))) + (p2 * (-1640531535 : Int32))))]))
      refine go (fun t kt => XS.istore X56.here hx rfl (hb hby at_145) rfl (l' := #[.val (.int p0), .val (.int p1), .val (.int p2), .val (.int p3), .val (.int p4), .val (.int (3 : Int32)), .val (.int (1 : Int32)), .val (.ref b52), .val (.int (-1640531535 : Int32)), .val (.int ((-1640531535 : Int32) * (-1640531535 : Int32))), .val (.int (((-1640531535 : Int32) * (-1640531535 : Int32)) * (-1640531535 : Int32))), .val (.int (((p0 * (((-1640531535 : Int32) * (-1640531535 : Int32)) * (-1640531535 : Int32))) + (p1 * ((-1640531535 : Int32) * (-1640531535 : Int32)))) + (p2 * (-1640531535 : Int32)))), .unset]) rfl kt) ?_
      show Goes p.tables e below _ (T56.setTop (mkF m 147 #[.val (.int p0), .val (.int p1), .val (.int p2), .val (.int p3), .val (.int p4), .val (.int (3 : Int32)), .val (.int (1 : Int32)), .val (.ref b52), .val (.int (-1640531535 : Int32)), .val (.int ((-1640531535 : Int32) * (-1640531535 : Int32))), .val (.int (((-1640531535 : Int32) * (-1640531535 : Int32)) * (-1640531535 : Int32))), .val (.int (((p0 * (((-1640531535 : Int32) * (-1640531535 : Int32)) * (-1640531535 : Int32))) + (p1 * ((-1640531535 : Int32) * (-1640531535 : Int32)))) + (p2 * (-1640531535 : Int32)))), .unset] []))
      refine go (fun t kt => XS.iload X56.here hx rfl (hb hby at_147) rfl kt) ?_
      show Goes p.tables e below _ (T56.setTop (mkF m 149 #[.val (.int p0), .val (.int p1), .val (.int p2), .val (.int p3), .val (.int p4), .val (.int (3 : Int32)), .val (.int (1 : Int32)), .val (.ref b52), .val (.int (-1640531535 : Int32)), .val (.int ((-1640531535 : Int32) * (-1640531535 : Int32))), .val (.int (((-1640531535 : Int32) * (-1640531535 : Int32)) * (-1640531535 : Int32))), .val (.int (((p0 * (((-1640531535 : Int32) * (-1640531535 : Int32)) * (-1640531535 : Int32))) + (p1 * ((-1640531535 : Int32) * (-1640531535 : Int32)))) + (p2 * (-1640531535 : Int32)))), .unset] [(.int (((p0 * (((-1640531535 : Int32) * (-1640531535 : Int32)) * (-1640531535 : Int32))) + (p1 * ((-1640531535 : Int32) * (-1640531535 : Int32)))) + (p2 * (-1640531535 : Int32))))]))
      refine go (fun t kt => XS.iload X56.here hx rfl (hb hby at_149) rfl kt) ?_
      show Goes p.tables e below _ (T56.setTop (mkF m 151 #[.val (.int p0), .val (.int p1), .val (.int p2), .val (.int p3), .val (.int p4), .val (.int (3 : Int32)), .val (.int (1 : Int32)), .val (.ref b52), .val (.int (-1640531535 : Int32)), .val (.int ((-1640531535 : Int32) * (-1640531535 : Int32))), .val (.int (((-1640531535 : Int32) * (-1640531535 : Int32)) * (-1640531535 : Int32))), .val (.int (((p0 * (((-1640531535 : Int32) * (-1640531535 : Int32)) * (-1640531535 : Int32))) + (p1 * ((-1640531535 : Int32) * (-1640531535 : Int32)))) + (p2 * (-1640531535 : Int32)))), .unset] [(.int (((p0 * (((-1640531535 : Int32) * (-1640531535 : Int32)) * (-1640531535 : Int32))) + (p1 * ((-1640531535 : Int32) * (-1640531535 : Int32)))) + (p2 * (-1640531535 : Int32)))), (.int (((p0 * (((-1640531535 : Int32) * (-1640531535 : Int32)) * (-1640531535 : Int32))) + (p1 * ((-1640531535 : Int32) * (-1640531535 : Int32)))) + (p2 * (-1640531535 : Int32))))]))
      refine go (fun t kt => XS.bipush X56.here hx rfl (hb hby at_151) kt) ?_
      show Goes p.tables e below _ (T56.setTop (mkF m 153 #[.val (.int p0), .val (.int p1), .val (.int p2), .val (.int p3), .val (.int p4), .val (.int (3 : Int32)), .val (.int (1 : Int32)), .val (.ref b52), .val (.int (-1640531535 : Int32)), .val (.int ((-1640531535 : Int32) * (-1640531535 : Int32))), .val (.int (((-1640531535 : Int32) * (-1640531535 : Int32)) * (-1640531535 : Int32))), .val (.int (((p0 * (((-1640531535 : Int32) * (-1640531535 : Int32)) * (-1640531535 : Int32))) + (p1 * ((-1640531535 : Int32) * (-1640531535 : Int32)))) + (p2 * (-1640531535 : Int32)))), .unset] [(.int (16 : Int32)), (.int (((p0 * (((-1640531535 : Int32) * (-1640531535 : Int32)) * (-1640531535 : Int32))) + (p1 * ((-1640531535 : Int32) * (-1640531535 : Int32)))) + (p2 * (-1640531535 : Int32)))), (.int (((p0 * (((-1640531535 : Int32) * (-1640531535 : Int32)) * (-1640531535 : Int32))) + (p1 * ((-1640531535 : Int32) * (-1640531535 : Int32)))) + (p2 * (-1640531535 : Int32))))]))
      refine go (fun t kt => XS.iushr X56.here hx rfl (hb hby at_153) rfl kt) ?_
      show Goes p.tables e below _ (T56.setTop (mkF m 154 #[.val (.int p0), .val (.int p1), .val (.int p2), .val (.int p3), .val (.int p4), .val (.int (3 : Int32)), .val (.int (1 : Int32)), .val (.ref b52), .val (.int (-1640531535 : Int32)), .val (.int ((-1640531535 : Int32) * (-1640531535 : Int32))), .val (.int (((-1640531535 : Int32) * (-1640531535 : Int32)) * (-1640531535 : Int32))), .val (.int (((p0 * (((-1640531535 : Int32) * (-1640531535 : Int32)) * (-1640531535 : Int32))) + (p1 * ((-1640531535 : Int32) * (-1640531535 : Int32)))) + (p2 * (-1640531535 : Int32)))), .unset] [(.int (((((p0 * (((-1640531535 : Int32) * (-1640531535 : Int32)) * (-1640531535 : Int32))) + (p1 * ((-1640531535 : Int32) * (-1640531535 : Int32)))) + (p2 * (-1640531535 : Int32))).toUInt32 >>> ((16 : Int32) &&& 31).toUInt32).toInt32)), (.int (((p0 * (((-1640531535 : Int32) * (-1640531535 : Int32)) * (-1640531535 : Int32))) + (p1 * ((-1640531535 : Int32) * (-1640531535 : Int32)))) + (p2 * (-1640531535 : Int32))))]))
      refine go (fun t kt => XS.ixor X56.here hx rfl (hb hby at_154) rfl kt) ?_
      show Goes p.tables e below _ (T56.setTop (mkF m 155 #[.val (.int p0), .val (.int p1), .val (.int p2), .val (.int p3), .val (.int p4), .val (.int (3 : Int32)), .val (.int (1 : Int32)), .val (.ref b52), .val (.int (-1640531535 : Int32)), .val (.int ((-1640531535 : Int32) * (-1640531535 : Int32))), .val (.int (((-1640531535 : Int32) * (-1640531535 : Int32)) * (-1640531535 : Int32))), .val (.int (((p0 * (((-1640531535 : Int32) * (-1640531535 : Int32)) * (-1640531535 : Int32))) + (p1 * ((-1640531535 : Int32) * (-1640531535 : Int32)))) + (p2 * (-1640531535 : Int32)))), .unset] [(.int ((((p0 * (((-1640531535 : Int32) * (-1640531535 : Int32)) * (-1640531535 : Int32))) + (p1 * ((-1640531535 : Int32) * (-1640531535 : Int32)))) + (p2 * (-1640531535 : Int32))) ^^^ (((((p0 * (((-1640531535 : Int32) * (-1640531535 : Int32)) * (-1640531535 : Int32))) + (p1 * ((-1640531535 : Int32) * (-1640531535 : Int32)))) + (p2 * (-1640531535 : Int32))).toUInt32 >>> ((16 : Int32) &&& 31).toUInt32).toInt32)))]))
      refine go (fun t kt => XS.istore X56.here hx rfl (hb hby at_155) rfl (l' := #[.val (.int p0), .val (.int p1), .val (.int p2), .val (.int p3), .val (.int p4), .val (.int (3 : Int32)), .val (.int (1 : Int32)), .val (.ref b52), .val (.int (-1640531535 : Int32)), .val (.int ((-1640531535 : Int32) * (-1640531535 : Int32))), .val (.int (((-1640531535 : Int32) * (-1640531535 : Int32)) * (-1640531535 : Int32))), .val (.int (((p0 * (((-1640531535 : Int32) * (-1640531535 : Int32)) * (-1640531535 : Int32))) + (p1 * ((-1640531535 : Int32) * (-1640531535 : Int32)))) + (p2 * (-1640531535 : Int32)))), .val (.int ((((p0 * (((-1640531535 : Int32) * (-1640531535 : Int32)) * (-1640531535 : Int32))) + (p1 * ((-1640531535 : Int32) * (-1640531535 : Int32)))) + (p2 * (-1640531535 : Int32))) ^^^ (((((p0 * (((-1640531535 : Int32) * (-1640531535 : Int32)) * (-1640531535 : Int32))) + (p1 * ((-1640531535 : Int32) * (-1640531535 : Int32)))) + (p2 * (-1640531535 : Int32))).toUInt32 >>> ((16 : Int32) &&& 31).toUInt32).toInt32)))]) rfl kt) ?_
      show Goes p.tables e below _ (T56.setTop (mkF m 157 #[.val (.int p0), .val (.int p1), .val (.int p2), .val (.int p3), .val (.int p4), .val (.int (3 : Int32)), .val (.int (1 : Int32)), .val (.ref b52), .val (.int (-1640531535 : Int32)), .val (.int ((-1640531535 : Int32) * (-1640531535 : Int32))), .val (.int (((-1640531535 : Int32) * (-1640531535 : Int32)) * (-1640531535 : Int32))), .val (.int (((p0 * (((-1640531535 : Int32) * (-1640531535 : Int32)) * (-1640531535 : Int32))) + (p1 * ((-1640531535 : Int32) * (-1640531535 : Int32)))) + (p2 * (-1640531535 : Int32)))), .val (.int ((((p0 * (((-1640531535 : Int32) * (-1640531535 : Int32)) * (-1640531535 : Int32))) + (p1 * ((-1640531535 : Int32) * (-1640531535 : Int32)))) + (p2 * (-1640531535 : Int32))) ^^^ (((((p0 * (((-1640531535 : Int32) * (-1640531535 : Int32)) * (-1640531535 : Int32))) + (p1 * ((-1640531535 : Int32) * (-1640531535 : Int32)))) + (p2 * (-1640531535 : Int32))).toUInt32 >>> ((16 : Int32) &&& 31).toUInt32).toInt32)))] []))
      refine go (fun t kt => XS.aload X56.here hx rfl (hb hby at_157) rfl rfl kt) ?_
      show Goes p.tables e below _ (T56.setTop (mkF m 159 #[.val (.int p0), .val (.int p1), .val (.int p2), .val (.int p3), .val (.int p4), .val (.int (3 : Int32)), .val (.int (1 : Int32)), .val (.ref b52), .val (.int (-1640531535 : Int32)), .val (.int ((-1640531535 : Int32) * (-1640531535 : Int32))), .val (.int (((-1640531535 : Int32) * (-1640531535 : Int32)) * (-1640531535 : Int32))), .val (.int (((p0 * (((-1640531535 : Int32) * (-1640531535 : Int32)) * (-1640531535 : Int32))) + (p1 * ((-1640531535 : Int32) * (-1640531535 : Int32)))) + (p2 * (-1640531535 : Int32)))), .val (.int ((((p0 * (((-1640531535 : Int32) * (-1640531535 : Int32)) * (-1640531535 : Int32))) + (p1 * ((-1640531535 : Int32) * (-1640531535 : Int32)))) + (p2 * (-1640531535 : Int32))) ^^^ (((((p0 * (((-1640531535 : Int32) * (-1640531535 : Int32)) * (-1640531535 : Int32))) + (p1 * ((-1640531535 : Int32) * (-1640531535 : Int32)))) + (p2 * (-1640531535 : Int32))).toUInt32 >>> ((16 : Int32) &&& 31).toUInt32).toInt32)))] [(.ref b52)]))
      refine go (fun t kt => XS.iload X56.here hx rfl (hb hby at_159) rfl kt) ?_
      show Goes p.tables e below _ (T56.setTop (mkF m 161 #[.val (.int p0), .val (.int p1), .val (.int p2), .val (.int p3), .val (.int p4), .val (.int (3 : Int32)), .val (.int (1 : Int32)), .val (.ref b52), .val (.int (-1640531535 : Int32)), .val (.int ((-1640531535 : Int32) * (-1640531535 : Int32))), .val (.int (((-1640531535 : Int32) * (-1640531535 : Int32)) * (-1640531535 : Int32))), .val (.int (((p0 * (((-1640531535 : Int32) * (-1640531535 : Int32)) * (-1640531535 : Int32))) + (p1 * ((-1640531535 : Int32) * (-1640531535 : Int32)))) + (p2 * (-1640531535 : Int32)))), .val (.int ((((p0 * (((-1640531535 : Int32) * (-1640531535 : Int32)) * (-1640531535 : Int32))) + (p1 * ((-1640531535 : Int32) * (-1640531535 : Int32)))) + (p2 * (-1640531535 : Int32))) ^^^ (((((p0 * (((-1640531535 : Int32) * (-1640531535 : Int32)) * (-1640531535 : Int32))) + (p1 * ((-1640531535 : Int32) * (-1640531535 : Int32)))) + (p2 * (-1640531535 : Int32))).toUInt32 >>> ((16 : Int32) &&& 31).toUInt32).toInt32)))] [(.int (1 : Int32)), (.ref b52)]))
      refine go (fun t kt => XS.iload X56.here hx rfl (hb hby at_161) rfl kt) ?_
      show Goes p.tables e below _ (T56.setTop (mkF m 163 #[.val (.int p0), .val (.int p1), .val (.int p2), .val (.int p3), .val (.int p4), .val (.int (3 : Int32)), .val (.int (1 : Int32)), .val (.ref b52), .val (.int (-1640531535 : Int32)), .val (.int ((-1640531535 : Int32) * (-1640531535 : Int32))), .val (.int (((-1640531535 : Int32) * (-1640531535 : Int32)) * (-1640531535 : Int32))), .val (.int (((p0 * (((-1640531535 : Int32) * (-1640531535 : Int32)) * (-1640531535 : Int32))) + (p1 * ((-1640531535 : Int32) * (-1640531535 : Int32)))) + (p2 * (-1640531535 : Int32)))), .val (.int ((((p0 * (((-1640531535 : Int32) * (-1640531535 : Int32)) * (-1640531535 : Int32))) + (p1 * ((-1640531535 : Int32) * (-1640531535 : Int32)))) + (p2 * (-1640531535 : Int32))) ^^^ (((((p0 * (((-1640531535 : Int32) * (-1640531535 : Int32)) * (-1640531535 : Int32))) + (p1 * ((-1640531535 : Int32) * (-1640531535 : Int32)))) + (p2 * (-1640531535 : Int32))).toUInt32 >>> ((16 : Int32) &&& 31).toUInt32).toInt32)))] [(.int (3 : Int32)), (.int (1 : Int32)), (.ref b52)]))
      obtain ⟨_, _, ⟨T57, L57, k57, n57⟩, -, X57, ⟨Lc57, hQ57, l57, y57, z57⟩, st57⟩ := Jvm.LawKit.callS X56 hx (y := (⟨"com/example/limpet/limpet/model/NodeLabel", "hashOf", "([III)I"⟩ : MethodName)) hown (mvT hZ (hw _ (List.mem_of_getElem? (i := 2) rfl))) (mvT hZ (hw _ (List.mem_of_getElem? (i := 3) rfl))) (mvT hZ (hw _ (List.mem_of_getElem? (i := 4) rfl))) (mvT hZ (hw _ (List.mem_of_getElem? (i := 5) rfl))) (by decide) (backOf (W := 0) (rmh13 l Z a0 hw [] b52 k52 p3 p0 p1 p2 h56 n0 Zz56 V_b52) hZ (hw _ (List.mem_of_getElem? (i := 5) rfl)) (hw _ (List.mem_of_getElem? (i := 4) rfl)) (by decide) (by decide)) (g := (mkF m 163 #[.val (.int p0), .val (.int p1), .val (.int p2), .val (.int p3), .val (.int p4), .val (.int (3 : Int32)), .val (.int (1 : Int32)), .val (.ref b52), .val (.int (-1640531535 : Int32)), .val (.int ((-1640531535 : Int32) * (-1640531535 : Int32))), .val (.int (((-1640531535 : Int32) * (-1640531535 : Int32)) * (-1640531535 : Int32))), .val (.int (((p0 * (((-1640531535 : Int32) * (-1640531535 : Int32)) * (-1640531535 : Int32))) + (p1 * ((-1640531535 : Int32) * (-1640531535 : Int32)))) + (p2 * (-1640531535 : Int32)))), .val (.int ((((p0 * (((-1640531535 : Int32) * (-1640531535 : Int32)) * (-1640531535 : Int32))) + (p1 * ((-1640531535 : Int32) * (-1640531535 : Int32)))) + (p2 * (-1640531535 : Int32))) ^^^ (((((p0 * (((-1640531535 : Int32) * (-1640531535 : Int32)) * (-1640531535 : Int32))) + (p1 * ((-1640531535 : Int32) * (-1640531535 : Int32)))) + (p2 * (-1640531535 : Int32))).toUInt32 >>> ((16 : Int32) &&& 31).toUInt32).toInt32)))] [(.int (3 : Int32)), (.int (1 : Int32)), (.ref b52)])) rfl (by rw [hml]; rfl) (argsL := [(.ref b52), (.int (1 : Int32)), (.int (3 : Int32))]) (rest := []) (lenOf pd_0 rfl) rfl (by show 2 * 0 + _ ≤ _; exact Nat.le_of_eq rfl) (hb hby at_163) (fun _ _ => ⟨rfl, e56, (by decide : 1 + 0 ≤ _), (by decide : 4 + 0 ≤ _)⟩)
      dsimp only [Pt.U, Pt.locs, Pt.cells, Pt.slots] at X57 l57 y57 z57 st57 hQ57
      subst l57 y57 z57
      obtain ⟨rfl, Nq57, e57⟩ := hQ57
      have N57 := Fr.app N56 Nq57
      refine go st57 ?_
      show Goes p.tables e below _ (T57.setTop (mkF m 166 #[.val (.int p0), .val (.int p1), .val (.int p2), .val (.int p3), .val (.int p4), .val (.int (3 : Int32)), .val (.int (1 : Int32)), .val (.ref b52), .val (.int (-1640531535 : Int32)), .val (.int ((-1640531535 : Int32) * (-1640531535 : Int32))), .val (.int (((-1640531535 : Int32) * (-1640531535 : Int32)) * (-1640531535 : Int32))), .val (.int (((p0 * (((-1640531535 : Int32) * (-1640531535 : Int32)) * (-1640531535 : Int32))) + (p1 * ((-1640531535 : Int32) * (-1640531535 : Int32)))) + (p2 * (-1640531535 : Int32)))), .val (.int ((((p0 * (((-1640531535 : Int32) * (-1640531535 : Int32)) * (-1640531535 : Int32))) + (p1 * ((-1640531535 : Int32) * (-1640531535 : Int32)))) + (p2 * (-1640531535 : Int32))) ^^^ (((((p0 * (((-1640531535 : Int32) * (-1640531535 : Int32)) * (-1640531535 : Int32))) + (p1 * ((-1640531535 : Int32) * (-1640531535 : Int32)))) + (p2 * (-1640531535 : Int32))).toUInt32 >>> ((16 : Int32) &&& 31).toUInt32).toInt32)))] [(.int (own_h13 p0 p1 p2))]))
      refine go (fun t kt => XS.iload X57.here hx rfl (hb hby at_166) rfl kt) ?_
      show Goes p.tables e below _ (T57.setTop (mkF m 168 #[.val (.int p0), .val (.int p1), .val (.int p2), .val (.int p3), .val (.int p4), .val (.int (3 : Int32)), .val (.int (1 : Int32)), .val (.ref b52), .val (.int (-1640531535 : Int32)), .val (.int ((-1640531535 : Int32) * (-1640531535 : Int32))), .val (.int (((-1640531535 : Int32) * (-1640531535 : Int32)) * (-1640531535 : Int32))), .val (.int (((p0 * (((-1640531535 : Int32) * (-1640531535 : Int32)) * (-1640531535 : Int32))) + (p1 * ((-1640531535 : Int32) * (-1640531535 : Int32)))) + (p2 * (-1640531535 : Int32)))), .val (.int ((((p0 * (((-1640531535 : Int32) * (-1640531535 : Int32)) * (-1640531535 : Int32))) + (p1 * ((-1640531535 : Int32) * (-1640531535 : Int32)))) + (p2 * (-1640531535 : Int32))) ^^^ (((((p0 * (((-1640531535 : Int32) * (-1640531535 : Int32)) * (-1640531535 : Int32))) + (p1 * ((-1640531535 : Int32) * (-1640531535 : Int32)))) + (p2 * (-1640531535 : Int32))).toUInt32 >>> ((16 : Int32) &&& 31).toUInt32).toInt32)))] [(.int ((((p0 * (((-1640531535 : Int32) * (-1640531535 : Int32)) * (-1640531535 : Int32))) + (p1 * ((-1640531535 : Int32) * (-1640531535 : Int32)))) + (p2 * (-1640531535 : Int32))) ^^^ (((((p0 * (((-1640531535 : Int32) * (-1640531535 : Int32)) * (-1640531535 : Int32))) + (p1 * ((-1640531535 : Int32) * (-1640531535 : Int32)))) + (p2 * (-1640531535 : Int32))).toUInt32 >>> ((16 : Int32) &&& 31).toUInt32).toInt32))), (.int (own_h13 p0 p1 p2))]))
      refine go (fun t kt => XS.icmpNo X57.here hx rfl (hb hby at_168) rfl (teq (by unfold own_h13; rw [own_e3])).2 kt) ?_
      show Goes p.tables e below _ (T57.setTop (mkF m 171 #[.val (.int p0), .val (.int p1), .val (.int p2), .val (.int p3), .val (.int p4), .val (.int (3 : Int32)), .val (.int (1 : Int32)), .val (.ref b52), .val (.int (-1640531535 : Int32)), .val (.int ((-1640531535 : Int32) * (-1640531535 : Int32))), .val (.int (((-1640531535 : Int32) * (-1640531535 : Int32)) * (-1640531535 : Int32))), .val (.int (((p0 * (((-1640531535 : Int32) * (-1640531535 : Int32)) * (-1640531535 : Int32))) + (p1 * ((-1640531535 : Int32) * (-1640531535 : Int32)))) + (p2 * (-1640531535 : Int32)))), .val (.int ((((p0 * (((-1640531535 : Int32) * (-1640531535 : Int32)) * (-1640531535 : Int32))) + (p1 * ((-1640531535 : Int32) * (-1640531535 : Int32)))) + (p2 * (-1640531535 : Int32))) ^^^ (((((p0 * (((-1640531535 : Int32) * (-1640531535 : Int32)) * (-1640531535 : Int32))) + (p1 * ((-1640531535 : Int32) * (-1640531535 : Int32)))) + (p2 * (-1640531535 : Int32))).toUInt32 >>> ((16 : Int32) &&& 31).toUInt32).toInt32)))] []))
      refine go (fun t kt => XS.iconst X57.here hx rfl (hb hby at_171) kt) ?_
      show Goes p.tables e below _ (T57.setTop (mkF m 172 #[.val (.int p0), .val (.int p1), .val (.int p2), .val (.int p3), .val (.int p4), .val (.int (3 : Int32)), .val (.int (1 : Int32)), .val (.ref b52), .val (.int (-1640531535 : Int32)), .val (.int ((-1640531535 : Int32) * (-1640531535 : Int32))), .val (.int (((-1640531535 : Int32) * (-1640531535 : Int32)) * (-1640531535 : Int32))), .val (.int (((p0 * (((-1640531535 : Int32) * (-1640531535 : Int32)) * (-1640531535 : Int32))) + (p1 * ((-1640531535 : Int32) * (-1640531535 : Int32)))) + (p2 * (-1640531535 : Int32)))), .val (.int ((((p0 * (((-1640531535 : Int32) * (-1640531535 : Int32)) * (-1640531535 : Int32))) + (p1 * ((-1640531535 : Int32) * (-1640531535 : Int32)))) + (p2 * (-1640531535 : Int32))) ^^^ (((((p0 * (((-1640531535 : Int32) * (-1640531535 : Int32)) * (-1640531535 : Int32))) + (p1 * ((-1640531535 : Int32) * (-1640531535 : Int32)))) + (p2 * (-1640531535 : Int32))).toUInt32 >>> ((16 : Int32) &&& 31).toUInt32).toInt32)))] [(.int (1 : Int32))]))
      refine go (fun t kt => XS.goto X57.here hx rfl (pc0 := 172) (pc' := 176) rfl (hb hby at_172) (by decide) (by decide) kt) ?_
      show Goes p.tables e below _ (T57.setTop (mkF m 176 #[.val (.int p0), .val (.int p1), .val (.int p2), .val (.int p3), .val (.int p4), .val (.int (3 : Int32)), .val (.int (1 : Int32)), .val (.ref b52), .val (.int (-1640531535 : Int32)), .val (.int ((-1640531535 : Int32) * (-1640531535 : Int32))), .val (.int (((-1640531535 : Int32) * (-1640531535 : Int32)) * (-1640531535 : Int32))), .val (.int (((p0 * (((-1640531535 : Int32) * (-1640531535 : Int32)) * (-1640531535 : Int32))) + (p1 * ((-1640531535 : Int32) * (-1640531535 : Int32)))) + (p2 * (-1640531535 : Int32)))), .val (.int ((((p0 * (((-1640531535 : Int32) * (-1640531535 : Int32)) * (-1640531535 : Int32))) + (p1 * ((-1640531535 : Int32) * (-1640531535 : Int32)))) + (p2 * (-1640531535 : Int32))) ^^^ (((((p0 * (((-1640531535 : Int32) * (-1640531535 : Int32)) * (-1640531535 : Int32))) + (p1 * ((-1640531535 : Int32) * (-1640531535 : Int32)))) + (p2 * (-1640531535 : Int32))).toUInt32 >>> ((16 : Int32) &&& 31).toUInt32).toInt32)))] [(.int (1 : Int32))]))
      obtain ⟨fs, hr, hrun, hended, hW, hsame⟩ := X57.leave (v := some (.int (1 : Int32))) (fun h => by rw [Bd.returns] at h; cases h)
      refine ⟨_, _, retN X57 hx (t := .boolean) Bd.returns (by simp) (hb hby at_176) hr, hrun, hended, _, _, rfl, ?_, ⟨_, rfl⟩, hW, hsame.mono (by decide) (by decide)⟩
      show Q0 Z p0 p1 p2 p3 p4 h0 n0 _ T57.heap _
      rw [e57]
      exact ⟨rfl, N57⟩
set_option maxRecDepth 65536 in
set_option maxHeartbeats 40000000 in
theorem comes_1 {Post : Tables → Env → Array Value → State → Outcome → State → Prop} (hpost : ∀ tb e args s v u, (limb_1_1.after args s (.returned v) u = true ∧ limb_1_2.after args s (.returned v) u = true ∧ True) → FrameEnd s (.returned v) u (Jvm.fieldLocs frame_1_writes args s ++ Jvm.arrayLocs frame_1_arrays args s ++ Jvm.staticLocs frame_1_statics s) 16 128 → Post tb e args s (.returned v) u) :
    ArmFor flags0 classFile x code maxLocals ret World_1 tables_1 room_1 Calls_1 rest_1 Pre_1 Post := by
  intro l hfl _ _ p e ha hc hk s m args below hf hA hF happ hP
  obtain ⟨hcalls, hrest, hpre⟩ := hP
  obtain ⟨-, -, -, hnamed, -, -, -, hat⟩ := (Spec.applies_iff hf).mp happ
  obtain ⟨hg, hn⟩ := and_e (Cond.before_iff.mp (show (Jvm.Cond.and given_1 narrow_1).before args s = true from hpre))
  obtain ⟨u1, u2⟩ := and_e hg
  obtain ⟨u3, u4⟩ := and_e u2
  obtain ⟨u5, u6⟩ := and_e u4
  obtain ⟨u7, u8⟩ := and_e u6
  obtain ⟨u9, u10⟩ := and_e u8
  obtain ⟨w0, w1, w2, w3, w4, rfl⟩ : ∃ w0 w1 w2 w3 w4 : Value, args = #[w0, w1, w2, w3, w4] := by
    have hs : args.size = 5 := by simpa [Cond.value, given_1] using u1
    obtain ⟨L⟩ := args
    match L, hs with
    | [w0, w1, w2, w3, w4], _ => exact ⟨w0, w1, w2, w3, w4, rfl⟩
  have hw := fun d (hd : d ∈ tables_1) => atoms_spec (ws := Jvm.Cond.code x code maxLocals ret :: tables_1) hat d (List.mem_cons_of_mem _ hd)
  obtain ⟨i0, ei0⟩ := is_v u3
  obtain rfl : w0 = (.int i0) := Option.some.inj ei0
  obtain ⟨i1, ei1⟩ := is_v u5
  obtain rfl : w1 = (.int i1) := Option.some.inj ei1
  obtain ⟨i2, ei2⟩ := is_v u7
  obtain rfl : w2 = (.int i2) := Option.some.inj ei2
  obtain ⟨i3, ei3⟩ := is_v u9
  obtain rfl : w3 = (.int i3) := Option.some.inj ei3
  obtain ⟨i4, ei4⟩ := is_v u10
  obtain rfl : w4 = (.int i4) := Option.some.inj ei4
  obtain ⟨n, o, h1, h2, h3, _, L, rfl, ⟨rfl, N⟩, hq⟩ := rm0 l s _ hw tables_1 i0 i1 i2 i3 i4  s.heap s.heap.size (Nat.le_refl _)  p e ha hc hk s m _ below hf ((Spec.applies_iff_loose hf).mp happ).1 ⟨rfl, State.Warmed39.refl s, rfl⟩ trivial
  refine ⟨n, _, h1, h2, h3, hpost _ _ _ _ _ _ ⟨Cond.after_iff.mpr rfl, Cond.after_iff.mpr (eq_i res_at (Term.int_eval (1)) rfl), trivial⟩ ⟨hq.1, hq.2.1, (hq.2.2.sift fun y hy => Or.inr (N y hy)).mono (by decide) (by decide)⟩⟩
theorem main_1_1 : Claimed_1_1 := comes_1 fun _ _ _ _ _ _ h hF => ⟨h.1, hF⟩
theorem main_1_2 : Claimed_1_2 := comes_1 fun _ _ _ _ _ _ h hF => ⟨h.2.1, hF⟩
end Jvm.Pilot.@@N@@
namespace Jvm.Pilot.@@N@@
open Jvm Jvm.ClassFile Sem Op Lib Jvm.Free Jvm.Stand Jvm.Pilot.@@N@@.Jvm.D
/-! MADE BY PROGRAM (witnessworld.py) out of the Statement's table words and the real class files: 10 classes; the members and pool entries that the words name. The judged class is class 1, her method 1. -/
namespace start1
open Jvm.ClassFile
def u (s : String) : CpInfo := .utf8 (stringToUtf16 s)
/-- a pool by its gaps: so many unusable entries, then the entry; so many at the end -/
def gap : Nat → List CpInfo → List CpInfo
  | 0, r => r
  | n + 1, r => .unusable :: gap n r
def poolList (es : List (Nat × CpInfo)) (last : Nat) : List CpInfo := es.foldr (fun e r => gap e.1 (e.2 :: r)) (gap last [])
def pool (es : List (Nat × CpInfo)) (last : Nat) : Array CpInfo := ⟨poolList es last⟩
def fileOf (pool : Array CpInfo) (this : Nat) (attrs : Array Attribute := #[]) (ms : Array MethodInfo := #[]) (fl : Nat := 33) (sup : Nat := 0) (ifs : Array Nat := #[]) (fds : Array FieldInfo := #[]) : ClassFile where
  minorVersion := 0
  majorVersion := 65
  constantPool := pool
  accessFlags := fl
  thisClass := this
  superClass := sup
  interfaces := ifs
  fields := fds
  methods := ms
  attributes := attrs
def plain (name : String) (sup : Option ClassId) : Class where
  name := name
  kind := .ordinary
  loader := none
  accessFlags := 33
  super := sup
  interfaces := #[]
  cf := none
  fields := #[]
  methods := #[]
  instanceTypes := #[]
  staticTypes := #[]
  resolved := #[]
  callSites := []
  init := .initialized
  statics := none
  mirror := none

def pool0 : Array CpInfo := pool [(5, u "<init>"), (0, u "()V"), (1, .class_ 10), (1, u "java/lang/Object")] 113

def k0m0 : Method := { name := "<init>", desc := "()V", sig := { parameters := [], returnType := none }, accessFlags := 1, code := none }
/-- java/lang/Object -/
def k0 : Class := { plain "java/lang/Object" none with
  accessFlags := 33
  interfaces := #[]
  cf := some (fileOf pool0 8 #[] #[{ accessFlags := 1, nameIndex := 5, descriptorIndex := 6, attributes := #[] }] 33 0 #[] #[])
  fields := #[]
  methods := #[k0m0]
  instanceTypes := #[]
  staticTypes := #[]
  resolved := Array.replicate 124 none
  statics := none }

def pool1 : Array CpInfo := pool [(2, .class_ 4), (1, u "java/lang/Object"), (0, u "<init>"), (0, u "()V"), (0, .integer 2654435761), (0, .methodref 9 10), (0, .class_ 11), (0, .nameAndType 12 13), (0, u "com/example/limpet/limpet/model/NodeLabel"), (0, u "hashOf"), (0, u "([III)I"), (0, .class_ 15), (0, u "com/example/limpet/limpet/model/NodeLabelHashOfPinLaw"), (2, u "law"), (0, u "(IIIII)Z")] 5

def k1m0 : Method := { name := "<init>", desc := "()V", sig := { parameters := [], returnType := none }, accessFlags := 1, code := none }
def k1c1 : Code := { maxStack := 3, maxLocals := 13, code := code, exceptionTable := #[], attributes := #[] }
def k1m1 : Method := { name := "law", desc := "(IIIII)Z", sig := { parameters := [.int, .int, .int, .int, .int], returnType := some .boolean }, accessFlags := 9, code := some k1c1 }
/-- com/example/limpet/limpet/model/NodeLabelHashOfPinLaw -/
def k1 : Class := { plain "com/example/limpet/limpet/model/NodeLabelHashOfPinLaw" (some 0) with
  accessFlags := 49
  interfaces := #[]
  cf := some (fileOf pool1 14 #[] #[{ accessFlags := 1, nameIndex := 5, descriptorIndex := 6, attributes := #[] }, { accessFlags := 9, nameIndex := 18, descriptorIndex := 19, attributes := #[] }] 49 2 #[] #[])
  fields := #[]
  methods := #[k1m0, k1m1]
  instanceTypes := #[]
  staticTypes := #[]
  resolved := Array.replicate 25 none
  statics := none }

def pool2 : Array CpInfo := pool [(1, .class_ 2), (0, u "java/lang/Comparable"), (0, .class_ 4), (0, u "java/lang/Object")] 7

/-- java/lang/Comparable -/
def k2 : Class := { plain "java/lang/Comparable" (some 0) with
  accessFlags := 1537
  interfaces := #[]
  cf := some (fileOf pool2 1 #[] #[] 1537 3 #[] #[])
  fields := #[]
  methods := #[]
  instanceTypes := #[]
  staticTypes := #[]
  resolved := Array.replicate 12 none
  statics := none }

def pool3 : Array CpInfo := pool [(2, .class_ 4), (1, u "java/lang/Object"), (3, .class_ 10), (1, u "com/example/limpet/limpet/model/NodeLabel"), (0, u "divisions"), (0, u "[I"), (10, u "DIVISION"), (0, u "Ljava/util/regex/Pattern;"), (56, u "PAYLOAD_BITS"), (4, u "FIRST_VALUE"), (45, u "oddDivisions"), (0, u "I"), (74, u "hash"), (5, u "hashOf"), (0, u "([III)I"), (0, .integer 2654435761), (37, .class_ 255), (0, u "java/lang/Comparable"), (0, u "RESERVED_PREFIX_ONES"), (2, u "ROOM_START"), (1, u "HASH_FACTOR")] 78

def k3c0 : Code := { maxStack := 3, maxLocals := 5, code := prog_42_method_23_code, exceptionTable := #[], attributes := #[] }
def k3m0 : Method := { name := "hashOf", desc := "([III)I", sig := { parameters := [(.array .int), .int, .int], returnType := some .int }, accessFlags := 9, code := some k3c0 }
/-- com/example/limpet/limpet/model/NodeLabel -/
def k3 : Class := { plain "com/example/limpet/limpet/model/NodeLabel" (some 0) with
  accessFlags := 33
  interfaces := #[2]
  cf := some (fileOf pool3 8 #[] #[{ accessFlags := 9, nameIndex := 214, descriptorIndex := 215, attributes := #[] }] 33 2 #[254] #[{ accessFlags := 26, nameIndex := 81, descriptorIndex := 12, attributes := #[] }, { accessFlags := 26, nameIndex := 86, descriptorIndex := 12, attributes := #[] }, { accessFlags := 26, nameIndex := 256, descriptorIndex := 133, attributes := #[] }, { accessFlags := 26, nameIndex := 23, descriptorIndex := 24, attributes := #[] }, { accessFlags := 26, nameIndex := 259, descriptorIndex := 133, attributes := #[] }, { accessFlags := 26, nameIndex := 261, descriptorIndex := 133, attributes := #[] }, { accessFlags := 18, nameIndex := 11, descriptorIndex := 12, attributes := #[] }, { accessFlags := 2, nameIndex := 208, descriptorIndex := 133, attributes := #[] }, { accessFlags := 2, nameIndex := 132, descriptorIndex := 133, attributes := #[] }])
  fields := #[{ name := "PAYLOAD_BITS", type := (.array .int), accessFlags := 26, slot := 0, constantValue := 0 }, { name := "FIRST_VALUE", type := (.array .int), accessFlags := 26, slot := 1, constantValue := 0 }, { name := "RESERVED_PREFIX_ONES", type := .int, accessFlags := 26, slot := 2, constantValue := 0 }, { name := "DIVISION", type := (.object "java/util/regex/Pattern"), accessFlags := 26, slot := 3, constantValue := 0 }, { name := "ROOM_START", type := .int, accessFlags := 26, slot := 4, constantValue := 0 }, { name := "HASH_FACTOR", type := .int, accessFlags := 26, slot := 5, constantValue := 0 }, { name := "divisions", type := (.array .int), accessFlags := 18, slot := 0, constantValue := 0 }, { name := "hash", type := .int, accessFlags := 2, slot := 1, constantValue := 0 }, { name := "oddDivisions", type := .int, accessFlags := 2, slot := 2, constantValue := 0 }]
  methods := #[k3m0]
  instanceTypes := #[(.array .int), .int, .int]
  staticTypes := #[(.array .int), (.array .int), .int, (.object "java/util/regex/Pattern"), .int, .int]
  resolved := Array.replicate 340 none
  statics := none }

def pool4 : Array CpInfo := pool [(1, u "java/lang/Cloneable"), (0, .class_ 1), (0, u "java/lang/Object"), (0, .class_ 3)] 3

/-- java/lang/Cloneable -/
def k4 : Class := { plain "java/lang/Cloneable" (some 0) with
  accessFlags := 1537
  interfaces := #[]
  cf := some (fileOf pool4 2 #[] #[] 1537 4 #[] #[])
  fields := #[]
  methods := #[]
  instanceTypes := #[]
  staticTypes := #[]
  resolved := Array.replicate 8 none
  statics := none }

def pool5 : Array CpInfo := pool [(1, u "java/io/Serializable"), (0, .class_ 1), (0, u "java/lang/Object"), (0, .class_ 3)] 3

/-- java/io/Serializable -/
def k5 : Class := { plain "java/io/Serializable" (some 0) with
  accessFlags := 1537
  interfaces := #[]
  cf := some (fileOf pool5 2 #[] #[] 1537 4 #[] #[])
  fields := #[]
  methods := #[]
  instanceTypes := #[]
  staticTypes := #[]
  resolved := Array.replicate 8 none
  statics := none }

/-- the primitive byte -/
def k6 : Class := { plain "byte" none with kind := .primitive 'B', accessFlags := 0x411 }
/-- [B -/
def k7 : Class := { plain "[B" (some 0) with kind := .array 6 .byte, interfaces := #[4, 5], accessFlags := 1041 }

/-- the primitive int -/
def k8 : Class := { plain "int" none with kind := .primitive 'I', accessFlags := 0x411 }
/-- [I -/
def k9 : Class := { plain "[I" (some 0) with kind := .array 8 .int, interfaces := #[4, 5], accessFlags := 1041 }

def heap : Heap := #[]
def classes : Array Class := #[k0, k1, k2, k3, k4, k5, k6, k7, k8, k9]
def interned : List (Array UInt16 × Addr) := []
def slotsUsed : Nat := 0
def theMethod : MethodId := ⟨1, 1⟩
def args0 : Array Value := #[.int 5, .int 7, .int 6, .int 1, .int 2]
def aboutOver (below : List Frame) : State where
  vm := { classes := classes, interned := interned.toArray }
  heap := heap
  slotsUsed := slotsUsed
  threads := #[{ frames := .invoking theMethod args0 :: below }]
def below0 : List Frame := [.native { method := ⟨0, 0⟩, args := #[] }]
def about1 : State := aboutOver below0
def p0 : Program := .bare "" "" ""
def e0 : Env := launch0.env 0 0 0
theorem w_frames : about1.frames = Frame.invoking theMethod args0 :: below0 := rfl
set_option maxRecDepth 65536 in
theorem w_args : argsFit about1.vm theMethod args0 = true := by decide +kernel
set_option maxRecDepth 65536 in
theorem w_heap : heapFits about1 = true := by decide +kernel
set_option maxRecDepth 65536 in
theorem w_runnable : about1.curStatus? = some .runnable := by decide +kernel
set_option maxRecDepth 65536 in
theorem w_alone : about1.alone = true := by decide +kernel
set_option maxRecDepth 65536 in
theorem w_named : about1.methodNamed? x = some theMethod := by decide +kernel
set_option maxRecDepth 65536 in
theorem w_hears : about1.hears theMethod below0 = true := by decide +kernel
set_option maxRecDepth 65536 in
theorem w_ripe : about1.ripe theMethod args0 below0 = true := by decide +kernel
theorem w_running : about1.status = .running := rfl
set_option maxRecDepth 65536 in
theorem w_room : about1.hasRoom e0.platform room_1 = true :=
  launch0.hasRoom_least _ room_1 (by decide +kernel) (by decide +kernel) (by decide +kernel) (by decide +kernel) (by decide +kernel) (by decide +kernel)
theorem allAtoms_all (ts : List Jvm.Cond) (a : Array Jvm.Value) (st : Jvm.State) : (allAtoms ts).before a st = ts.all (fun c => c.before a st) := by
  induction ts with
  | nil => rfl
  | cons c t ih =>
    show (Jvm.Cond.and c (allAtoms t)).before a st = _
    rw [Jvm.Cond.before_and, ih, List.all_cons]
def words1 : List Jvm.Cond := Jvm.Cond.code x code maxLocals ret :: tables_1
/-- a 'code' word, met by the world's own term for the bytes: nothing is compared byte by byte -/
theorem code_word {y : MethodName} {bytes : ByteArray} {mx : Nat} {rt : Option FieldType} {a : Array Value} {s : State} {m : MethodId} {meth : Method} {c : Code} (h1 : s.methodNamed? y = some m) (h2 : s.vm.method? m = some meth) (h3 : meth.code = some c) (h4 : c.code = bytes)
    (h5 : (c.maxLocals == mx && c.exceptionTable.isEmpty && decide (c.maxStack ≤ mostOperands) && decide (meth.sig.returnType = rt) && !meth.locks && decide (parseMethodDescriptor y.desc = some meth.sig)) = true) : (Jvm.Cond.code y bytes mx rt).before a s = true := by
  simp only [Bool.and_eq_true, beq_iff_eq, Bool.not_eq_true', decide_eq_true_eq] at h5
  obtain ⟨⟨⟨⟨⟨g1, g2⟩, g3⟩, g4⟩, g5⟩, g6⟩ := h5
  simp [Cond.before, Cond.holds, Cond.value, h1, h2, h3, h4, g1, g2, g3, g4, g5, g6]
def isCode : Jvm.Cond → Bool
  | .code _ _ _ _ => true
  | _ => false
theorem all_split {L : List Jvm.Cond} {P : Jvm.Cond → Bool} (h1 : L.all (fun c => isCode c || P c) = true) (h2 : ∀ c ∈ L.filter isCode, P c = true) : L.all P = true := by
  refine List.all_eq_true.mpr fun c hc => ?_
  have h := List.all_eq_true.mp h1 c hc
  rcases Bool.eq_false_or_eq_true (isCode c) with hi | hi
  · exact h2 c (List.mem_filter.mpr ⟨hc, hi⟩)
  · simpa [hi] using h
set_option maxRecDepth 65536 in
theorem w_c0 : (Jvm.Cond.code x code maxLocals ret).before args0 about1 = true := code_word (m := ⟨1, 1⟩) (meth := k1m1) (c := k1c1) (by decide +kernel) rfl rfl rfl (by decide +kernel)
set_option maxRecDepth 65536 in
theorem w_c1 : (Jvm.Cond.code ({ cls := "com/example/limpet/limpet/model/NodeLabel", name := "hashOf", desc := "([III)I" } : Jvm.MethodName) prog_42_method_23_code (5 : Nat) (Option.some Jvm.ClassFile.FieldType.int)).before args0 about1 = true := code_word (m := ⟨3, 0⟩) (meth := k3m0) (c := k3c0) (by decide +kernel) rfl rfl rfl (by decide +kernel)
def codes1 : List Jvm.Cond := [Jvm.Cond.code x code maxLocals ret, Jvm.Cond.code ({ cls := "com/example/limpet/limpet/model/NodeLabel", name := "hashOf", desc := "([III)I" } : Jvm.MethodName) prog_42_method_23_code (5 : Nat) (Option.some Jvm.ClassFile.FieldType.int)]
set_option maxRecDepth 65536 in
theorem codes_eq : words1.filter isCode = codes1 := rfl
theorem w_codes : ∀ c ∈ words1.filter isCode, c.before args0 about1 = true := by
  rw [codes_eq]
  intro c hc
  simp only [codes1, List.mem_cons, List.not_mem_nil, or_false] at hc
  rcases hc with rfl | rfl
  · exact w_c0
  · exact w_c1
set_option maxRecDepth 65536 in
theorem w_t1 : words1.all (fun c => isCode c || c.before args0 about1) = true := by decide +kernel
theorem w_tables : (allAtoms (Jvm.Cond.code x code maxLocals ret :: tables_1)).before args0 about1 = true := by
  rw [allAtoms_all]
  show words1.all (fun c => c.before args0 about1) = true
  refine all_split ?_ w_codes
  rw [w_t1]
set_option maxRecDepth 65536 in
theorem w_case : (Jvm.Cond.and given_1 narrow_1).before args0 about1 = true := by decide +kernel
theorem w_applies : (headSpec (Jvm.Cond.code x code maxLocals ret :: tables_1) room_1).applies x e0.platform about1 = true :=
  (Spec.applies_iff w_frames).mpr ⟨w_running, w_runnable, w_alone, w_named, w_hears, w_ripe, w_room, w_tables⟩
theorem atStart : AtStart classFile x code maxLocals ret World_1 tables_1 room_1 Calls_1 rest_1 Pre_1 launch0 p0 e0 about1 theMethod args0 below0 :=
  ⟨lists_1, trivial, launch0.admits_env _ _ _, launch0.least_env, fairChoices_fair.cas, fairChoices_fair.clock, w_frames, w_args, w_heap, w_applies, trivial, trivial, w_case⟩
end start1
theorem witness_1 : WitnessClaimed_1 := ⟨start1.p0, start1.e0, start1.about1, start1.theMethod, start1.args0, start1.below0, start1.atStart⟩
end Jvm.Pilot.@@N@@

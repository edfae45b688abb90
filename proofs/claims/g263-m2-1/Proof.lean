import JvmDerived
import JvmDerived.Pilot.@@N@@Statement
import JvmDerived.Pilot.@@N@@Code
set_option linter.unusedVariables false
set_option linter.unusedSimpArgs false
@@BLOCK:NumsL.lean.txt@@
namespace Jvm.Pilot.@@N@@
open Jvm Jvm.ClassFile Sem Op Lib Jvm.Free Jvm.Stand Jvm.LawKit Jvm.RoadKit Bundle Jvm.Pilot.@@N@@.Jvm.D
def Goes (tb : Tables) (e : Env) (below : List Frame) (G : State → Outcome → Prop) (A : State) : Prop := ∃ s₂ o, Steps tb e below A s₂ ∧ s₂.status = .running ∧ Ended s₂ below o ∧ G s₂ o
theorem go {tb : Tables} {e : Env} {below : List Frame} {G : State → Outcome → Prop} {A B : State} (h : ∀ t, Steps tb e below B t → Steps tb e below A t) (k : Goes tb e below G B) : Goes tb e below G A := by
  obtain ⟨s₂, o, h1, h2⟩ := k; exact ⟨s₂, o, h _ h1, h2⟩
theorem goEnd {tb : Tables} {e : Env} {below : List Frame} {G : State → Outcome → Prop} {A B : State} (h : ∀ t, Steps tb e below B t → Steps tb e below A t) (k : Goes tb e below G B) : ∃ s₂ o, Steps tb e below A s₂ ∧ s₂.status = .running ∧ Ended s₂ below o ∧ G s₂ o := go h k
theorem own_sta_keep {Z : State} {h h' : Heap} {C n d K : String} {v : Value} {a : Addr} (S : Sta Z h C n d v) (E : Exa Z h a K) (Kp : Keep h h' [a]) : Sta Z h' C n d v := by
  obtain ⟨cf, i, k, f, st, cell, h1, h2, h3, h4, h5, h6, h7⟩ := S
  obtain ⟨c', k', e1, -, -, e4, -⟩ := E
  refine ⟨cf, i, k, f, st, cell, h1, h2, h3, h4, Kp.2.1 st cell h5 (fun q => ?_), h6, h7⟩
  have q' : st = a := by simpa using q
  subst q'
  cases h5.symm.trans e1
  rw [e4] at h6; cases h6
abbrev iv (x : Int32) : Slot := .val (.int x)
abbrev jv (x : Int64) : Slot := .val (.long x)
abbrev rv (x : Addr) : Slot := .val (.ref x)
abbrev Go (p : Program) (e : Env) (below : List Frame) (G : State → Outcome → Prop) (m : MethodId) (T : State) (pc : Nat) (L : Array Slot) (S : List Value) : Prop := Goes p.tables e below G (T.setTop (mkF m pc L S))
theorem d5_0 : decode jdk_22_method_1_code 0 = .ok (.aload_n 0, 1) := by decide +kernel
theorem d5_1 : decode jdk_22_method_1_code 1 = .ok (.invokespecial 1, 3) := by decide +kernel
theorem d5_4 : decode jdk_22_method_1_code 4 = .ok (.return_, 1) := by decide +kernel
theorem pn_5 : plainName "java/util/AbstractCollection" = true := by first | (simp [plainName, overriddenIn]; done) | decide +kernel
theorem ef_5 (m : MethodId) (o0 : Addr) : entryFrame m #[(.ref o0)] 1 = mkF m 0 #[.val (.ref o0)] [] := by first | (simp [entryFrame, mkF, argsToLocals, Value.category]; done) | rfl
def Q5 (Z : State) (o0 : Addr) (h0 : Heap) (n0 : Nat) (v : Option Value) (h : Heap) (L : List Loc) : Prop := v = none ∧ Fr n0 L ∧ h = h0
set_option maxRecDepth 65536 in
set_option maxHeartbeats 40000000 in
theorem rm5 (l : Launch) (Z : State) (a0 : Array Value) (hw : ∀ d ∈ tables_1, d.before a0 Z = true) (ws : List Jvm.Cond) (o0 : Addr) (h0 : Heap) (n0 : Nat) (Z0 : n0 ≤ h0.size)  :
    MetFree l (⟨"java/util/AbstractCollection", "<init>", "()V"⟩ : MethodName) (head1 (Jvm.Cond.code (⟨"java/util/AbstractCollection", "<init>", "()V"⟩ : MethodName) jdk_22_method_1_code 1 none :: ws) ({ frames := 1, cells := 0, slots := 0, locals := 12 } : Room)) (fun a U => a = #[(.ref o0)] ∧ Z.Warmed39 U.vm ∧ U.heap = h0) (fun _ _ _ _ _ => True) (fun _ U o U' => ∃ v L, o = .returned v ∧ Q5 Z o0 h0 n0 v U'.heap L ∧ FrameEnd U o U' L ({ frames := 1, cells := 0, slots := 0, locals := 12 } : Room).cells ({ frames := 1, cells := 0, slots := 0, locals := 12 } : Room).slots) := by
  refine MetFree.of_bodySF (plainFor_of_name pn_5) hisR ?_
  intro p e s m args below meth c s₁ Bd hml0 hP hK
  obtain ⟨rfl, hZ, hh⟩ := hP
  have hx := Bd.exec
  have hby := Bd.bytes
  have hml : c.maxLocals = 1 := hml0
  have hown : s.vm.findClass "java/util/AbstractCollection" = some m.cls := findClass_of_methodNamed Bd.named
  have hnm := (name_of_methodNamed Bd.named Bd.method).1
  have X0 : Stand p l e ({ frames := 1, cells := 0, slots := 0, locals := 12 } : Room) s m #[(.ref o0)] below meth c s₁ [] 0 0 := Stand.of_body Bd
  have e0 : s₁.heap = h0 := by rw [← hh, Bd.state]; rfl
  have N0 := Fr.nil n0
  have K0 := Keep.refl h0 []
  suffices hgo : Goes p.tables e below (fun s₂ o => ∃ v L, o = .returned v ∧ Q5 Z o0 h0 n0 v s₂.heap L ∧ FrameEnd s o s₂ L ({ frames := 1, cells := 0, slots := 0, locals := 12 } : Room).cells ({ frames := 1, cells := 0, slots := 0, locals := 12 } : Room).slots) (s₁.setTop (mkF m 0 #[.val (.ref o0)] [])) from goEnd (fun t k => castTop (ef_5 m o0) k) hgo
  refine go (fun t kt => XS.aloadN X0.here hx rfl (hb hby d5_0) rfl rfl kt) ?_
  show Goes p.tables e below _ (s₁.setTop (mkF m 1 #[.val (.ref o0)] [(.ref o0)]))
  obtain ⟨T1, X1, e1, st1⟩ := initO X0 hx hZ hown (hw _ (List.mem_of_getElem? (i := 28) rfl)) (hw _ (List.mem_of_getElem? (i := 8) rfl)) (hw _ (List.mem_of_getElem? (i := 9) rfl)) e0 (g := (mkF m 1 #[.val (.ref o0)] [(.ref o0)])) rfl (by rw [hml]; rfl) rfl (hb hby d5_1) (by decide) (W := 0) (by show 2 * 0 + _ ≤ _; exact Nat.le_of_eq rfl) (by decide)
  refine go st1 ?_
  show Goes p.tables e below _ (T1.setTop (mkF m 4 #[.val (.ref o0)] []))
  obtain ⟨fs, hr, hrun, hended, hW, hsame⟩ := X1.leave (v := none) (fun _ => rfl)
  refine ⟨_, _, X1.returnOut hx Bd.returns (hb hby d5_4) hr, hrun, hended, _, _, rfl, ?_, ⟨_, rfl⟩, hW, hsame.mono (by decide) (by decide)⟩
  show Q5 Z o0 h0 n0 _ T1.heap _
  rw [e1]
  exact ⟨rfl, N0, rfl⟩
theorem d4_0 : decode jdk_39_method_1_code 0 = .ok (.aload_n 0, 1) := by decide +kernel
theorem pd_0 : parseMethodDescriptor "()V" = some ⟨[], none⟩ := by decide +kernel
theorem d4_1 : decode jdk_39_method_1_code 1 = .ok (.invokespecial 1, 3) := by decide +kernel
theorem d4_4 : decode jdk_39_method_1_code 4 = .ok (.aload_n 0, 1) := by decide +kernel
theorem d4_5 : decode jdk_39_method_1_code 5 = .ok (.iconst 0, 1) := by decide +kernel
theorem d4_6 : decode jdk_39_method_1_code 6 = .ok (.putfield 7, 3) := by decide +kernel
theorem d4_9 : decode jdk_39_method_1_code 9 = .ok (.return_, 1) := by decide +kernel
theorem pn_4 : plainName "java/util/AbstractList" = true := by first | (simp [plainName, overriddenIn]; done) | decide +kernel
theorem ef_4 (m : MethodId) (o0 : Addr) : entryFrame m #[(.ref o0)] 1 = mkF m 0 #[.val (.ref o0)] [] := by first | (simp [entryFrame, mkF, argsToLocals, Value.category]; done) | rfl
def Q4 (Z : State) (o0 : Addr) (u1 : Value) (u2 : Value) (h0 : Heap) (n0 : Nat) (v : Option Value) (h : Heap) (L : List Loc) : Prop := v = none ∧ Fr n0 L ∧ Keep h0 h [o0] ∧ Exa Z h o0 "java/util/ArrayList" ∧ Fld Z h o0 "java/util/AbstractList" "modCount" "I" (.int (0 : Int32)) ∧ Fld Z h o0 "java/util/ArrayList" "elementData" "[Ljava/lang/Object;" u2
set_option maxRecDepth 65536 in
set_option maxHeartbeats 40000000 in
theorem rm4 (l : Launch) (Z : State) (a0 : Array Value) (hw : ∀ d ∈ tables_1, d.before a0 Z = true) (ws : List Jvm.Cond) (o0 : Addr) (u1 : Value) (u2 : Value) (h0 : Heap) (n0 : Nat) (Z0 : n0 ≤ h0.size) (E_o0 : Exa Z h0 o0 "java/util/ArrayList") (F_modCount_o0 : Fld Z h0 o0 "java/util/AbstractList" "modCount" "I" u1) (F_elementData_o0 : Fld Z h0 o0 "java/util/ArrayList" "elementData" "[Ljava/lang/Object;" u2) (g_o0 : n0 ≤ o0) :
    MetFree l (⟨"java/util/AbstractList", "<init>", "()V"⟩ : MethodName) (head1 (Jvm.Cond.code (⟨"java/util/AbstractList", "<init>", "()V"⟩ : MethodName) jdk_39_method_1_code 1 none :: ws) ({ frames := 2, cells := 0, slots := 0, locals := 24 } : Room)) (fun a U => a = #[(.ref o0)] ∧ Z.Warmed39 U.vm ∧ U.heap = h0) (fun _ _ _ _ _ => True) (fun _ U o U' => ∃ v L, o = .returned v ∧ Q4 Z o0 u1 u2 h0 n0 v U'.heap L ∧ FrameEnd U o U' L ({ frames := 2, cells := 0, slots := 0, locals := 24 } : Room).cells ({ frames := 2, cells := 0, slots := 0, locals := 24 } : Room).slots) := by
  refine MetFree.of_bodySF (plainFor_of_name pn_4) hisR ?_
  intro p e s m args below meth c s₁ Bd hml0 hP hK
  obtain ⟨rfl, hZ, hh⟩ := hP
  have hx := Bd.exec
  have hby := Bd.bytes
  have hml : c.maxLocals = 1 := hml0
  have hown : s.vm.findClass "java/util/AbstractList" = some m.cls := findClass_of_methodNamed Bd.named
  have hnm := (name_of_methodNamed Bd.named Bd.method).1
  have X0 : Stand p l e ({ frames := 2, cells := 0, slots := 0, locals := 24 } : Room) s m #[(.ref o0)] below meth c s₁ [] 0 0 := Stand.of_body Bd
  have e0 : s₁.heap = h0 := by rw [← hh, Bd.state]; rfl
  have N0 := Fr.nil n0
  have K0 := Keep.refl h0 [o0]
  suffices hgo : Goes p.tables e below (fun s₂ o => ∃ v L, o = .returned v ∧ Q4 Z o0 u1 u2 h0 n0 v s₂.heap L ∧ FrameEnd s o s₂ L ({ frames := 2, cells := 0, slots := 0, locals := 24 } : Room).cells ({ frames := 2, cells := 0, slots := 0, locals := 24 } : Room).slots) (s₁.setTop (mkF m 0 #[.val (.ref o0)] [])) from goEnd (fun t k => castTop (ef_4 m o0) k) hgo
  refine go (fun t kt => XS.aloadN X0.here hx rfl (hb hby d4_0) rfl rfl kt) ?_
  show Goes p.tables e below _ (s₁.setTop (mkF m 1 #[.val (.ref o0)] [(.ref o0)]))
  obtain ⟨_, _, ⟨T1, L1, k1, n1⟩, -, X1, ⟨Lc1, hQ1, l1, y1, z1⟩, st1⟩ := X0.specialBack hx (y := (⟨"java/util/AbstractCollection", "<init>", "()V"⟩ : MethodName)) rfl hown (mvT hZ (hw _ (List.mem_of_getElem? (i := 22) rfl))) (mvT hZ (hw _ (List.mem_of_getElem? (i := 23) rfl))) (mvT hZ (hw _ (List.mem_of_getElem? (i := 27) rfl))) (by decide) (backOf (W := 0) (rm5 l Z a0 hw [] o0 h0 n0 Z0 ) hZ (hw _ (List.mem_of_getElem? (i := 27) rfl)) (hw _ (List.mem_of_getElem? (i := 26) rfl)) (by decide) (by decide)) (g := (mkF m 1 #[.val (.ref o0)] [(.ref o0)])) rfl (by rw [hml]; rfl) (Steps.refl _) (a := o0) (argsL := []) (rest := []) (lenOf pd_0 rfl) rfl (by show 2 * 0 + _ ≤ _; exact Nat.le_of_eq rfl) (hb hby d4_1) (fun _ _ => ⟨rfl, e0, (by decide : 0 + 0 ≤ _), (by decide : 0 + 0 ≤ _)⟩)
  dsimp only [Pt.U, Pt.locs, Pt.cells, Pt.slots] at X1 l1 y1 z1 st1 hQ1
  subst l1 y1 z1
  obtain ⟨rfl, Nq1, e1⟩ := hQ1
  have N1 := Fr.app N0 Nq1
  refine go (fun t kt => st1.trans kt) ?_
  show Goes p.tables e below _ (T1.setTop (mkF m 4 #[.val (.ref o0)] []))
  refine go (fun t kt => XS.aloadN X1.here hx rfl (hb hby d4_4) rfl rfl kt) ?_
  show Goes p.tables e below _ (T1.setTop (mkF m 5 #[.val (.ref o0)] [(.ref o0)]))
  refine go (fun t kt => XS.iconst X1.here hx rfl (hb hby d4_5) kt) ?_
  show Goes p.tables e below _ (T1.setTop (mkF m 6 #[.val (.ref o0)] [(.int (0 : Int32)), (.ref o0)]))
  obtain ⟨T2, h2, X2, e2, W2, st2⟩ := putF X1 hx hZ hown (host := "") (Or.inl (hw _ (List.mem_of_getElem? (i := 29) rfl))) Via.refl e1 F_modCount_o0 E_o0 (Or.inl (hw _ (List.mem_of_getElem? (i := 30) rfl))) (hw _ (List.mem_of_getElem? (i := 11) rfl)) (ty := .int) (by decide) rfl rfl (g := (mkF m 6 #[.val (.ref o0)] [(.int (0 : Int32)), (.ref o0)])) rfl rfl (hb hby d4_6)
  replace F_modCount_o0 := F_modCount_o0.same W2
  replace E_o0 := E_o0.wr W2
  replace F_elementData_o0 := F_elementData_o0.other W2 (Or.inr (slot_ne (Or.inl (hw _ (List.mem_of_getElem? (i := 33) rfl))) (Or.inl (hw _ (List.mem_of_getElem? (i := 30) rfl))) (by decide) (t := (.array (.object "java/lang/Object"))) (t' := .int) (by decide) (by decide)))
  have Zz2 := Nat.le_trans Z0 (Keep.of_wr W2).1
  have Kk2 := K0.wr W2 (Or.inl (List.mem_of_getElem? (i := 0) rfl))
  have N2 := Fr.snoc X2 N1 g_o0
  refine go st2 ?_
  show Goes p.tables e below _ (T2.setTop (mkF m 9 #[.val (.ref o0)] []))
  obtain ⟨fs, hr, hrun, hended, hW, hsame⟩ := X2.leave (v := none) (fun _ => rfl)
  refine ⟨_, _, X2.returnOut hx Bd.returns (hb hby d4_9) hr, hrun, hended, _, _, rfl, ?_, ⟨_, rfl⟩, hW, hsame.mono (by decide) (by decide)⟩
  show Q4 Z o0 u1 u2 h0 n0 _ T2.heap _
  rw [e2]
  exact ⟨rfl, N2, Kk2, E_o0, F_modCount_o0, F_elementData_o0⟩
theorem d3_0 : decode jdk_38_method_2_code 0 = .ok (.aload_n 0, 1) := by decide +kernel
theorem d3_1 : decode jdk_38_method_2_code 1 = .ok (.invokespecial 1, 3) := by decide +kernel
theorem d3_4 : decode jdk_38_method_2_code 4 = .ok (.aload_n 0, 1) := by decide +kernel
theorem d3_5 : decode jdk_38_method_2_code 5 = .ok (.getstatic 39, 3) := by decide +kernel
theorem d3_8 : decode jdk_38_method_2_code 8 = .ok (.putfield 9, 3) := by decide +kernel
theorem d3_11 : decode jdk_38_method_2_code 11 = .ok (.return_, 1) := by decide +kernel
theorem pn_3 : plainName "java/util/ArrayList" = true := by first | (simp [plainName, overriddenIn]; done) | decide +kernel
theorem ef_3 (m : MethodId) (o0 : Addr) : entryFrame m #[(.ref o0)] 1 = mkF m 0 #[.val (.ref o0)] [] := by first | (simp [entryFrame, mkF, argsToLocals, Value.category]; done) | rfl
def Q3 (Z : State) (o0 : Addr) (u1 : Value) (u2 : Value) (sd : Addr) (h0 : Heap) (n0 : Nat) (v : Option Value) (h : Heap) (L : List Loc) : Prop := v = none ∧ Fr n0 L ∧ Keep h0 h [o0] ∧ Exa Z h o0 "java/util/ArrayList" ∧ Fld Z h o0 "java/util/AbstractList" "modCount" "I" (.int (0 : Int32)) ∧ Fld Z h o0 "java/util/ArrayList" "elementData" "[Ljava/lang/Object;" (.ref sd)
set_option maxRecDepth 65536 in
set_option maxHeartbeats 40000000 in
theorem rm3 (l : Launch) (Z : State) (a0 : Array Value) (hw : ∀ d ∈ tables_1, d.before a0 Z = true) (ws : List Jvm.Cond) (o0 : Addr) (u1 : Value) (u2 : Value) (sd : Addr) (h0 : Heap) (n0 : Nat) (Z0 : n0 ≤ h0.size) (E_o0 : Exa Z h0 o0 "java/util/ArrayList") (F_modCount_o0 : Fld Z h0 o0 "java/util/AbstractList" "modCount" "I" u1) (F_elementData_o0 : Fld Z h0 o0 "java/util/ArrayList" "elementData" "[Ljava/lang/Object;" u2) (S_DEFAULTCAPACITY_EMPTY_ELEMENTDATA : Sta Z h0 "java/util/ArrayList" "DEFAULTCAPACITY_EMPTY_ELEMENTDATA" "[Ljava/lang/Object;" (.ref sd)) (g_o0 : n0 ≤ o0) :
    MetFree l (⟨"java/util/ArrayList", "<init>", "()V"⟩ : MethodName) (head1 (Jvm.Cond.code (⟨"java/util/ArrayList", "<init>", "()V"⟩ : MethodName) jdk_38_method_2_code 1 none :: ws) ({ frames := 3, cells := 0, slots := 0, locals := 36 } : Room)) (fun a U => a = #[(.ref o0)] ∧ Z.Warmed39 U.vm ∧ U.heap = h0) (fun _ _ _ _ _ => True) (fun _ U o U' => ∃ v L, o = .returned v ∧ Q3 Z o0 u1 u2 sd h0 n0 v U'.heap L ∧ FrameEnd U o U' L ({ frames := 3, cells := 0, slots := 0, locals := 36 } : Room).cells ({ frames := 3, cells := 0, slots := 0, locals := 36 } : Room).slots) := by
  refine MetFree.of_bodySF (plainFor_of_name pn_3) hisR ?_
  intro p e s m args below meth c s₁ Bd hml0 hP hK
  obtain ⟨rfl, hZ, hh⟩ := hP
  have hx := Bd.exec
  have hby := Bd.bytes
  have hml : c.maxLocals = 1 := hml0
  have hown : s.vm.findClass "java/util/ArrayList" = some m.cls := findClass_of_methodNamed Bd.named
  have hnm := (name_of_methodNamed Bd.named Bd.method).1
  have X0 : Stand p l e ({ frames := 3, cells := 0, slots := 0, locals := 36 } : Room) s m #[(.ref o0)] below meth c s₁ [] 0 0 := Stand.of_body Bd
  have e0 : s₁.heap = h0 := by rw [← hh, Bd.state]; rfl
  have N0 := Fr.nil n0
  have K0 := Keep.refl h0 [o0]
  suffices hgo : Goes p.tables e below (fun s₂ o => ∃ v L, o = .returned v ∧ Q3 Z o0 u1 u2 sd h0 n0 v s₂.heap L ∧ FrameEnd s o s₂ L ({ frames := 3, cells := 0, slots := 0, locals := 36 } : Room).cells ({ frames := 3, cells := 0, slots := 0, locals := 36 } : Room).slots) (s₁.setTop (mkF m 0 #[.val (.ref o0)] [])) from goEnd (fun t k => castTop (ef_3 m o0) k) hgo
  refine go (fun t kt => XS.aloadN X0.here hx rfl (hb hby d3_0) rfl rfl kt) ?_
  show Goes p.tables e below _ (s₁.setTop (mkF m 1 #[.val (.ref o0)] [(.ref o0)]))
  obtain ⟨_, _, ⟨T1, L1, k1, n1⟩, -, X1, ⟨Lc1, hQ1, l1, y1, z1⟩, st1⟩ := X0.specialBack hx (y := (⟨"java/util/AbstractList", "<init>", "()V"⟩ : MethodName)) rfl hown (mvT hZ (hw _ (List.mem_of_getElem? (i := 16) rfl))) (mvT hZ (hw _ (List.mem_of_getElem? (i := 17) rfl))) (mvT hZ (hw _ (List.mem_of_getElem? (i := 21) rfl))) (by decide) (backOf (W := 0) (rm4 l Z a0 hw [] o0 u1 u2 h0 n0 Z0 E_o0 F_modCount_o0 F_elementData_o0 g_o0) hZ (hw _ (List.mem_of_getElem? (i := 21) rfl)) (hw _ (List.mem_of_getElem? (i := 20) rfl)) (by decide) (by decide)) (g := (mkF m 1 #[.val (.ref o0)] [(.ref o0)])) rfl (by rw [hml]; rfl) (Steps.refl _) (a := o0) (argsL := []) (rest := []) (lenOf pd_0 rfl) rfl (by show 2 * 0 + _ ≤ _; exact Nat.le_of_eq rfl) (hb hby d3_1) (fun _ _ => ⟨rfl, e0, (by decide : 0 + 0 ≤ _), (by decide : 0 + 0 ≤ _)⟩)
  dsimp only [Pt.U, Pt.locs, Pt.cells, Pt.slots] at X1 l1 y1 z1 st1 hQ1
  subst l1 y1 z1
  obtain ⟨rfl, Nq1, Kq1, Eq1_o0, Fq1_modCount_o0, Fq1_elementData_o0⟩ := hQ1
  replace S_DEFAULTCAPACITY_EMPTY_ELEMENTDATA := own_sta_keep S_DEFAULTCAPACITY_EMPTY_ELEMENTDATA E_o0 Kq1
  replace E_o0 := E_o0.keep Kq1
  clear F_modCount_o0
  clear F_elementData_o0
  have Zz1 := Nat.le_trans Z0 Kq1.1
  have Kk1 := K0.trans Kq1 (allS (Or.inl (List.mem_of_getElem? (i := 0) rfl)) all0)
  have E_o0 := Eq1_o0
  have F_modCount_o0 := Fq1_modCount_o0
  have F_elementData_o0 := Fq1_elementData_o0
  have N1 := Fr.app N0 Nq1
  refine go (fun t kt => st1.trans kt) ?_
  show Goes p.tables e below _ (T1.setTop (mkF m 4 #[.val (.ref o0)] []))
  refine go (fun t kt => XS.aloadN X1.here hx rfl (hb hby d3_4) rfl rfl kt) ?_
  show Goes p.tables e below _ (T1.setTop (mkF m 5 #[.val (.ref o0)] [(.ref o0)]))
  obtain ⟨T2, X2, e2, st2⟩ := getS2 X1 hx hZ hown (host := "") (Or.inl (hw _ (List.mem_of_getElem? (i := 31) rfl))) Via.refl rfl S_DEFAULTCAPACITY_EMPTY_ELEMENTDATA (g := (mkF m 5 #[.val (.ref o0)] [(.ref o0)])) rfl (hb hby d3_5)
  refine go st2 ?_
  show Goes p.tables e below _ (T2.setTop (mkF m 8 #[.val (.ref o0)] [(.ref sd), (.ref o0)]))
  obtain ⟨T3, h3, X3, e3, W3, st3⟩ := putF X2 hx hZ hown (host := "") (Or.inl (hw _ (List.mem_of_getElem? (i := 32) rfl))) Via.refl e2 F_elementData_o0 E_o0 (Or.inl (hw _ (List.mem_of_getElem? (i := 33) rfl))) (hw _ (List.mem_of_getElem? (i := 11) rfl)) (ty := (.array (.object "java/lang/Object"))) (by decide) rfl rfl (g := (mkF m 8 #[.val (.ref o0)] [(.ref sd), (.ref o0)])) rfl rfl (hb hby d3_8)
  replace F_elementData_o0 := F_elementData_o0.same W3
  replace E_o0 := E_o0.wr W3
  replace S_DEFAULTCAPACITY_EMPTY_ELEMENTDATA := S_DEFAULTCAPACITY_EMPTY_ELEMENTDATA.wr W3
  replace F_modCount_o0 := F_modCount_o0.other W3 (Or.inr (slot_ne (Or.inl (hw _ (List.mem_of_getElem? (i := 30) rfl))) (Or.inl (hw _ (List.mem_of_getElem? (i := 33) rfl))) (by decide) (t := .int) (t' := (.array (.object "java/lang/Object"))) (by decide) (by decide)))
  have Zz3 := Nat.le_trans Zz1 (Keep.of_wr W3).1
  have Kk3 := Kk1.wr W3 (Or.inl (List.mem_of_getElem? (i := 0) rfl))
  have N3 := Fr.snoc X3 N1 g_o0
  refine go st3 ?_
  show Goes p.tables e below _ (T3.setTop (mkF m 11 #[.val (.ref o0)] []))
  obtain ⟨fs, hr, hrun, hended, hW, hsame⟩ := X3.leave (v := none) (fun _ => rfl)
  refine ⟨_, _, X3.returnOut hx Bd.returns (hb hby d3_11) hr, hrun, hended, _, _, rfl, ?_, ⟨_, rfl⟩, hW, hsame.mono (by decide) (by decide)⟩
  show Q3 Z o0 u1 u2 sd h0 n0 _ T3.heap _
  rw [e3]
  exact ⟨rfl, N3, Kk3, E_o0, F_modCount_o0, F_elementData_o0⟩
theorem d7_0 : decode jdk_71_method_1_code 0 = .ok (.aload_n 0, 1) := by decide +kernel
theorem d7_1 : decode jdk_71_method_1_code 1 = .ok (.invokespecial 1, 3) := by decide +kernel
theorem d7_4 : decode jdk_71_method_1_code 4 = .ok (.return_, 1) := by decide +kernel
theorem pn_7 : plainName "java/util/AbstractMap" = true := by first | (simp [plainName, overriddenIn]; done) | decide +kernel
theorem ef_7 (m : MethodId) (o0 : Addr) : entryFrame m #[(.ref o0)] 1 = mkF m 0 #[.val (.ref o0)] [] := by first | (simp [entryFrame, mkF, argsToLocals, Value.category]; done) | rfl
def Q7 (Z : State) (o0 : Addr) (h0 : Heap) (n0 : Nat) (v : Option Value) (h : Heap) (L : List Loc) : Prop := v = none ∧ Fr n0 L ∧ h = h0
set_option maxRecDepth 65536 in
set_option maxHeartbeats 40000000 in
theorem rm7 (l : Launch) (Z : State) (a0 : Array Value) (hw : ∀ d ∈ tables_1, d.before a0 Z = true) (ws : List Jvm.Cond) (o0 : Addr) (h0 : Heap) (n0 : Nat) (Z0 : n0 ≤ h0.size)  :
    MetFree l (⟨"java/util/AbstractMap", "<init>", "()V"⟩ : MethodName) (head1 (Jvm.Cond.code (⟨"java/util/AbstractMap", "<init>", "()V"⟩ : MethodName) jdk_71_method_1_code 1 none :: ws) ({ frames := 1, cells := 0, slots := 0, locals := 12 } : Room)) (fun a U => a = #[(.ref o0)] ∧ Z.Warmed39 U.vm ∧ U.heap = h0) (fun _ _ _ _ _ => True) (fun _ U o U' => ∃ v L, o = .returned v ∧ Q7 Z o0 h0 n0 v U'.heap L ∧ FrameEnd U o U' L ({ frames := 1, cells := 0, slots := 0, locals := 12 } : Room).cells ({ frames := 1, cells := 0, slots := 0, locals := 12 } : Room).slots) := by
  refine MetFree.of_bodySF (plainFor_of_name pn_7) hisR ?_
  intro p e s m args below meth c s₁ Bd hml0 hP hK
  obtain ⟨rfl, hZ, hh⟩ := hP
  have hx := Bd.exec
  have hby := Bd.bytes
  have hml : c.maxLocals = 1 := hml0
  have hown : s.vm.findClass "java/util/AbstractMap" = some m.cls := findClass_of_methodNamed Bd.named
  have hnm := (name_of_methodNamed Bd.named Bd.method).1
  have X0 : Stand p l e ({ frames := 1, cells := 0, slots := 0, locals := 12 } : Room) s m #[(.ref o0)] below meth c s₁ [] 0 0 := Stand.of_body Bd
  have e0 : s₁.heap = h0 := by rw [← hh, Bd.state]; rfl
  have N0 := Fr.nil n0
  have K0 := Keep.refl h0 []
  suffices hgo : Goes p.tables e below (fun s₂ o => ∃ v L, o = .returned v ∧ Q7 Z o0 h0 n0 v s₂.heap L ∧ FrameEnd s o s₂ L ({ frames := 1, cells := 0, slots := 0, locals := 12 } : Room).cells ({ frames := 1, cells := 0, slots := 0, locals := 12 } : Room).slots) (s₁.setTop (mkF m 0 #[.val (.ref o0)] [])) from goEnd (fun t k => castTop (ef_7 m o0) k) hgo
  refine go (fun t kt => XS.aloadN X0.here hx rfl (hb hby d7_0) rfl rfl kt) ?_
  show Goes p.tables e below _ (s₁.setTop (mkF m 1 #[.val (.ref o0)] [(.ref o0)]))
  obtain ⟨T1, X1, e1, st1⟩ := initO X0 hx hZ hown (hw _ (List.mem_of_getElem? (i := 52) rfl)) (hw _ (List.mem_of_getElem? (i := 8) rfl)) (hw _ (List.mem_of_getElem? (i := 9) rfl)) e0 (g := (mkF m 1 #[.val (.ref o0)] [(.ref o0)])) rfl (by rw [hml]; rfl) rfl (hb hby d7_1) (by decide) (W := 0) (by show 2 * 0 + _ ≤ _; exact Nat.le_of_eq rfl) (by decide)
  refine go st1 ?_
  show Goes p.tables e below _ (T1.setTop (mkF m 4 #[.val (.ref o0)] []))
  obtain ⟨fs, hr, hrun, hended, hW, hsame⟩ := X1.leave (v := none) (fun _ => rfl)
  refine ⟨_, _, X1.returnOut hx Bd.returns (hb hby d7_4) hr, hrun, hended, _, _, rfl, ?_, ⟨_, rfl⟩, hW, hsame.mono (by decide) (by decide)⟩
  show Q7 Z o0 h0 n0 _ T1.heap _
  rw [e1]
  exact ⟨rfl, N0, rfl⟩
theorem d6_0 : decode jdk_69_method_7_code 0 = .ok (.aload_n 0, 1) := by decide +kernel
theorem d6_1 : decode jdk_69_method_7_code 1 = .ok (.invokespecial 43, 3) := by decide +kernel
theorem d6_4 : decode jdk_69_method_7_code 4 = .ok (.aload_n 0, 1) := by decide +kernel
theorem d6_5 : decode jdk_69_method_7_code 5 = .ok (.ldc 92, 2) := by decide +kernel
theorem d6_7 : decode jdk_69_method_7_code 7 = .ok (.putfield 81, 3) := by decide +kernel
theorem d6_10 : decode jdk_69_method_7_code 10 = .ok (.return_, 1) := by decide +kernel
theorem pn_6 : plainName "java/util/HashMap" = true := by first | (simp [plainName, overriddenIn]; done) | decide +kernel
theorem ef_6 (m : MethodId) (o0 : Addr) : entryFrame m #[(.ref o0)] 1 = mkF m 0 #[.val (.ref o0)] [] := by first | (simp [entryFrame, mkF, argsToLocals, Value.category]; done) | rfl
def Q6 (Z : State) (o0 : Addr) (u1 : Value) (h0 : Heap) (n0 : Nat) (v : Option Value) (h : Heap) (L : List Loc) : Prop := v = none ∧ Fr n0 L ∧ Keep h0 h [o0] ∧ Exa Z h o0 "java/util/HashMap"
set_option maxRecDepth 65536 in
set_option maxHeartbeats 40000000 in
theorem rm6 (l : Launch) (Z : State) (a0 : Array Value) (hw : ∀ d ∈ tables_1, d.before a0 Z = true) (ws : List Jvm.Cond) (o0 : Addr) (u1 : Value) (h0 : Heap) (n0 : Nat) (Z0 : n0 ≤ h0.size) (E_o0 : Exa Z h0 o0 "java/util/HashMap") (F_loadFactor_o0 : Fld Z h0 o0 "java/util/HashMap" "loadFactor" "F" u1) (g_o0 : n0 ≤ o0) :
    MetFree l (⟨"java/util/HashMap", "<init>", "()V"⟩ : MethodName) (head1 (Jvm.Cond.code (⟨"java/util/HashMap", "<init>", "()V"⟩ : MethodName) jdk_69_method_7_code 1 none :: ws) ({ frames := 2, cells := 0, slots := 0, locals := 24 } : Room)) (fun a U => a = #[(.ref o0)] ∧ Z.Warmed39 U.vm ∧ U.heap = h0) (fun _ _ _ _ _ => True) (fun _ U o U' => ∃ v L, o = .returned v ∧ Q6 Z o0 u1 h0 n0 v U'.heap L ∧ FrameEnd U o U' L ({ frames := 2, cells := 0, slots := 0, locals := 24 } : Room).cells ({ frames := 2, cells := 0, slots := 0, locals := 24 } : Room).slots) := by
  refine MetFree.of_bodySF (plainFor_of_name pn_6) hisR ?_
  intro p e s m args below meth c s₁ Bd hml0 hP hK
  obtain ⟨rfl, hZ, hh⟩ := hP
  have hx := Bd.exec
  have hby := Bd.bytes
  have hml : c.maxLocals = 1 := hml0
  have hown : s.vm.findClass "java/util/HashMap" = some m.cls := findClass_of_methodNamed Bd.named
  have hnm := (name_of_methodNamed Bd.named Bd.method).1
  have X0 : Stand p l e ({ frames := 2, cells := 0, slots := 0, locals := 24 } : Room) s m #[(.ref o0)] below meth c s₁ [] 0 0 := Stand.of_body Bd
  have e0 : s₁.heap = h0 := by rw [← hh, Bd.state]; rfl
  have N0 := Fr.nil n0
  have K0 := Keep.refl h0 [o0]
  suffices hgo : Goes p.tables e below (fun s₂ o => ∃ v L, o = .returned v ∧ Q6 Z o0 u1 h0 n0 v s₂.heap L ∧ FrameEnd s o s₂ L ({ frames := 2, cells := 0, slots := 0, locals := 24 } : Room).cells ({ frames := 2, cells := 0, slots := 0, locals := 24 } : Room).slots) (s₁.setTop (mkF m 0 #[.val (.ref o0)] [])) from goEnd (fun t k => castTop (ef_6 m o0) k) hgo
  refine go (fun t kt => XS.aloadN X0.here hx rfl (hb hby d6_0) rfl rfl kt) ?_
  show Goes p.tables e below _ (s₁.setTop (mkF m 1 #[.val (.ref o0)] [(.ref o0)]))
  obtain ⟨_, _, ⟨T1, L1, k1, n1⟩, -, X1, ⟨Lc1, hQ1, l1, y1, z1⟩, st1⟩ := X0.specialBack hx (y := (⟨"java/util/AbstractMap", "<init>", "()V"⟩ : MethodName)) rfl hown (mvT hZ (hw _ (List.mem_of_getElem? (i := 46) rfl))) (mvT hZ (hw _ (List.mem_of_getElem? (i := 47) rfl))) (mvT hZ (hw _ (List.mem_of_getElem? (i := 51) rfl))) (by decide) (backOf (W := 0) (rm7 l Z a0 hw [] o0 h0 n0 Z0 ) hZ (hw _ (List.mem_of_getElem? (i := 51) rfl)) (hw _ (List.mem_of_getElem? (i := 50) rfl)) (by decide) (by decide)) (g := (mkF m 1 #[.val (.ref o0)] [(.ref o0)])) rfl (by rw [hml]; rfl) (Steps.refl _) (a := o0) (argsL := []) (rest := []) (lenOf pd_0 rfl) rfl (by show 2 * 0 + _ ≤ _; exact Nat.le_of_eq rfl) (hb hby d6_1) (fun _ _ => ⟨rfl, e0, (by decide : 0 + 0 ≤ _), (by decide : 0 + 0 ≤ _)⟩)
  dsimp only [Pt.U, Pt.locs, Pt.cells, Pt.slots] at X1 l1 y1 z1 st1 hQ1
  subst l1 y1 z1
  obtain ⟨rfl, Nq1, e1⟩ := hQ1
  have N1 := Fr.app N0 Nq1
  refine go (fun t kt => st1.trans kt) ?_
  show Goes p.tables e below _ (T1.setTop (mkF m 4 #[.val (.ref o0)] []))
  refine go (fun t kt => XS.aloadN X1.here hx rfl (hb hby d6_4) rfl rfl kt) ?_
  show Goes p.tables e below _ (T1.setTop (mkF m 5 #[.val (.ref o0)] [(.ref o0)]))
  obtain ⟨kc2, cf2, hk2, hcf2, hcp2⟩ := Cond.constantFloat_spec (args := #[]) (first := s) (o := none) (idx := []) hown (mvT (args := #[]) hZ (hw _ (List.mem_of_getElem? (i := 53) rfl)))
  refine go (X1.ldcFloat hx hk2 hcf2 hcp2 (g := (mkF m 5 #[.val (.ref o0)] [(.ref o0)])) rfl (hb hby d6_5)) ?_
  show Goes p.tables e below _ (T1.setTop (mkF m 7 #[.val (.ref o0)] [(.float (1061158912 : UInt32)), (.ref o0)]))
  obtain ⟨T3, h3, X3, e3, W3, st3⟩ := putF X1 hx hZ hown (host := "") (Or.inl (hw _ (List.mem_of_getElem? (i := 54) rfl))) Via.refl e1 F_loadFactor_o0 E_o0 (Or.inr ⟨(hw _ (List.mem_of_getElem? (i := 55) rfl)), rfl, hnm⟩) (hw _ (List.mem_of_getElem? (i := 41) rfl)) (ty := .float) (by decide) rfl rfl (g := (mkF m 7 #[.val (.ref o0)] [(.float (1061158912 : UInt32)), (.ref o0)])) rfl rfl (hb hby d6_7)
  replace F_loadFactor_o0 := F_loadFactor_o0.same W3
  replace E_o0 := E_o0.wr W3
  have Zz3 := Nat.le_trans Z0 (Keep.of_wr W3).1
  have Kk3 := K0.wr W3 (Or.inl (List.mem_of_getElem? (i := 0) rfl))
  have N3 := Fr.snoc X3 N1 g_o0
  refine go st3 ?_
  show Goes p.tables e below _ (T3.setTop (mkF m 10 #[.val (.ref o0)] []))
  obtain ⟨fs, hr, hrun, hended, hW, hsame⟩ := X3.leave (v := none) (fun _ => rfl)
  refine ⟨_, _, X3.returnOut hx Bd.returns (hb hby d6_10) hr, hrun, hended, _, _, rfl, ?_, ⟨_, rfl⟩, hW, hsame.mono (by decide) (by decide)⟩
  show Q6 Z o0 u1 h0 n0 _ T3.heap _
  rw [e3]
  exact ⟨rfl, N3, Kk3, E_o0⟩
theorem d1_0 : decode prog_88_method_1_code 0 = .ok (.aload_n 0, 1) := by decide +kernel
theorem d1_1 : decode prog_88_method_1_code 1 = .ok (.invokespecial 1, 3) := by decide +kernel
theorem d1_4 : decode prog_88_method_1_code 4 = .ok (.aload_n 0, 1) := by decide +kernel
theorem d1_5 : decode prog_88_method_1_code 5 = .ok (.new 7, 3) := by decide +kernel
theorem d1_8 : decode prog_88_method_1_code 8 = .ok (.dup, 1) := by decide +kernel
theorem d1_9 : decode prog_88_method_1_code 9 = .ok (.invokespecial 9, 3) := by decide +kernel
theorem d1_12 : decode prog_88_method_1_code 12 = .ok (.putfield 10, 3) := by decide +kernel
theorem d1_15 : decode prog_88_method_1_code 15 = .ok (.aload_n 0, 1) := by decide +kernel
theorem d1_16 : decode prog_88_method_1_code 16 = .ok (.new 7, 3) := by decide +kernel
theorem d1_19 : decode prog_88_method_1_code 19 = .ok (.dup, 1) := by decide +kernel
theorem d1_20 : decode prog_88_method_1_code 20 = .ok (.invokespecial 9, 3) := by decide +kernel
theorem d1_23 : decode prog_88_method_1_code 23 = .ok (.putfield 16, 3) := by decide +kernel
theorem d1_26 : decode prog_88_method_1_code 26 = .ok (.aload_n 0, 1) := by decide +kernel
theorem d1_27 : decode prog_88_method_1_code 27 = .ok (.new 7, 3) := by decide +kernel
theorem d1_30 : decode prog_88_method_1_code 30 = .ok (.dup, 1) := by decide +kernel
theorem d1_31 : decode prog_88_method_1_code 31 = .ok (.invokespecial 9, 3) := by decide +kernel
theorem d1_34 : decode prog_88_method_1_code 34 = .ok (.putfield 19, 3) := by decide +kernel
theorem d1_37 : decode prog_88_method_1_code 37 = .ok (.aload_n 0, 1) := by decide +kernel
theorem d1_38 : decode prog_88_method_1_code 38 = .ok (.new 22, 3) := by decide +kernel
theorem d1_41 : decode prog_88_method_1_code 41 = .ok (.dup, 1) := by decide +kernel
theorem d1_42 : decode prog_88_method_1_code 42 = .ok (.invokespecial 24, 3) := by decide +kernel
theorem d1_45 : decode prog_88_method_1_code 45 = .ok (.putfield 25, 3) := by decide +kernel
theorem d1_48 : decode prog_88_method_1_code 48 = .ok (.aload_n 0, 1) := by decide +kernel
theorem d1_49 : decode prog_88_method_1_code 49 = .ok (.iconst 0, 1) := by decide +kernel
theorem d1_50 : decode prog_88_method_1_code 50 = .ok (.newarray .int, 2) := by decide +kernel
theorem d1_52 : decode prog_88_method_1_code 52 = .ok (.putfield 29, 3) := by decide +kernel
theorem d1_55 : decode prog_88_method_1_code 55 = .ok (.aload_n 0, 1) := by decide +kernel
theorem d1_56 : decode prog_88_method_1_code 56 = .ok (.iconst 0, 1) := by decide +kernel
theorem d1_57 : decode prog_88_method_1_code 57 = .ok (.newarray .int, 2) := by decide +kernel
theorem d1_59 : decode prog_88_method_1_code 59 = .ok (.putfield 33, 3) := by decide +kernel
theorem d1_62 : decode prog_88_method_1_code 62 = .ok (.return_, 1) := by decide +kernel
theorem pn_1 : plainName "com/example/anytime_arena/anytimearena/io/VariableTable" = true := by first | (simp [plainName, overriddenIn]; done) | decide +kernel
theorem ef_1 (m : MethodId) (o0 : Addr) : entryFrame m #[(.ref o0)] 1 = mkF m 0 #[.val (.ref o0)] [] := by first | (simp [entryFrame, mkF, argsToLocals, Value.category]; done) | rfl
def Q1 (Z : State) (o0 : Addr) (u0 : Value) (u1 : Value) (u2 : Value) (u3 : Value) (u4 : Value) (u5 : Value) (sd : Addr) (h0 : Heap) (n0 : Nat) (v : Option Value) (h : Heap) (L : List Loc) : Prop := v = none ∧ Fr n0 L ∧ Keep h0 h [o0] ∧ Exa Z h o0 "com/example/anytime_arena/anytimearena/io/VariableTable" ∧ (∃ u, Fld Z h o0 "com/example/anytime_arena/anytimearena/io/VariableTable" "low" "[I" u) ∧ (∃ u, Fld Z h o0 "com/example/anytime_arena/anytimearena/io/VariableTable" "high" "[I" u)
set_option maxRecDepth 65536 in
set_option maxHeartbeats 40000000 in
theorem rm1 (l : Launch) (Z : State) (a0 : Array Value) (hw : ∀ d ∈ tables_1, d.before a0 Z = true) (ws : List Jvm.Cond) (o0 : Addr) (u0 : Value) (u1 : Value) (u2 : Value) (u3 : Value) (u4 : Value) (u5 : Value) (sd : Addr) (h0 : Heap) (n0 : Nat) (Z0 : n0 ≤ h0.size) (E_o0 : Exa Z h0 o0 "com/example/anytime_arena/anytimearena/io/VariableTable") (F_names_o0 : Fld Z h0 o0 "com/example/anytime_arena/anytimearena/io/VariableTable" "names" "Ljava/util/List;" u0) (F_types_o0 : Fld Z h0 o0 "com/example/anytime_arena/anytimearena/io/VariableTable" "types" "Ljava/util/List;" u1) (F_owners_o0 : Fld Z h0 o0 "com/example/anytime_arena/anytimearena/io/VariableTable" "owners" "Ljava/util/List;" u2) (F_slots_o0 : Fld Z h0 o0 "com/example/anytime_arena/anytimearena/io/VariableTable" "slots" "Ljava/util/Map;" u3) (F_low_o0 : Fld Z h0 o0 "com/example/anytime_arena/anytimearena/io/VariableTable" "low" "[I" u4) (F_high_o0 : Fld Z h0 o0 "com/example/anytime_arena/anytimearena/io/VariableTable" "high" "[I" u5) (S_DEFAULTCAPACITY_EMPTY_ELEMENTDATA : Sta Z h0 "java/util/ArrayList" "DEFAULTCAPACITY_EMPTY_ELEMENTDATA" "[Ljava/lang/Object;" (.ref sd)) (g_o0 : n0 ≤ o0) :
    MetFree l (⟨"com/example/anytime_arena/anytimearena/io/VariableTable", "<init>", "()V"⟩ : MethodName) (head1 (Jvm.Cond.code (⟨"com/example/anytime_arena/anytimearena/io/VariableTable", "<init>", "()V"⟩ : MethodName) prog_88_method_1_code 1 none :: ws) ({ frames := 4, cells := 6, slots := 17, locals := 50 } : Room)) (fun a U => a = #[(.ref o0)] ∧ Z.Warmed39 U.vm ∧ U.heap = h0) (fun _ _ _ _ _ => True) (fun _ U o U' => ∃ v L, o = .returned v ∧ Q1 Z o0 u0 u1 u2 u3 u4 u5 sd h0 n0 v U'.heap L ∧ FrameEnd U o U' L ({ frames := 4, cells := 6, slots := 17, locals := 50 } : Room).cells ({ frames := 4, cells := 6, slots := 17, locals := 50 } : Room).slots) := by
  refine MetFree.of_bodySF (plainFor_of_name pn_1) hisR ?_
  intro p e s m args below meth c s₁ Bd hml0 hP hK
  obtain ⟨rfl, hZ, hh⟩ := hP
  have hx := Bd.exec
  have hby := Bd.bytes
  have hml : c.maxLocals = 1 := hml0
  have hown : s.vm.findClass "com/example/anytime_arena/anytimearena/io/VariableTable" = some m.cls := findClass_of_methodNamed Bd.named
  have hnm := (name_of_methodNamed Bd.named Bd.method).1
  have X0 : Stand p l e ({ frames := 4, cells := 6, slots := 17, locals := 50 } : Room) s m #[(.ref o0)] below meth c s₁ [] 0 0 := Stand.of_body Bd
  have e0 : s₁.heap = h0 := by rw [← hh, Bd.state]; rfl
  have N0 := Fr.nil n0
  have K0 := Keep.refl h0 [o0]
  suffices hgo : Goes p.tables e below (fun s₂ o => ∃ v L, o = .returned v ∧ Q1 Z o0 u0 u1 u2 u3 u4 u5 sd h0 n0 v s₂.heap L ∧ FrameEnd s o s₂ L ({ frames := 4, cells := 6, slots := 17, locals := 50 } : Room).cells ({ frames := 4, cells := 6, slots := 17, locals := 50 } : Room).slots) (s₁.setTop (mkF m 0 #[.val (.ref o0)] [])) from goEnd (fun t k => castTop (ef_1 m o0) k) hgo
  refine go (fun t kt => XS.aloadN X0.here hx rfl (hb hby d1_0) rfl rfl kt) ?_
  show Goes p.tables e below _ (s₁.setTop (mkF m 1 #[.val (.ref o0)] [(.ref o0)]))
  obtain ⟨T1, X1, e1, st1⟩ := initO X0 hx hZ hown (hw _ (List.mem_of_getElem? (i := 7) rfl)) (hw _ (List.mem_of_getElem? (i := 8) rfl)) (hw _ (List.mem_of_getElem? (i := 9) rfl)) e0 (g := (mkF m 1 #[.val (.ref o0)] [(.ref o0)])) rfl (by rw [hml]; rfl) rfl (hb hby d1_1) (by decide) (W := 0) (by show 2 * 0 + _ ≤ _; exact Nat.le_of_eq rfl) (by decide)
  refine go st1 ?_
  show Goes p.tables e below _ (T1.setTop (mkF m 4 #[.val (.ref o0)] []))
  refine go (fun t kt => XS.aloadN X1.here hx rfl (hb hby d1_4) rfl rfl kt) ?_
  show Goes p.tables e below _ (T1.setTop (mkF m 5 #[.val (.ref o0)] [(.ref o0)]))
  obtain ⟨T2, h2, X2, e2, E2, A2, D2, -, st2⟩ := newO X1 hx hZ hown (hw _ (List.mem_of_getElem? (i := 10) rfl)) (hw _ (List.mem_of_getElem? (i := 11) rfl)) (hw _ (List.mem_of_getElem? (i := 12) rfl)) e1 (g := (mkF m 5 #[.val (.ref o0)] [(.ref o0)])) rfl (hb hby d1_5) (by decide) (by decide)
  obtain ⟨b2, g2⟩ : ∃ z, z = h0.size := ⟨_, rfl⟩
  rw [← g2] at A2 D2 st2
  have ne_o0_b2 : o0 ≠ b2 := Nat.ne_of_lt (Nat.lt_of_lt_of_le E_o0.lt (Nat.le_of_eq g2.symm))
  have g_b2 : n0 ≤ b2 := Nat.le_trans Z0 (Nat.le_of_eq g2.symm)
  have sz_b2 : h0.size ≤ b2 := Nat.le_trans K0.1 (Nat.le_of_eq g2.symm)
  replace E_o0 := E_o0.ext E2
  replace F_names_o0 := F_names_o0.ext E2
  replace F_types_o0 := F_types_o0.ext E2
  replace F_owners_o0 := F_owners_o0.ext E2
  replace F_slots_o0 := F_slots_o0.ext E2
  replace F_low_o0 := F_low_o0.ext E2
  replace F_high_o0 := F_high_o0.ext E2
  replace S_DEFAULTCAPACITY_EMPTY_ELEMENTDATA := S_DEFAULTCAPACITY_EMPTY_ELEMENTDATA.ext E2
  have Zz2 := Nat.le_trans Z0 E2.1
  have Kk2 := K0.ext E2
  have E_b2 := A2
  have F_modCount_b2 : Fld Z h2 b2 "java/util/AbstractList" "modCount" "I" (.int (0 : Int32)) := D2 (Or.inl (hw _ (List.mem_of_getElem? (i := 30) rfl))) (ty := .int) (by decide)
  have F_elementData_b2 : Fld Z h2 b2 "java/util/ArrayList" "elementData" "[Ljava/lang/Object;" .null := D2 (Or.inl (hw _ (List.mem_of_getElem? (i := 33) rfl))) (ty := (.array (.object "java/lang/Object"))) (by decide)
  refine go st2 ?_
  show Goes p.tables e below _ (T2.setTop (mkF m 8 #[.val (.ref o0)] [(.ref b2), (.ref o0)]))
  refine go (fun t kt => XS.dup X2.here hx rfl (hb hby d1_8) rfl rfl kt) ?_
  show Goes p.tables e below _ (T2.setTop (mkF m 9 #[.val (.ref o0)] [(.ref b2), (.ref b2), (.ref o0)]))
  obtain ⟨_, _, ⟨T3, L3, k3, n3⟩, -, X3, ⟨Lc3, hQ3, l3, y3, z3⟩, st3⟩ := X2.specialBack hx (y := (⟨"java/util/ArrayList", "<init>", "()V"⟩ : MethodName)) rfl hown (mvT hZ (hw _ (List.mem_of_getElem? (i := 13) rfl))) (mvT hZ (hw _ (List.mem_of_getElem? (i := 14) rfl))) (mvT hZ (hw _ (List.mem_of_getElem? (i := 15) rfl))) (by decide) (backOf (W := 2) (rm3 l Z a0 hw [] b2 (.int (0 : Int32)) .null sd h2 n0 Zz2 E_b2 F_modCount_b2 F_elementData_b2 S_DEFAULTCAPACITY_EMPTY_ELEMENTDATA g_b2) hZ (hw _ (List.mem_of_getElem? (i := 15) rfl)) (hw _ (List.mem_of_getElem? (i := 12) rfl)) (by decide) (by decide)) (g := (mkF m 9 #[.val (.ref o0)] [(.ref b2), (.ref b2), (.ref o0)])) rfl (by rw [hml]; rfl) (Steps.refl _) (a := b2) (argsL := []) (rest := [(.ref b2), (.ref o0)]) (lenOf pd_0 rfl) rfl (by show 2 * 0 + _ ≤ _; exact Nat.le_of_eq rfl) (hb hby d1_9) (fun _ _ => ⟨rfl, e2, (by decide : 1 + 0 ≤ _), (by decide : 3 + 0 ≤ _)⟩)
  dsimp only [Pt.U, Pt.locs, Pt.cells, Pt.slots] at X3 l3 y3 z3 st3 hQ3
  subst l3 y3 z3
  obtain ⟨rfl, Nq3, Kq3, Eq3_o0, Fq3_modCount_o0, Fq3_elementData_o0⟩ := hQ3
  replace S_DEFAULTCAPACITY_EMPTY_ELEMENTDATA := own_sta_keep S_DEFAULTCAPACITY_EMPTY_ELEMENTDATA E_b2 Kq3
  replace E_o0 := E_o0.keep Kq3
  replace F_names_o0 := F_names_o0.keep Kq3 (ninS ne_o0_b2 nin0)
  replace F_types_o0 := F_types_o0.keep Kq3 (ninS ne_o0_b2 nin0)
  replace F_owners_o0 := F_owners_o0.keep Kq3 (ninS ne_o0_b2 nin0)
  replace F_slots_o0 := F_slots_o0.keep Kq3 (ninS ne_o0_b2 nin0)
  replace F_low_o0 := F_low_o0.keep Kq3 (ninS ne_o0_b2 nin0)
  replace F_high_o0 := F_high_o0.keep Kq3 (ninS ne_o0_b2 nin0)
  replace E_b2 := E_b2.keep Kq3
  clear F_modCount_b2
  clear F_elementData_b2
  have Zz3 := Nat.le_trans Zz2 Kq3.1
  have Kk3 := Kk2.trans Kq3 (allS (Or.inr sz_b2) all0)
  have E_b2 := Eq3_o0
  have F_modCount_b2 := Fq3_modCount_o0
  have F_elementData_b2 := Fq3_elementData_o0
  have N3 := Fr.app N0 Nq3
  refine go (fun t kt => st3.trans kt) ?_
  show Goes p.tables e below _ (T3.setTop (mkF m 12 #[.val (.ref o0)] [(.ref b2), (.ref o0)]))
  obtain ⟨T4, h4, X4, e4, W4, st4⟩ := putF X3 hx hZ hown (host := "") (Or.inl (hw _ (List.mem_of_getElem? (i := 34) rfl))) Via.refl rfl F_names_o0 E_o0 (Or.inr ⟨(hw _ (List.mem_of_getElem? (i := 35) rfl)), rfl, hnm⟩) (hw _ (List.mem_of_getElem? (i := 2) rfl)) (ty := (.object "java/util/List")) (by decide) rfl rfl (g := (mkF m 12 #[.val (.ref o0)] [(.ref b2), (.ref o0)])) rfl rfl (hb hby d1_12)
  replace F_names_o0 := F_names_o0.same W4
  replace E_o0 := E_o0.wr W4
  replace F_types_o0 := F_types_o0.other W4 (Or.inr (slot_ne (Or.inr (hw _ (List.mem_of_getElem? (i := 37) rfl))) (Or.inr (hw _ (List.mem_of_getElem? (i := 35) rfl))) (by decide) (t := (.object "java/util/List")) (t' := (.object "java/util/List")) (by decide) (by decide)))
  replace F_owners_o0 := F_owners_o0.other W4 (Or.inr (slot_ne (Or.inr (hw _ (List.mem_of_getElem? (i := 39) rfl))) (Or.inr (hw _ (List.mem_of_getElem? (i := 35) rfl))) (by decide) (t := (.object "java/util/List")) (t' := (.object "java/util/List")) (by decide) (by decide)))
  replace F_slots_o0 := F_slots_o0.other W4 (Or.inr (slot_ne (Or.inr (hw _ (List.mem_of_getElem? (i := 57) rfl))) (Or.inr (hw _ (List.mem_of_getElem? (i := 35) rfl))) (by decide) (t := (.object "java/util/Map")) (t' := (.object "java/util/List")) (by decide) (by decide)))
  replace F_low_o0 := F_low_o0.other W4 (Or.inr (slot_ne (Or.inl (hw _ (List.mem_of_getElem? (i := 59) rfl))) (Or.inr (hw _ (List.mem_of_getElem? (i := 35) rfl))) (by decide) (t := (.array .int)) (t' := (.object "java/util/List")) (by decide) (by decide)))
  replace F_high_o0 := F_high_o0.other W4 (Or.inr (slot_ne (Or.inl (hw _ (List.mem_of_getElem? (i := 61) rfl))) (Or.inr (hw _ (List.mem_of_getElem? (i := 35) rfl))) (by decide) (t := (.array .int)) (t' := (.object "java/util/List")) (by decide) (by decide)))
  replace S_DEFAULTCAPACITY_EMPTY_ELEMENTDATA := S_DEFAULTCAPACITY_EMPTY_ELEMENTDATA.wr W4
  replace E_b2 := E_b2.wr W4
  replace F_modCount_b2 := F_modCount_b2.other W4 (Or.inl (Ne.symm ne_o0_b2))
  replace F_elementData_b2 := F_elementData_b2.other W4 (Or.inl (Ne.symm ne_o0_b2))
  have Zz4 := Nat.le_trans Zz3 (Keep.of_wr W4).1
  have Kk4 := Kk3.wr W4 (Or.inl (List.mem_of_getElem? (i := 0) rfl))
  have N4 := Fr.snoc X4 N3 g_o0
  refine go st4 ?_
  show Goes p.tables e below _ (T4.setTop (mkF m 15 #[.val (.ref o0)] []))
  refine go (fun t kt => XS.aloadN X4.here hx rfl (hb hby d1_15) rfl rfl kt) ?_
  show Goes p.tables e below _ (T4.setTop (mkF m 16 #[.val (.ref o0)] [(.ref o0)]))
  obtain ⟨T5, h5, X5, e5, E5, A5, D5, -, st5⟩ := newO X4 hx hZ hown (hw _ (List.mem_of_getElem? (i := 10) rfl)) (hw _ (List.mem_of_getElem? (i := 11) rfl)) (hw _ (List.mem_of_getElem? (i := 12) rfl)) e4 (g := (mkF m 16 #[.val (.ref o0)] [(.ref o0)])) rfl (hb hby d1_16) (by decide) (by decide)
  obtain ⟨b5, g5⟩ : ∃ z, z = h4.size := ⟨_, rfl⟩
  rw [← g5] at A5 D5 st5
  have ne_o0_b5 : o0 ≠ b5 := Nat.ne_of_lt (Nat.lt_of_lt_of_le E_o0.lt (Nat.le_of_eq g5.symm))
  have ne_b2_b5 : b2 ≠ b5 := Nat.ne_of_lt (Nat.lt_of_lt_of_le E_b2.lt (Nat.le_of_eq g5.symm))
  have g_b5 : n0 ≤ b5 := Nat.le_trans Zz4 (Nat.le_of_eq g5.symm)
  have sz_b5 : h0.size ≤ b5 := Nat.le_trans Kk4.1 (Nat.le_of_eq g5.symm)
  replace E_o0 := E_o0.ext E5
  replace F_names_o0 := F_names_o0.ext E5
  replace F_types_o0 := F_types_o0.ext E5
  replace F_owners_o0 := F_owners_o0.ext E5
  replace F_slots_o0 := F_slots_o0.ext E5
  replace F_low_o0 := F_low_o0.ext E5
  replace F_high_o0 := F_high_o0.ext E5
  replace S_DEFAULTCAPACITY_EMPTY_ELEMENTDATA := S_DEFAULTCAPACITY_EMPTY_ELEMENTDATA.ext E5
  replace E_b2 := E_b2.ext E5
  replace F_modCount_b2 := F_modCount_b2.ext E5
  replace F_elementData_b2 := F_elementData_b2.ext E5
  have Zz5 := Nat.le_trans Zz4 E5.1
  have Kk5 := Kk4.ext E5
  have E_b5 := A5
  have F_modCount_b5 : Fld Z h5 b5 "java/util/AbstractList" "modCount" "I" (.int (0 : Int32)) := D5 (Or.inl (hw _ (List.mem_of_getElem? (i := 30) rfl))) (ty := .int) (by decide)
  have F_elementData_b5 : Fld Z h5 b5 "java/util/ArrayList" "elementData" "[Ljava/lang/Object;" .null := D5 (Or.inl (hw _ (List.mem_of_getElem? (i := 33) rfl))) (ty := (.array (.object "java/lang/Object"))) (by decide)
  refine go st5 ?_
  show Goes p.tables e below _ (T5.setTop (mkF m 19 #[.val (.ref o0)] [(.ref b5), (.ref o0)]))
  refine go (fun t kt => XS.dup X5.here hx rfl (hb hby d1_19) rfl rfl kt) ?_
  show Goes p.tables e below _ (T5.setTop (mkF m 20 #[.val (.ref o0)] [(.ref b5), (.ref b5), (.ref o0)]))
  obtain ⟨_, _, ⟨T6, L6, k6, n6⟩, -, X6, ⟨Lc6, hQ6, l6, y6, z6⟩, st6⟩ := X5.specialBack hx (y := (⟨"java/util/ArrayList", "<init>", "()V"⟩ : MethodName)) rfl hown (mvT hZ (hw _ (List.mem_of_getElem? (i := 13) rfl))) (mvT hZ (hw _ (List.mem_of_getElem? (i := 14) rfl))) (mvT hZ (hw _ (List.mem_of_getElem? (i := 15) rfl))) (by decide) (backOf (W := 2) (rm3 l Z a0 hw [] b5 (.int (0 : Int32)) .null sd h5 n0 Zz5 E_b5 F_modCount_b5 F_elementData_b5 S_DEFAULTCAPACITY_EMPTY_ELEMENTDATA g_b5) hZ (hw _ (List.mem_of_getElem? (i := 15) rfl)) (hw _ (List.mem_of_getElem? (i := 12) rfl)) (by decide) (by decide)) (g := (mkF m 20 #[.val (.ref o0)] [(.ref b5), (.ref b5), (.ref o0)])) rfl (by rw [hml]; rfl) (Steps.refl _) (a := b5) (argsL := []) (rest := [(.ref b5), (.ref o0)]) (lenOf pd_0 rfl) rfl (by show 2 * 0 + _ ≤ _; exact Nat.le_of_eq rfl) (hb hby d1_20) (fun _ _ => ⟨rfl, e5, (by decide : 2 + 0 ≤ _), (by decide : 6 + 0 ≤ _)⟩)
  dsimp only [Pt.U, Pt.locs, Pt.cells, Pt.slots] at X6 l6 y6 z6 st6 hQ6
  subst l6 y6 z6
  obtain ⟨rfl, Nq6, Kq6, Eq6_o0, Fq6_modCount_o0, Fq6_elementData_o0⟩ := hQ6
  replace S_DEFAULTCAPACITY_EMPTY_ELEMENTDATA := own_sta_keep S_DEFAULTCAPACITY_EMPTY_ELEMENTDATA E_b5 Kq6
  replace E_o0 := E_o0.keep Kq6
  replace F_names_o0 := F_names_o0.keep Kq6 (ninS ne_o0_b5 nin0)
  replace F_types_o0 := F_types_o0.keep Kq6 (ninS ne_o0_b5 nin0)
  replace F_owners_o0 := F_owners_o0.keep Kq6 (ninS ne_o0_b5 nin0)
  replace F_slots_o0 := F_slots_o0.keep Kq6 (ninS ne_o0_b5 nin0)
  replace F_low_o0 := F_low_o0.keep Kq6 (ninS ne_o0_b5 nin0)
  replace F_high_o0 := F_high_o0.keep Kq6 (ninS ne_o0_b5 nin0)
  replace E_b2 := E_b2.keep Kq6
  replace F_modCount_b2 := F_modCount_b2.keep Kq6 (ninS ne_b2_b5 nin0)
  replace F_elementData_b2 := F_elementData_b2.keep Kq6 (ninS ne_b2_b5 nin0)
  replace E_b5 := E_b5.keep Kq6
  clear F_modCount_b5
  clear F_elementData_b5
  have Zz6 := Nat.le_trans Zz5 Kq6.1
  have Kk6 := Kk5.trans Kq6 (allS (Or.inr sz_b5) all0)
  have E_b5 := Eq6_o0
  have F_modCount_b5 := Fq6_modCount_o0
  have F_elementData_b5 := Fq6_elementData_o0
  have N6 := Fr.app N4 Nq6
  refine go (fun t kt => st6.trans kt) ?_
  show Goes p.tables e below _ (T6.setTop (mkF m 23 #[.val (.ref o0)] [(.ref b5), (.ref o0)]))
  obtain ⟨T7, h7, X7, e7, W7, st7⟩ := putF X6 hx hZ hown (host := "") (Or.inl (hw _ (List.mem_of_getElem? (i := 36) rfl))) Via.refl rfl F_types_o0 E_o0 (Or.inr ⟨(hw _ (List.mem_of_getElem? (i := 37) rfl)), rfl, hnm⟩) (hw _ (List.mem_of_getElem? (i := 2) rfl)) (ty := (.object "java/util/List")) (by decide) rfl rfl (g := (mkF m 23 #[.val (.ref o0)] [(.ref b5), (.ref o0)])) rfl rfl (hb hby d1_23)
  replace F_types_o0 := F_types_o0.same W7
  replace E_o0 := E_o0.wr W7
  replace F_names_o0 := F_names_o0.other W7 (Or.inr (slot_ne (Or.inr (hw _ (List.mem_of_getElem? (i := 35) rfl))) (Or.inr (hw _ (List.mem_of_getElem? (i := 37) rfl))) (by decide) (t := (.object "java/util/List")) (t' := (.object "java/util/List")) (by decide) (by decide)))
  replace F_owners_o0 := F_owners_o0.other W7 (Or.inr (slot_ne (Or.inr (hw _ (List.mem_of_getElem? (i := 39) rfl))) (Or.inr (hw _ (List.mem_of_getElem? (i := 37) rfl))) (by decide) (t := (.object "java/util/List")) (t' := (.object "java/util/List")) (by decide) (by decide)))
  replace F_slots_o0 := F_slots_o0.other W7 (Or.inr (slot_ne (Or.inr (hw _ (List.mem_of_getElem? (i := 57) rfl))) (Or.inr (hw _ (List.mem_of_getElem? (i := 37) rfl))) (by decide) (t := (.object "java/util/Map")) (t' := (.object "java/util/List")) (by decide) (by decide)))
  replace F_low_o0 := F_low_o0.other W7 (Or.inr (slot_ne (Or.inl (hw _ (List.mem_of_getElem? (i := 59) rfl))) (Or.inr (hw _ (List.mem_of_getElem? (i := 37) rfl))) (by decide) (t := (.array .int)) (t' := (.object "java/util/List")) (by decide) (by decide)))
  replace F_high_o0 := F_high_o0.other W7 (Or.inr (slot_ne (Or.inl (hw _ (List.mem_of_getElem? (i := 61) rfl))) (Or.inr (hw _ (List.mem_of_getElem? (i := 37) rfl))) (by decide) (t := (.array .int)) (t' := (.object "java/util/List")) (by decide) (by decide)))
  replace S_DEFAULTCAPACITY_EMPTY_ELEMENTDATA := S_DEFAULTCAPACITY_EMPTY_ELEMENTDATA.wr W7
  replace E_b2 := E_b2.wr W7
  replace F_modCount_b2 := F_modCount_b2.other W7 (Or.inl (Ne.symm ne_o0_b2))
  replace F_elementData_b2 := F_elementData_b2.other W7 (Or.inl (Ne.symm ne_o0_b2))
  replace E_b5 := E_b5.wr W7
  replace F_modCount_b5 := F_modCount_b5.other W7 (Or.inl (Ne.symm ne_o0_b5))
  replace F_elementData_b5 := F_elementData_b5.other W7 (Or.inl (Ne.symm ne_o0_b5))
  have Zz7 := Nat.le_trans Zz6 (Keep.of_wr W7).1
  have Kk7 := Kk6.wr W7 (Or.inl (List.mem_of_getElem? (i := 0) rfl))
  have N7 := Fr.snoc X7 N6 g_o0
  refine go st7 ?_
  show Goes p.tables e below _ (T7.setTop (mkF m 26 #[.val (.ref o0)] []))
  refine go (fun t kt => XS.aloadN X7.here hx rfl (hb hby d1_26) rfl rfl kt) ?_
  show Goes p.tables e below _ (T7.setTop (mkF m 27 #[.val (.ref o0)] [(.ref o0)]))
  obtain ⟨T8, h8, X8, e8, E8, A8, D8, -, st8⟩ := newO X7 hx hZ hown (hw _ (List.mem_of_getElem? (i := 10) rfl)) (hw _ (List.mem_of_getElem? (i := 11) rfl)) (hw _ (List.mem_of_getElem? (i := 12) rfl)) e7 (g := (mkF m 27 #[.val (.ref o0)] [(.ref o0)])) rfl (hb hby d1_27) (by decide) (by decide)
  obtain ⟨b8, g8⟩ : ∃ z, z = h7.size := ⟨_, rfl⟩
  rw [← g8] at A8 D8 st8
  have ne_o0_b8 : o0 ≠ b8 := Nat.ne_of_lt (Nat.lt_of_lt_of_le E_o0.lt (Nat.le_of_eq g8.symm))
  have ne_b2_b8 : b2 ≠ b8 := Nat.ne_of_lt (Nat.lt_of_lt_of_le E_b2.lt (Nat.le_of_eq g8.symm))
  have ne_b5_b8 : b5 ≠ b8 := Nat.ne_of_lt (Nat.lt_of_lt_of_le E_b5.lt (Nat.le_of_eq g8.symm))
  have g_b8 : n0 ≤ b8 := Nat.le_trans Zz7 (Nat.le_of_eq g8.symm)
  have sz_b8 : h0.size ≤ b8 := Nat.le_trans Kk7.1 (Nat.le_of_eq g8.symm)
  replace E_o0 := E_o0.ext E8
  replace F_names_o0 := F_names_o0.ext E8
  replace F_types_o0 := F_types_o0.ext E8
  replace F_owners_o0 := F_owners_o0.ext E8
  replace F_slots_o0 := F_slots_o0.ext E8
  replace F_low_o0 := F_low_o0.ext E8
  replace F_high_o0 := F_high_o0.ext E8
  replace S_DEFAULTCAPACITY_EMPTY_ELEMENTDATA := S_DEFAULTCAPACITY_EMPTY_ELEMENTDATA.ext E8
  replace E_b2 := E_b2.ext E8
  replace F_modCount_b2 := F_modCount_b2.ext E8
  replace F_elementData_b2 := F_elementData_b2.ext E8
  replace E_b5 := E_b5.ext E8
  replace F_modCount_b5 := F_modCount_b5.ext E8
  replace F_elementData_b5 := F_elementData_b5.ext E8
  have Zz8 := Nat.le_trans Zz7 E8.1
  have Kk8 := Kk7.ext E8
  have E_b8 := A8
  have F_modCount_b8 : Fld Z h8 b8 "java/util/AbstractList" "modCount" "I" (.int (0 : Int32)) := D8 (Or.inl (hw _ (List.mem_of_getElem? (i := 30) rfl))) (ty := .int) (by decide)
  have F_elementData_b8 : Fld Z h8 b8 "java/util/ArrayList" "elementData" "[Ljava/lang/Object;" .null := D8 (Or.inl (hw _ (List.mem_of_getElem? (i := 33) rfl))) (ty := (.array (.object "java/lang/Object"))) (by decide)
  refine go st8 ?_
  show Goes p.tables e below _ (T8.setTop (mkF m 30 #[.val (.ref o0)] [(.ref b8), (.ref o0)]))
  refine go (fun t kt => XS.dup X8.here hx rfl (hb hby d1_30) rfl rfl kt) ?_
  show Goes p.tables e below _ (T8.setTop (mkF m 31 #[.val (.ref o0)] [(.ref b8), (.ref b8), (.ref o0)]))
  obtain ⟨_, _, ⟨T9, L9, k9, n9⟩, -, X9, ⟨Lc9, hQ9, l9, y9, z9⟩, st9⟩ := X8.specialBack hx (y := (⟨"java/util/ArrayList", "<init>", "()V"⟩ : MethodName)) rfl hown (mvT hZ (hw _ (List.mem_of_getElem? (i := 13) rfl))) (mvT hZ (hw _ (List.mem_of_getElem? (i := 14) rfl))) (mvT hZ (hw _ (List.mem_of_getElem? (i := 15) rfl))) (by decide) (backOf (W := 2) (rm3 l Z a0 hw [] b8 (.int (0 : Int32)) .null sd h8 n0 Zz8 E_b8 F_modCount_b8 F_elementData_b8 S_DEFAULTCAPACITY_EMPTY_ELEMENTDATA g_b8) hZ (hw _ (List.mem_of_getElem? (i := 15) rfl)) (hw _ (List.mem_of_getElem? (i := 12) rfl)) (by decide) (by decide)) (g := (mkF m 31 #[.val (.ref o0)] [(.ref b8), (.ref b8), (.ref o0)])) rfl (by rw [hml]; rfl) (Steps.refl _) (a := b8) (argsL := []) (rest := [(.ref b8), (.ref o0)]) (lenOf pd_0 rfl) rfl (by show 2 * 0 + _ ≤ _; exact Nat.le_of_eq rfl) (hb hby d1_31) (fun _ _ => ⟨rfl, e8, (by decide : 3 + 0 ≤ _), (by decide : 9 + 0 ≤ _)⟩)
  dsimp only [Pt.U, Pt.locs, Pt.cells, Pt.slots] at X9 l9 y9 z9 st9 hQ9
  subst l9 y9 z9
  obtain ⟨rfl, Nq9, Kq9, Eq9_o0, Fq9_modCount_o0, Fq9_elementData_o0⟩ := hQ9
  replace S_DEFAULTCAPACITY_EMPTY_ELEMENTDATA := own_sta_keep S_DEFAULTCAPACITY_EMPTY_ELEMENTDATA E_b8 Kq9
  replace E_o0 := E_o0.keep Kq9
  replace F_names_o0 := F_names_o0.keep Kq9 (ninS ne_o0_b8 nin0)
  replace F_types_o0 := F_types_o0.keep Kq9 (ninS ne_o0_b8 nin0)
  replace F_owners_o0 := F_owners_o0.keep Kq9 (ninS ne_o0_b8 nin0)
  replace F_slots_o0 := F_slots_o0.keep Kq9 (ninS ne_o0_b8 nin0)
  replace F_low_o0 := F_low_o0.keep Kq9 (ninS ne_o0_b8 nin0)
  replace F_high_o0 := F_high_o0.keep Kq9 (ninS ne_o0_b8 nin0)
  replace E_b2 := E_b2.keep Kq9
  replace F_modCount_b2 := F_modCount_b2.keep Kq9 (ninS ne_b2_b8 nin0)
  replace F_elementData_b2 := F_elementData_b2.keep Kq9 (ninS ne_b2_b8 nin0)
  replace E_b5 := E_b5.keep Kq9
  replace F_modCount_b5 := F_modCount_b5.keep Kq9 (ninS ne_b5_b8 nin0)
  replace F_elementData_b5 := F_elementData_b5.keep Kq9 (ninS ne_b5_b8 nin0)
  replace E_b8 := E_b8.keep Kq9
  clear F_modCount_b8
  clear F_elementData_b8
  have Zz9 := Nat.le_trans Zz8 Kq9.1
  have Kk9 := Kk8.trans Kq9 (allS (Or.inr sz_b8) all0)
  have E_b8 := Eq9_o0
  have F_modCount_b8 := Fq9_modCount_o0
  have F_elementData_b8 := Fq9_elementData_o0
  have N9 := Fr.app N7 Nq9
  refine go (fun t kt => st9.trans kt) ?_
  show Goes p.tables e below _ (T9.setTop (mkF m 34 #[.val (.ref o0)] [(.ref b8), (.ref o0)]))
  obtain ⟨T10, h10, X10, e10, W10, st10⟩ := putF X9 hx hZ hown (host := "") (Or.inl (hw _ (List.mem_of_getElem? (i := 38) rfl))) Via.refl rfl F_owners_o0 E_o0 (Or.inr ⟨(hw _ (List.mem_of_getElem? (i := 39) rfl)), rfl, hnm⟩) (hw _ (List.mem_of_getElem? (i := 2) rfl)) (ty := (.object "java/util/List")) (by decide) rfl rfl (g := (mkF m 34 #[.val (.ref o0)] [(.ref b8), (.ref o0)])) rfl rfl (hb hby d1_34)
  replace F_owners_o0 := F_owners_o0.same W10
  replace E_o0 := E_o0.wr W10
  replace F_names_o0 := F_names_o0.other W10 (Or.inr (slot_ne (Or.inr (hw _ (List.mem_of_getElem? (i := 35) rfl))) (Or.inr (hw _ (List.mem_of_getElem? (i := 39) rfl))) (by decide) (t := (.object "java/util/List")) (t' := (.object "java/util/List")) (by decide) (by decide)))
  replace F_types_o0 := F_types_o0.other W10 (Or.inr (slot_ne (Or.inr (hw _ (List.mem_of_getElem? (i := 37) rfl))) (Or.inr (hw _ (List.mem_of_getElem? (i := 39) rfl))) (by decide) (t := (.object "java/util/List")) (t' := (.object "java/util/List")) (by decide) (by decide)))
  replace F_slots_o0 := F_slots_o0.other W10 (Or.inr (slot_ne (Or.inr (hw _ (List.mem_of_getElem? (i := 57) rfl))) (Or.inr (hw _ (List.mem_of_getElem? (i := 39) rfl))) (by decide) (t := (.object "java/util/Map")) (t' := (.object "java/util/List")) (by decide) (by decide)))
  replace F_low_o0 := F_low_o0.other W10 (Or.inr (slot_ne (Or.inl (hw _ (List.mem_of_getElem? (i := 59) rfl))) (Or.inr (hw _ (List.mem_of_getElem? (i := 39) rfl))) (by decide) (t := (.array .int)) (t' := (.object "java/util/List")) (by decide) (by decide)))
  replace F_high_o0 := F_high_o0.other W10 (Or.inr (slot_ne (Or.inl (hw _ (List.mem_of_getElem? (i := 61) rfl))) (Or.inr (hw _ (List.mem_of_getElem? (i := 39) rfl))) (by decide) (t := (.array .int)) (t' := (.object "java/util/List")) (by decide) (by decide)))
  replace S_DEFAULTCAPACITY_EMPTY_ELEMENTDATA := S_DEFAULTCAPACITY_EMPTY_ELEMENTDATA.wr W10
  replace E_b2 := E_b2.wr W10
  replace F_modCount_b2 := F_modCount_b2.other W10 (Or.inl (Ne.symm ne_o0_b2))
  replace F_elementData_b2 := F_elementData_b2.other W10 (Or.inl (Ne.symm ne_o0_b2))
  replace E_b5 := E_b5.wr W10
  replace F_modCount_b5 := F_modCount_b5.other W10 (Or.inl (Ne.symm ne_o0_b5))
  replace F_elementData_b5 := F_elementData_b5.other W10 (Or.inl (Ne.symm ne_o0_b5))
  replace E_b8 := E_b8.wr W10
  replace F_modCount_b8 := F_modCount_b8.other W10 (Or.inl (Ne.symm ne_o0_b8))
  replace F_elementData_b8 := F_elementData_b8.other W10 (Or.inl (Ne.symm ne_o0_b8))
  have Zz10 := Nat.le_trans Zz9 (Keep.of_wr W10).1
  have Kk10 := Kk9.wr W10 (Or.inl (List.mem_of_getElem? (i := 0) rfl))
  have N10 := Fr.snoc X10 N9 g_o0
  refine go st10 ?_
  show Goes p.tables e below _ (T10.setTop (mkF m 37 #[.val (.ref o0)] []))
  refine go (fun t kt => XS.aloadN X10.here hx rfl (hb hby d1_37) rfl rfl kt) ?_
  show Goes p.tables e below _ (T10.setTop (mkF m 38 #[.val (.ref o0)] [(.ref o0)]))
  obtain ⟨T11, h11, X11, e11, E11, A11, D11, -, st11⟩ := newO X10 hx hZ hown (hw _ (List.mem_of_getElem? (i := 40) rfl)) (hw _ (List.mem_of_getElem? (i := 41) rfl)) (hw _ (List.mem_of_getElem? (i := 42) rfl)) e10 (g := (mkF m 38 #[.val (.ref o0)] [(.ref o0)])) rfl (hb hby d1_38) (by decide) (by decide)
  obtain ⟨b11, g11⟩ : ∃ z, z = h10.size := ⟨_, rfl⟩
  rw [← g11] at A11 D11 st11
  have ne_o0_b11 : o0 ≠ b11 := Nat.ne_of_lt (Nat.lt_of_lt_of_le E_o0.lt (Nat.le_of_eq g11.symm))
  have ne_b2_b11 : b2 ≠ b11 := Nat.ne_of_lt (Nat.lt_of_lt_of_le E_b2.lt (Nat.le_of_eq g11.symm))
  have ne_b5_b11 : b5 ≠ b11 := Nat.ne_of_lt (Nat.lt_of_lt_of_le E_b5.lt (Nat.le_of_eq g11.symm))
  have ne_b8_b11 : b8 ≠ b11 := Nat.ne_of_lt (Nat.lt_of_lt_of_le E_b8.lt (Nat.le_of_eq g11.symm))
  have g_b11 : n0 ≤ b11 := Nat.le_trans Zz10 (Nat.le_of_eq g11.symm)
  have sz_b11 : h0.size ≤ b11 := Nat.le_trans Kk10.1 (Nat.le_of_eq g11.symm)
  replace E_o0 := E_o0.ext E11
  replace F_names_o0 := F_names_o0.ext E11
  replace F_types_o0 := F_types_o0.ext E11
  replace F_owners_o0 := F_owners_o0.ext E11
  replace F_slots_o0 := F_slots_o0.ext E11
  replace F_low_o0 := F_low_o0.ext E11
  replace F_high_o0 := F_high_o0.ext E11
  replace S_DEFAULTCAPACITY_EMPTY_ELEMENTDATA := S_DEFAULTCAPACITY_EMPTY_ELEMENTDATA.ext E11
  replace E_b2 := E_b2.ext E11
  replace F_modCount_b2 := F_modCount_b2.ext E11
  replace F_elementData_b2 := F_elementData_b2.ext E11
  replace E_b5 := E_b5.ext E11
  replace F_modCount_b5 := F_modCount_b5.ext E11
  replace F_elementData_b5 := F_elementData_b5.ext E11
  replace E_b8 := E_b8.ext E11
  replace F_modCount_b8 := F_modCount_b8.ext E11
  replace F_elementData_b8 := F_elementData_b8.ext E11
  have Zz11 := Nat.le_trans Zz10 E11.1
  have Kk11 := Kk10.ext E11
  have E_b11 := A11
  have F_loadFactor_b11 : Fld Z h11 b11 "java/util/HashMap" "loadFactor" "F" (.float (0 : UInt32)) := D11 (Or.inr (hw _ (List.mem_of_getElem? (i := 55) rfl))) (ty := .float) (by decide)
  refine go st11 ?_
  show Goes p.tables e below _ (T11.setTop (mkF m 41 #[.val (.ref o0)] [(.ref b11), (.ref o0)]))
  refine go (fun t kt => XS.dup X11.here hx rfl (hb hby d1_41) rfl rfl kt) ?_
  show Goes p.tables e below _ (T11.setTop (mkF m 42 #[.val (.ref o0)] [(.ref b11), (.ref b11), (.ref o0)]))
  obtain ⟨_, _, ⟨T12, L12, k12, n12⟩, -, X12, ⟨Lc12, hQ12, l12, y12, z12⟩, st12⟩ := X11.specialBack hx (y := (⟨"java/util/HashMap", "<init>", "()V"⟩ : MethodName)) rfl hown (mvT hZ (hw _ (List.mem_of_getElem? (i := 43) rfl))) (mvT hZ (hw _ (List.mem_of_getElem? (i := 44) rfl))) (mvT hZ (hw _ (List.mem_of_getElem? (i := 45) rfl))) (by decide) (backOf (W := 2) (rm6 l Z a0 hw [] b11 (.float (0 : UInt32)) h11 n0 Zz11 E_b11 F_loadFactor_b11 g_b11) hZ (hw _ (List.mem_of_getElem? (i := 45) rfl)) (hw _ (List.mem_of_getElem? (i := 42) rfl)) (by decide) (by decide)) (g := (mkF m 42 #[.val (.ref o0)] [(.ref b11), (.ref b11), (.ref o0)])) rfl (by rw [hml]; rfl) (Steps.refl _) (a := b11) (argsL := []) (rest := [(.ref b11), (.ref o0)]) (lenOf pd_0 rfl) rfl (by show 2 * 0 + _ ≤ _; exact Nat.le_of_eq rfl) (hb hby d1_42) (fun _ _ => ⟨rfl, e11, (by decide : 4 + 0 ≤ _), (by decide : 17 + 0 ≤ _)⟩)
  dsimp only [Pt.U, Pt.locs, Pt.cells, Pt.slots] at X12 l12 y12 z12 st12 hQ12
  subst l12 y12 z12
  obtain ⟨rfl, Nq12, Kq12, Eq12_o0⟩ := hQ12
  replace S_DEFAULTCAPACITY_EMPTY_ELEMENTDATA := own_sta_keep S_DEFAULTCAPACITY_EMPTY_ELEMENTDATA E_b11 Kq12
  replace E_o0 := E_o0.keep Kq12
  replace F_names_o0 := F_names_o0.keep Kq12 (ninS ne_o0_b11 nin0)
  replace F_types_o0 := F_types_o0.keep Kq12 (ninS ne_o0_b11 nin0)
  replace F_owners_o0 := F_owners_o0.keep Kq12 (ninS ne_o0_b11 nin0)
  replace F_slots_o0 := F_slots_o0.keep Kq12 (ninS ne_o0_b11 nin0)
  replace F_low_o0 := F_low_o0.keep Kq12 (ninS ne_o0_b11 nin0)
  replace F_high_o0 := F_high_o0.keep Kq12 (ninS ne_o0_b11 nin0)
  replace E_b2 := E_b2.keep Kq12
  replace F_modCount_b2 := F_modCount_b2.keep Kq12 (ninS ne_b2_b11 nin0)
  replace F_elementData_b2 := F_elementData_b2.keep Kq12 (ninS ne_b2_b11 nin0)
  replace E_b5 := E_b5.keep Kq12
  replace F_modCount_b5 := F_modCount_b5.keep Kq12 (ninS ne_b5_b11 nin0)
  replace F_elementData_b5 := F_elementData_b5.keep Kq12 (ninS ne_b5_b11 nin0)
  replace E_b8 := E_b8.keep Kq12
  replace F_modCount_b8 := F_modCount_b8.keep Kq12 (ninS ne_b8_b11 nin0)
  replace F_elementData_b8 := F_elementData_b8.keep Kq12 (ninS ne_b8_b11 nin0)
  replace E_b11 := E_b11.keep Kq12
  clear F_loadFactor_b11
  have Zz12 := Nat.le_trans Zz11 Kq12.1
  have Kk12 := Kk11.trans Kq12 (allS (Or.inr sz_b11) all0)
  have E_b11 := Eq12_o0
  have N12 := Fr.app N10 Nq12
  refine go (fun t kt => st12.trans kt) ?_
  show Goes p.tables e below _ (T12.setTop (mkF m 45 #[.val (.ref o0)] [(.ref b11), (.ref o0)]))
  obtain ⟨T13, h13, X13, e13, W13, st13⟩ := putF X12 hx hZ hown (host := "") (Or.inl (hw _ (List.mem_of_getElem? (i := 56) rfl))) Via.refl rfl F_slots_o0 E_o0 (Or.inr ⟨(hw _ (List.mem_of_getElem? (i := 57) rfl)), rfl, hnm⟩) (hw _ (List.mem_of_getElem? (i := 2) rfl)) (ty := (.object "java/util/Map")) (by decide) rfl rfl (g := (mkF m 45 #[.val (.ref o0)] [(.ref b11), (.ref o0)])) rfl rfl (hb hby d1_45)
  replace F_slots_o0 := F_slots_o0.same W13
  replace E_o0 := E_o0.wr W13
  replace F_names_o0 := F_names_o0.other W13 (Or.inr (slot_ne (Or.inr (hw _ (List.mem_of_getElem? (i := 35) rfl))) (Or.inr (hw _ (List.mem_of_getElem? (i := 57) rfl))) (by decide) (t := (.object "java/util/List")) (t' := (.object "java/util/Map")) (by decide) (by decide)))
  replace F_types_o0 := F_types_o0.other W13 (Or.inr (slot_ne (Or.inr (hw _ (List.mem_of_getElem? (i := 37) rfl))) (Or.inr (hw _ (List.mem_of_getElem? (i := 57) rfl))) (by decide) (t := (.object "java/util/List")) (t' := (.object "java/util/Map")) (by decide) (by decide)))
  replace F_owners_o0 := F_owners_o0.other W13 (Or.inr (slot_ne (Or.inr (hw _ (List.mem_of_getElem? (i := 39) rfl))) (Or.inr (hw _ (List.mem_of_getElem? (i := 57) rfl))) (by decide) (t := (.object "java/util/List")) (t' := (.object "java/util/Map")) (by decide) (by decide)))
  replace F_low_o0 := F_low_o0.other W13 (Or.inr (slot_ne (Or.inl (hw _ (List.mem_of_getElem? (i := 59) rfl))) (Or.inr (hw _ (List.mem_of_getElem? (i := 57) rfl))) (by decide) (t := (.array .int)) (t' := (.object "java/util/Map")) (by decide) (by decide)))
  replace F_high_o0 := F_high_o0.other W13 (Or.inr (slot_ne (Or.inl (hw _ (List.mem_of_getElem? (i := 61) rfl))) (Or.inr (hw _ (List.mem_of_getElem? (i := 57) rfl))) (by decide) (t := (.array .int)) (t' := (.object "java/util/Map")) (by decide) (by decide)))
  replace S_DEFAULTCAPACITY_EMPTY_ELEMENTDATA := S_DEFAULTCAPACITY_EMPTY_ELEMENTDATA.wr W13
  replace E_b2 := E_b2.wr W13
  replace F_modCount_b2 := F_modCount_b2.other W13 (Or.inl (Ne.symm ne_o0_b2))
  replace F_elementData_b2 := F_elementData_b2.other W13 (Or.inl (Ne.symm ne_o0_b2))
  replace E_b5 := E_b5.wr W13
  replace F_modCount_b5 := F_modCount_b5.other W13 (Or.inl (Ne.symm ne_o0_b5))
  replace F_elementData_b5 := F_elementData_b5.other W13 (Or.inl (Ne.symm ne_o0_b5))
  replace E_b8 := E_b8.wr W13
  replace F_modCount_b8 := F_modCount_b8.other W13 (Or.inl (Ne.symm ne_o0_b8))
  replace F_elementData_b8 := F_elementData_b8.other W13 (Or.inl (Ne.symm ne_o0_b8))
  replace E_b11 := E_b11.wr W13
  have Zz13 := Nat.le_trans Zz12 (Keep.of_wr W13).1
  have Kk13 := Kk12.wr W13 (Or.inl (List.mem_of_getElem? (i := 0) rfl))
  have N13 := Fr.snoc X13 N12 g_o0
  refine go st13 ?_
  show Goes p.tables e below _ (T13.setTop (mkF m 48 #[.val (.ref o0)] []))
  refine go (fun t kt => XS.aloadN X13.here hx rfl (hb hby d1_48) rfl rfl kt) ?_
  show Goes p.tables e below _ (T13.setTop (mkF m 49 #[.val (.ref o0)] [(.ref o0)]))
  refine go (fun t kt => XS.iconst X13.here hx rfl (hb hby d1_49) kt) ?_
  show Goes p.tables e below _ (T13.setTop (mkF m 50 #[.val (.ref o0)] [(.int (0 : Int32)), (.ref o0)]))
  obtain ⟨T14, h14, k14, X14, e14, E14, A14, st14⟩ := newP X13 hx hZ (hw _ (List.mem_of_getElem? (i := 0) rfl)) e13 (g := (mkF m 50 #[.val (.ref o0)] [(.int (0 : Int32)), (.ref o0)])) rfl (hb hby d1_50) rfl (by decide) (cap := 0) (by decide) (by decide) (by decide) (by decide)
  obtain ⟨b14, g14⟩ : ∃ z, z = h13.size := ⟨_, rfl⟩
  rw [← g14] at A14 st14
  have ne_o0_b14 : o0 ≠ b14 := Nat.ne_of_lt (Nat.lt_of_lt_of_le E_o0.lt (Nat.le_of_eq g14.symm))
  have ne_b2_b14 : b2 ≠ b14 := Nat.ne_of_lt (Nat.lt_of_lt_of_le E_b2.lt (Nat.le_of_eq g14.symm))
  have ne_b5_b14 : b5 ≠ b14 := Nat.ne_of_lt (Nat.lt_of_lt_of_le E_b5.lt (Nat.le_of_eq g14.symm))
  have ne_b8_b14 : b8 ≠ b14 := Nat.ne_of_lt (Nat.lt_of_lt_of_le E_b8.lt (Nat.le_of_eq g14.symm))
  have ne_b11_b14 : b11 ≠ b14 := Nat.ne_of_lt (Nat.lt_of_lt_of_le E_b11.lt (Nat.le_of_eq g14.symm))
  have g_b14 : n0 ≤ b14 := Nat.le_trans Zz13 (Nat.le_of_eq g14.symm)
  have sz_b14 : h0.size ≤ b14 := Nat.le_trans Kk13.1 (Nat.le_of_eq g14.symm)
  replace E_o0 := E_o0.ext E14
  replace F_names_o0 := F_names_o0.ext E14
  replace F_types_o0 := F_types_o0.ext E14
  replace F_owners_o0 := F_owners_o0.ext E14
  replace F_slots_o0 := F_slots_o0.ext E14
  replace F_low_o0 := F_low_o0.ext E14
  replace F_high_o0 := F_high_o0.ext E14
  replace S_DEFAULTCAPACITY_EMPTY_ELEMENTDATA := S_DEFAULTCAPACITY_EMPTY_ELEMENTDATA.ext E14
  replace E_b2 := E_b2.ext E14
  replace F_modCount_b2 := F_modCount_b2.ext E14
  replace F_elementData_b2 := F_elementData_b2.ext E14
  replace E_b5 := E_b5.ext E14
  replace F_modCount_b5 := F_modCount_b5.ext E14
  replace F_elementData_b5 := F_elementData_b5.ext E14
  replace E_b8 := E_b8.ext E14
  replace F_modCount_b8 := F_modCount_b8.ext E14
  replace F_elementData_b8 := F_elementData_b8.ext E14
  replace E_b11 := E_b11.ext E14
  have Zz14 := Nat.le_trans Zz13 E14.1
  have Kk14 := Kk13.ext E14
  have V_b14 : Arv Z h14 b14 k14 .int (0 : Int32) [] (.int (0 : Int32)) := (Arv.new A14 (by decide))
  refine go st14 ?_
  show Goes p.tables e below _ (T14.setTop (mkF m 52 #[.val (.ref o0)] [(.ref b14), (.ref o0)]))
  obtain ⟨T15, h15, X15, e15, W15, st15⟩ := putF X14 hx hZ hown (host := "") (Or.inl (hw _ (List.mem_of_getElem? (i := 58) rfl))) Via.refl e14 F_low_o0 E_o0 (Or.inl (hw _ (List.mem_of_getElem? (i := 59) rfl))) (hw _ (List.mem_of_getElem? (i := 2) rfl)) (ty := (.array .int)) (by decide) rfl rfl (g := (mkF m 52 #[.val (.ref o0)] [(.ref b14), (.ref o0)])) rfl rfl (hb hby d1_52)
  replace F_low_o0 := F_low_o0.same W15
  replace E_o0 := E_o0.wr W15
  replace F_names_o0 := F_names_o0.other W15 (Or.inr (slot_ne (Or.inr (hw _ (List.mem_of_getElem? (i := 35) rfl))) (Or.inl (hw _ (List.mem_of_getElem? (i := 59) rfl))) (by decide) (t := (.object "java/util/List")) (t' := (.array .int)) (by decide) (by decide)))
  replace F_types_o0 := F_types_o0.other W15 (Or.inr (slot_ne (Or.inr (hw _ (List.mem_of_getElem? (i := 37) rfl))) (Or.inl (hw _ (List.mem_of_getElem? (i := 59) rfl))) (by decide) (t := (.object "java/util/List")) (t' := (.array .int)) (by decide) (by decide)))
  replace F_owners_o0 := F_owners_o0.other W15 (Or.inr (slot_ne (Or.inr (hw _ (List.mem_of_getElem? (i := 39) rfl))) (Or.inl (hw _ (List.mem_of_getElem? (i := 59) rfl))) (by decide) (t := (.object "java/util/List")) (t' := (.array .int)) (by decide) (by decide)))
  replace F_slots_o0 := F_slots_o0.other W15 (Or.inr (slot_ne (Or.inr (hw _ (List.mem_of_getElem? (i := 57) rfl))) (Or.inl (hw _ (List.mem_of_getElem? (i := 59) rfl))) (by decide) (t := (.object "java/util/Map")) (t' := (.array .int)) (by decide) (by decide)))
  replace F_high_o0 := F_high_o0.other W15 (Or.inr (slot_ne (Or.inl (hw _ (List.mem_of_getElem? (i := 61) rfl))) (Or.inl (hw _ (List.mem_of_getElem? (i := 59) rfl))) (by decide) (t := (.array .int)) (t' := (.array .int)) (by decide) (by decide)))
  replace S_DEFAULTCAPACITY_EMPTY_ELEMENTDATA := S_DEFAULTCAPACITY_EMPTY_ELEMENTDATA.wr W15
  replace E_b2 := E_b2.wr W15
  replace F_modCount_b2 := F_modCount_b2.other W15 (Or.inl (Ne.symm ne_o0_b2))
  replace F_elementData_b2 := F_elementData_b2.other W15 (Or.inl (Ne.symm ne_o0_b2))
  replace E_b5 := E_b5.wr W15
  replace F_modCount_b5 := F_modCount_b5.other W15 (Or.inl (Ne.symm ne_o0_b5))
  replace F_elementData_b5 := F_elementData_b5.other W15 (Or.inl (Ne.symm ne_o0_b5))
  replace E_b8 := E_b8.wr W15
  replace F_modCount_b8 := F_modCount_b8.other W15 (Or.inl (Ne.symm ne_o0_b8))
  replace F_elementData_b8 := F_elementData_b8.other W15 (Or.inl (Ne.symm ne_o0_b8))
  replace E_b11 := E_b11.wr W15
  replace V_b14 := V_b14.other W15 (Ne.symm ne_o0_b14)
  have Zz15 := Nat.le_trans Zz14 (Keep.of_wr W15).1
  have Kk15 := Kk14.wr W15 (Or.inl (List.mem_of_getElem? (i := 0) rfl))
  have N15 := Fr.snoc X15 N13 g_o0
  refine go st15 ?_
  show Goes p.tables e below _ (T15.setTop (mkF m 55 #[.val (.ref o0)] []))
  refine go (fun t kt => XS.aloadN X15.here hx rfl (hb hby d1_55) rfl rfl kt) ?_
  show Goes p.tables e below _ (T15.setTop (mkF m 56 #[.val (.ref o0)] [(.ref o0)]))
  refine go (fun t kt => XS.iconst X15.here hx rfl (hb hby d1_56) kt) ?_
  show Goes p.tables e below _ (T15.setTop (mkF m 57 #[.val (.ref o0)] [(.int (0 : Int32)), (.ref o0)]))
  obtain ⟨T16, h16, k16, X16, e16, E16, A16, st16⟩ := newP X15 hx hZ (hw _ (List.mem_of_getElem? (i := 0) rfl)) e15 (g := (mkF m 57 #[.val (.ref o0)] [(.int (0 : Int32)), (.ref o0)])) rfl (hb hby d1_57) rfl (by decide) (cap := 0) (by decide) (by decide) (by decide) (by decide)
  obtain ⟨b16, g16⟩ : ∃ z, z = h15.size := ⟨_, rfl⟩
  rw [← g16] at A16 st16
  have ne_o0_b16 : o0 ≠ b16 := Nat.ne_of_lt (Nat.lt_of_lt_of_le E_o0.lt (Nat.le_of_eq g16.symm))
  have ne_b2_b16 : b2 ≠ b16 := Nat.ne_of_lt (Nat.lt_of_lt_of_le E_b2.lt (Nat.le_of_eq g16.symm))
  have ne_b5_b16 : b5 ≠ b16 := Nat.ne_of_lt (Nat.lt_of_lt_of_le E_b5.lt (Nat.le_of_eq g16.symm))
  have ne_b8_b16 : b8 ≠ b16 := Nat.ne_of_lt (Nat.lt_of_lt_of_le E_b8.lt (Nat.le_of_eq g16.symm))
  have ne_b11_b16 : b11 ≠ b16 := Nat.ne_of_lt (Nat.lt_of_lt_of_le E_b11.lt (Nat.le_of_eq g16.symm))
  have ne_b14_b16 : b14 ≠ b16 := Nat.ne_of_lt (Nat.lt_of_lt_of_le V_b14.lt (Nat.le_of_eq g16.symm))
  have g_b16 : n0 ≤ b16 := Nat.le_trans Zz15 (Nat.le_of_eq g16.symm)
  have sz_b16 : h0.size ≤ b16 := Nat.le_trans Kk15.1 (Nat.le_of_eq g16.symm)
  replace E_o0 := E_o0.ext E16
  replace F_names_o0 := F_names_o0.ext E16
  replace F_types_o0 := F_types_o0.ext E16
  replace F_owners_o0 := F_owners_o0.ext E16
  replace F_slots_o0 := F_slots_o0.ext E16
  replace F_low_o0 := F_low_o0.ext E16
  replace F_high_o0 := F_high_o0.ext E16
  replace S_DEFAULTCAPACITY_EMPTY_ELEMENTDATA := S_DEFAULTCAPACITY_EMPTY_ELEMENTDATA.ext E16
  replace E_b2 := E_b2.ext E16
  replace F_modCount_b2 := F_modCount_b2.ext E16
  replace F_elementData_b2 := F_elementData_b2.ext E16
  replace E_b5 := E_b5.ext E16
  replace F_modCount_b5 := F_modCount_b5.ext E16
  replace F_elementData_b5 := F_elementData_b5.ext E16
  replace E_b8 := E_b8.ext E16
  replace F_modCount_b8 := F_modCount_b8.ext E16
  replace F_elementData_b8 := F_elementData_b8.ext E16
  replace E_b11 := E_b11.ext E16
  replace V_b14 := V_b14.ext E16
  have Zz16 := Nat.le_trans Zz15 E16.1
  have Kk16 := Kk15.ext E16
  have V_b16 : Arv Z h16 b16 k16 .int (0 : Int32) [] (.int (0 : Int32)) := (Arv.new A16 (by decide))
  refine go st16 ?_
  show Goes p.tables e below _ (T16.setTop (mkF m 59 #[.val (.ref o0)] [(.ref b16), (.ref o0)]))
  obtain ⟨T17, h17, X17, e17, W17, st17⟩ := putF X16 hx hZ hown (host := "") (Or.inl (hw _ (List.mem_of_getElem? (i := 60) rfl))) Via.refl e16 F_high_o0 E_o0 (Or.inl (hw _ (List.mem_of_getElem? (i := 61) rfl))) (hw _ (List.mem_of_getElem? (i := 2) rfl)) (ty := (.array .int)) (by decide) rfl rfl (g := (mkF m 59 #[.val (.ref o0)] [(.ref b16), (.ref o0)])) rfl rfl (hb hby d1_59)
  replace F_high_o0 := F_high_o0.same W17
  replace E_o0 := E_o0.wr W17
  replace F_names_o0 := F_names_o0.other W17 (Or.inr (slot_ne (Or.inr (hw _ (List.mem_of_getElem? (i := 35) rfl))) (Or.inl (hw _ (List.mem_of_getElem? (i := 61) rfl))) (by decide) (t := (.object "java/util/List")) (t' := (.array .int)) (by decide) (by decide)))
  replace F_types_o0 := F_types_o0.other W17 (Or.inr (slot_ne (Or.inr (hw _ (List.mem_of_getElem? (i := 37) rfl))) (Or.inl (hw _ (List.mem_of_getElem? (i := 61) rfl))) (by decide) (t := (.object "java/util/List")) (t' := (.array .int)) (by decide) (by decide)))
  replace F_owners_o0 := F_owners_o0.other W17 (Or.inr (slot_ne (Or.inr (hw _ (List.mem_of_getElem? (i := 39) rfl))) (Or.inl (hw _ (List.mem_of_getElem? (i := 61) rfl))) (by decide) (t := (.object "java/util/List")) (t' := (.array .int)) (by decide) (by decide)))
  replace F_slots_o0 := F_slots_o0.other W17 (Or.inr (slot_ne (Or.inr (hw _ (List.mem_of_getElem? (i := 57) rfl))) (Or.inl (hw _ (List.mem_of_getElem? (i := 61) rfl))) (by decide) (t := (.object "java/util/Map")) (t' := (.array .int)) (by decide) (by decide)))
  replace F_low_o0 := F_low_o0.other W17 (Or.inr (slot_ne (Or.inl (hw _ (List.mem_of_getElem? (i := 59) rfl))) (Or.inl (hw _ (List.mem_of_getElem? (i := 61) rfl))) (by decide) (t := (.array .int)) (t' := (.array .int)) (by decide) (by decide)))
  replace S_DEFAULTCAPACITY_EMPTY_ELEMENTDATA := S_DEFAULTCAPACITY_EMPTY_ELEMENTDATA.wr W17
  replace E_b2 := E_b2.wr W17
  replace F_modCount_b2 := F_modCount_b2.other W17 (Or.inl (Ne.symm ne_o0_b2))
  replace F_elementData_b2 := F_elementData_b2.other W17 (Or.inl (Ne.symm ne_o0_b2))
  replace E_b5 := E_b5.wr W17
  replace F_modCount_b5 := F_modCount_b5.other W17 (Or.inl (Ne.symm ne_o0_b5))
  replace F_elementData_b5 := F_elementData_b5.other W17 (Or.inl (Ne.symm ne_o0_b5))
  replace E_b8 := E_b8.wr W17
  replace F_modCount_b8 := F_modCount_b8.other W17 (Or.inl (Ne.symm ne_o0_b8))
  replace F_elementData_b8 := F_elementData_b8.other W17 (Or.inl (Ne.symm ne_o0_b8))
  replace E_b11 := E_b11.wr W17
  replace V_b14 := V_b14.other W17 (Ne.symm ne_o0_b14)
  replace V_b16 := V_b16.other W17 (Ne.symm ne_o0_b16)
  have Zz17 := Nat.le_trans Zz16 (Keep.of_wr W17).1
  have Kk17 := Kk16.wr W17 (Or.inl (List.mem_of_getElem? (i := 0) rfl))
  have N17 := Fr.snoc X17 N15 g_o0
  refine go st17 ?_
  show Goes p.tables e below _ (T17.setTop (mkF m 62 #[.val (.ref o0)] []))
  obtain ⟨fs, hr, hrun, hended, hW, hsame⟩ := X17.leave (v := none) (fun _ => rfl)
  refine ⟨_, _, X17.returnOut hx Bd.returns (hb hby d1_62) hr, hrun, hended, _, _, rfl, ?_, ⟨_, rfl⟩, hW, hsame.mono (by decide) (by decide)⟩
  show Q1 Z o0 u0 u1 u2 u3 u4 u5 sd h0 n0 _ T17.heap _
  rw [e17]
  exact ⟨rfl, N17, Kk17, E_o0, ⟨_, F_low_o0⟩, ⟨_, F_high_o0⟩⟩
theorem d8_0 : decode prog_88_method_3_code 0 = .ok (.aload_n 0, 1) := by decide +kernel
theorem d8_1 : decode prog_88_method_3_code 1 = .ok (.aload_n 1, 1) := by decide +kernel
theorem d8_2 : decode prog_88_method_3_code 2 = .ok (.invokevirtual 58, 3) := by decide +kernel
theorem d8_5 : decode prog_88_method_3_code 5 = .ok (.checkcast 59, 3) := by decide +kernel
theorem d8_8 : decode prog_88_method_3_code 8 = .ok (.putfield 29, 3) := by decide +kernel
theorem d8_11 : decode prog_88_method_3_code 11 = .ok (.aload_n 0, 1) := by decide +kernel
theorem d8_12 : decode prog_88_method_3_code 12 = .ok (.aload_n 2, 1) := by decide +kernel
theorem d8_13 : decode prog_88_method_3_code 13 = .ok (.invokevirtual 58, 3) := by decide +kernel
theorem d8_16 : decode prog_88_method_3_code 16 = .ok (.checkcast 59, 3) := by decide +kernel
theorem d8_19 : decode prog_88_method_3_code 19 = .ok (.putfield 33, 3) := by decide +kernel
theorem d8_22 : decode prog_88_method_3_code 22 = .ok (.return_, 1) := by decide +kernel
theorem ef_8 (m : MethodId) (o0 : Addr) (o1 : Addr) (o2 : Addr) : entryFrame m #[(.ref o0), (.ref o1), (.ref o2)] 3 = mkF m 0 #[.val (.ref o0), .val (.ref o1), .val (.ref o2)] [] := by first | (simp [entryFrame, mkF, argsToLocals, Value.category]; done) | rfl
def Q8 (Z : State) (o0 : Addr) (o1 : Addr) (o2 : Addr) (ul : Value) (uh : Value) (k1 : ClassId) (z1 : Int32) (vs1 : List Value) (k2 : ClassId) (z2 : Int32) (vs2 : List Value) (h0 : Heap) (n0 : Nat) (v : Option Value) (h : Heap) (L : List Loc) : Prop := v = none ∧ Fr n0 L ∧ Keep h0 h [o0] ∧ Exa Z h o0 "com/example/anytime_arena/anytimearena/io/VariableTable" ∧ ∃ c1 c2 : Addr, h0.size ≤ c1 ∧ h0.size ≤ c2 ∧ c1 ≠ c2 ∧ Fld Z h o0 "com/example/anytime_arena/anytimearena/io/VariableTable" "low" "[I" (.ref c1) ∧ Fld Z h o0 "com/example/anytime_arena/anytimearena/io/VariableTable" "high" "[I" (.ref c2) ∧ Exa Z h c1 "[I" ∧ Arv Z h c1 k1 .int z1 vs1 (.int (0 : Int32)) ∧ Exa Z h c2 "[I" ∧ Arv Z h c2 k2 .int z2 vs2 (.int (0 : Int32))
set_option maxRecDepth 65536 in
set_option maxHeartbeats 40000000 in
theorem rm8 (l : Launch) (Z : State) (a0 : Array Value) (hw : ∀ d ∈ tables_1, d.before a0 Z = true) (ws : List Jvm.Cond) (o0 : Addr) (o1 : Addr) (o2 : Addr) (ul : Value) (uh : Value) (k1 : ClassId) (z1 : Int32) (vs1 : List Value) (k2 : ClassId) (z2 : Int32) (vs2 : List Value) (h0 : Heap) (n0 : Nat) (Z0 : n0 ≤ h0.size) (E_o0 : Exa Z h0 o0 "com/example/anytime_arena/anytimearena/io/VariableTable") (F_low_o0 : Fld Z h0 o0 "com/example/anytime_arena/anytimearena/io/VariableTable" "low" "[I" ul) (F_high_o0 : Fld Z h0 o0 "com/example/anytime_arena/anytimearena/io/VariableTable" "high" "[I" uh) (E_o1 : Exa Z h0 o1 "[I") (V_o1 : Arv Z h0 o1 k1 .int z1 vs1 (.int (0 : Int32))) (E_o2 : Exa Z h0 o2 "[I") (V_o2 : Arv Z h0 o2 k2 .int z2 vs2 (.int (0 : Int32))) (ne_o0_o1 : o0 ≠ o1) (ne_o0_o2 : o0 ≠ o2) (g_o0 : n0 ≤ o0) (hz1 : z1.toNatClampNeg ≤ 2) (hz2 : z2.toNatClampNeg ≤ 2) :
    MetFree l (⟨"com/example/anytime_arena/anytimearena/io/VariableTable", "setRanges", "([I[I)V"⟩ : MethodName) (head1 (Jvm.Cond.code (⟨"com/example/anytime_arena/anytimearena/io/VariableTable", "setRanges", "([I[I)V"⟩ : MethodName) prog_88_method_3_code 3 none :: ws) ({ frames := 1, cells := 2, slots := 4, locals := 15 } : Room)) (fun a U => a = #[(.ref o0), (.ref o1), (.ref o2)] ∧ Z.Warmed39 U.vm ∧ U.heap = h0) (fun _ _ _ _ _ => True) (fun _ U o U' => ∃ v L, o = .returned v ∧ Q8 Z o0 o1 o2 ul uh k1 z1 vs1 k2 z2 vs2 h0 n0 v U'.heap L ∧ FrameEnd U o U' L ({ frames := 1, cells := 2, slots := 4, locals := 15 } : Room).cells ({ frames := 1, cells := 2, slots := 4, locals := 15 } : Room).slots) := by
  refine MetFree.of_bodySF (plainFor_of_name pn_1) hisR ?_
  intro p e s m args below meth c s₁ Bd hml0 hP hK
  obtain ⟨rfl, hZ, hh⟩ := hP
  have hx := Bd.exec
  have hby := Bd.bytes
  have hml : c.maxLocals = 3 := hml0
  have hown : s.vm.findClass "com/example/anytime_arena/anytimearena/io/VariableTable" = some m.cls := findClass_of_methodNamed Bd.named
  have hnm := (name_of_methodNamed Bd.named Bd.method).1
  have X0 : Stand p l e ({ frames := 1, cells := 2, slots := 4, locals := 15 } : Room) s m #[(.ref o0), (.ref o1), (.ref o2)] below meth c s₁ [] 0 0 := Stand.of_body Bd
  have e0 : s₁.heap = h0 := by rw [← hh, Bd.state]; rfl
  have N0 := Fr.nil n0
  have K0 := Keep.refl h0 [o0]
  suffices hgo : Goes p.tables e below (fun s₂ o => ∃ v L, o = .returned v ∧ Q8 Z o0 o1 o2 ul uh k1 z1 vs1 k2 z2 vs2 h0 n0 v s₂.heap L ∧ FrameEnd s o s₂ L ({ frames := 1, cells := 2, slots := 4, locals := 15 } : Room).cells ({ frames := 1, cells := 2, slots := 4, locals := 15 } : Room).slots) (s₁.setTop (mkF m 0 #[.val (.ref o0), .val (.ref o1), .val (.ref o2)] [])) from goEnd (fun t k => castTop (ef_8 m o0 o1 o2) k) hgo
  refine go (fun t kt => XS.aloadN X0.here hx rfl (hb hby d8_0) rfl rfl kt) ?_
  show Goes p.tables e below _ (s₁.setTop (mkF m 1 #[.val (.ref o0), .val (.ref o1), .val (.ref o2)] [(.ref o0)]))
  refine go (fun t kt => XS.aloadN X0.here hx rfl (hb hby d8_1) rfl rfl kt) ?_
  show Goes p.tables e below _ (s₁.setTop (mkF m 2 #[.val (.ref o0), .val (.ref o1), .val (.ref o2)] [(.ref o1), (.ref o0)]))
  obtain ⟨cl1, Ar1, q1, S1, M1, H1, G1⟩ := id V_o1
  have FC1 := fitC_of Ar1 (fun i hi v hv => by rw [H1 i hi] at hv; cases hv; exact G1 i hi)
  obtain ⟨T1, h1, X1, e1, E1, A1, B1, st1⟩ := cloneA X0 hx hZ hown (hw _ (List.mem_of_getElem? (i := 67) rfl)) (hw _ (List.mem_of_getElem? (i := 68) rfl)) (hw _ (List.mem_of_getElem? (i := 72) rfl)) (hw _ (List.mem_of_getElem? (i := 70) rfl)) (hw _ (List.mem_of_getElem? (i := 71) rfl)) (hw _ (List.mem_of_getElem? (i := 73) rfl)) e0 Ar1 E_o1 FC1 (g := (mkF m 2 #[.val (.ref o0), .val (.ref o1), .val (.ref o2)] [(.ref o1), (.ref o0)])) rfl (by rw [hml]; rfl) rfl (hb hby d8_2) (by decide) (W := 1) (cap := 2) (by show 2 * 0 + _ ≤ _; exact Nat.le_of_eq rfl) (by decide) (by rw [S1]; exact hz1) (by decide) (by decide)
  obtain ⟨b1, g1⟩ : ∃ z, z = h0.size := ⟨_, rfl⟩
  rw [← g1] at A1 B1 st1
  have ne_o0_b1 : o0 ≠ b1 := Nat.ne_of_lt (Nat.lt_of_lt_of_le E_o0.lt (Nat.le_of_eq g1.symm))
  have ne_o1_b1 : o1 ≠ b1 := Nat.ne_of_lt (Nat.lt_of_lt_of_le E_o1.lt (Nat.le_of_eq g1.symm))
  have ne_o2_b1 : o2 ≠ b1 := Nat.ne_of_lt (Nat.lt_of_lt_of_le E_o2.lt (Nat.le_of_eq g1.symm))
  have g_b1 : n0 ≤ b1 := Nat.le_trans Z0 (Nat.le_of_eq g1.symm)
  have sz_b1 : h0.size ≤ b1 := Nat.le_trans K0.1 (Nat.le_of_eq g1.symm)
  replace E_o0 := E_o0.ext E1
  replace F_low_o0 := F_low_o0.ext E1
  replace F_high_o0 := F_high_o0.ext E1
  replace E_o1 := E_o1.ext E1
  replace V_o1 := V_o1.ext E1
  replace E_o2 := E_o2.ext E1
  replace V_o2 := V_o2.ext E1
  have Zz1 := Nat.le_trans Z0 E1.1
  have Kk1 := K0.ext E1
  have E_b1 := B1
  have V_b1 : Arv Z h1 b1 k1 .int z1 vs1 (.int (0 : Int32)) := ⟨cloneOf cl1, A1, q1, S1, M1, H1, G1⟩
  refine go st1 ?_
  show Goes p.tables e below _ (T1.setTop (mkF m 5 #[.val (.ref o0), .val (.ref o1), .val (.ref o2)] [(.ref b1), (.ref o0)]))
  obtain ⟨T2, X2, e2, st2⟩ := castY X1 hx hZ hown (hw _ (List.mem_of_getElem? (i := 74) rfl)) e1 (Ins.self E_b1) (g := (mkF m 5 #[.val (.ref o0), .val (.ref o1), .val (.ref o2)] [(.ref b1), (.ref o0)])) rfl rfl (hb hby d8_5)
  refine go st2 ?_
  show Goes p.tables e below _ (T2.setTop (mkF m 8 #[.val (.ref o0), .val (.ref o1), .val (.ref o2)] [(.ref b1), (.ref o0)]))
  obtain ⟨T3, h3, X3, e3, W3, st3⟩ := putF X2 hx hZ hown (host := "") (Or.inl (hw _ (List.mem_of_getElem? (i := 58) rfl))) Via.refl e2 F_low_o0 E_o0 (Or.inl (hw _ (List.mem_of_getElem? (i := 59) rfl))) (hw _ (List.mem_of_getElem? (i := 2) rfl)) (ty := (.array .int)) (by decide) rfl rfl (g := (mkF m 8 #[.val (.ref o0), .val (.ref o1), .val (.ref o2)] [(.ref b1), (.ref o0)])) rfl rfl (hb hby d8_8)
  replace F_low_o0 := F_low_o0.same W3
  replace E_o0 := E_o0.wr W3
  replace F_high_o0 := F_high_o0.other W3 (Or.inr (slot_ne (Or.inl (hw _ (List.mem_of_getElem? (i := 61) rfl))) (Or.inl (hw _ (List.mem_of_getElem? (i := 59) rfl))) (by decide) (t := (.array .int)) (t' := (.array .int)) (by decide) (by decide)))
  replace E_o1 := E_o1.wr W3
  replace V_o1 := V_o1.other W3 (Ne.symm ne_o0_o1)
  replace E_o2 := E_o2.wr W3
  replace V_o2 := V_o2.other W3 (Ne.symm ne_o0_o2)
  replace E_b1 := E_b1.wr W3
  replace V_b1 := V_b1.other W3 (Ne.symm ne_o0_b1)
  have Zz3 := Nat.le_trans Zz1 (Keep.of_wr W3).1
  have Kk3 := Kk1.wr W3 (Or.inl (List.mem_of_getElem? (i := 0) rfl))
  have N3 := Fr.snoc X3 N0 g_o0
  refine go st3 ?_
  show Goes p.tables e below _ (T3.setTop (mkF m 11 #[.val (.ref o0), .val (.ref o1), .val (.ref o2)] []))
  refine go (fun t kt => XS.aloadN X3.here hx rfl (hb hby d8_11) rfl rfl kt) ?_
  show Goes p.tables e below _ (T3.setTop (mkF m 12 #[.val (.ref o0), .val (.ref o1), .val (.ref o2)] [(.ref o0)]))
  refine go (fun t kt => XS.aloadN X3.here hx rfl (hb hby d8_12) rfl rfl kt) ?_
  show Goes p.tables e below _ (T3.setTop (mkF m 13 #[.val (.ref o0), .val (.ref o1), .val (.ref o2)] [(.ref o2), (.ref o0)]))
  obtain ⟨cl4, Ar4, q4, S4, M4, H4, G4⟩ := id V_o2
  have FC4 := fitC_of Ar4 (fun i hi v hv => by rw [H4 i hi] at hv; cases hv; exact G4 i hi)
  obtain ⟨T4, h4, X4, e4, E4, A4, B4, st4⟩ := cloneA X3 hx hZ hown (hw _ (List.mem_of_getElem? (i := 67) rfl)) (hw _ (List.mem_of_getElem? (i := 68) rfl)) (hw _ (List.mem_of_getElem? (i := 72) rfl)) (hw _ (List.mem_of_getElem? (i := 70) rfl)) (hw _ (List.mem_of_getElem? (i := 71) rfl)) (hw _ (List.mem_of_getElem? (i := 73) rfl)) e3 Ar4 E_o2 FC4 (g := (mkF m 13 #[.val (.ref o0), .val (.ref o1), .val (.ref o2)] [(.ref o2), (.ref o0)])) rfl (by rw [hml]; rfl) rfl (hb hby d8_13) (by decide) (W := 1) (cap := 2) (by show 2 * 0 + _ ≤ _; exact Nat.le_of_eq rfl) (by decide) (by rw [S4]; exact hz2) (by decide) (by decide)
  obtain ⟨b4, g4⟩ : ∃ z, z = h3.size := ⟨_, rfl⟩
  rw [← g4] at A4 B4 st4
  have ne_o0_b4 : o0 ≠ b4 := Nat.ne_of_lt (Nat.lt_of_lt_of_le E_o0.lt (Nat.le_of_eq g4.symm))
  have ne_o1_b4 : o1 ≠ b4 := Nat.ne_of_lt (Nat.lt_of_lt_of_le E_o1.lt (Nat.le_of_eq g4.symm))
  have ne_o2_b4 : o2 ≠ b4 := Nat.ne_of_lt (Nat.lt_of_lt_of_le E_o2.lt (Nat.le_of_eq g4.symm))
  have ne_b1_b4 : b1 ≠ b4 := Nat.ne_of_lt (Nat.lt_of_lt_of_le E_b1.lt (Nat.le_of_eq g4.symm))
  have g_b4 : n0 ≤ b4 := Nat.le_trans Zz3 (Nat.le_of_eq g4.symm)
  have sz_b4 : h0.size ≤ b4 := Nat.le_trans Kk3.1 (Nat.le_of_eq g4.symm)
  replace E_o0 := E_o0.ext E4
  replace F_low_o0 := F_low_o0.ext E4
  replace F_high_o0 := F_high_o0.ext E4
  replace E_o1 := E_o1.ext E4
  replace V_o1 := V_o1.ext E4
  replace E_o2 := E_o2.ext E4
  replace V_o2 := V_o2.ext E4
  replace E_b1 := E_b1.ext E4
  replace V_b1 := V_b1.ext E4
  have Zz4 := Nat.le_trans Zz3 E4.1
  have Kk4 := Kk3.ext E4
  have E_b4 := B4
  have V_b4 : Arv Z h4 b4 k2 .int z2 vs2 (.int (0 : Int32)) := ⟨cloneOf cl4, A4, q4, S4, M4, H4, G4⟩
  refine go st4 ?_
  show Goes p.tables e below _ (T4.setTop (mkF m 16 #[.val (.ref o0), .val (.ref o1), .val (.ref o2)] [(.ref b4), (.ref o0)]))
  obtain ⟨T5, X5, e5, st5⟩ := castY X4 hx hZ hown (hw _ (List.mem_of_getElem? (i := 74) rfl)) e4 (Ins.self E_b4) (g := (mkF m 16 #[.val (.ref o0), .val (.ref o1), .val (.ref o2)] [(.ref b4), (.ref o0)])) rfl rfl (hb hby d8_16)
  refine go st5 ?_
  show Goes p.tables e below _ (T5.setTop (mkF m 19 #[.val (.ref o0), .val (.ref o1), .val (.ref o2)] [(.ref b4), (.ref o0)]))
  obtain ⟨T6, h6, X6, e6, W6, st6⟩ := putF X5 hx hZ hown (host := "") (Or.inl (hw _ (List.mem_of_getElem? (i := 60) rfl))) Via.refl e5 F_high_o0 E_o0 (Or.inl (hw _ (List.mem_of_getElem? (i := 61) rfl))) (hw _ (List.mem_of_getElem? (i := 2) rfl)) (ty := (.array .int)) (by decide) rfl rfl (g := (mkF m 19 #[.val (.ref o0), .val (.ref o1), .val (.ref o2)] [(.ref b4), (.ref o0)])) rfl rfl (hb hby d8_19)
  replace F_high_o0 := F_high_o0.same W6
  replace E_o0 := E_o0.wr W6
  replace F_low_o0 := F_low_o0.other W6 (Or.inr (slot_ne (Or.inl (hw _ (List.mem_of_getElem? (i := 59) rfl))) (Or.inl (hw _ (List.mem_of_getElem? (i := 61) rfl))) (by decide) (t := (.array .int)) (t' := (.array .int)) (by decide) (by decide)))
  replace E_o1 := E_o1.wr W6
  replace V_o1 := V_o1.other W6 (Ne.symm ne_o0_o1)
  replace E_o2 := E_o2.wr W6
  replace V_o2 := V_o2.other W6 (Ne.symm ne_o0_o2)
  replace E_b1 := E_b1.wr W6
  replace V_b1 := V_b1.other W6 (Ne.symm ne_o0_b1)
  replace E_b4 := E_b4.wr W6
  replace V_b4 := V_b4.other W6 (Ne.symm ne_o0_b4)
  have Zz6 := Nat.le_trans Zz4 (Keep.of_wr W6).1
  have Kk6 := Kk4.wr W6 (Or.inl (List.mem_of_getElem? (i := 0) rfl))
  have N6 := Fr.snoc X6 N3 g_o0
  refine go st6 ?_
  show Goes p.tables e below _ (T6.setTop (mkF m 22 #[.val (.ref o0), .val (.ref o1), .val (.ref o2)] []))
  obtain ⟨fs, hr, hrun, hended, hW, hsame⟩ := X6.leave (v := none) (fun _ => rfl)
  refine ⟨_, _, X6.returnOut hx Bd.returns (hb hby d8_22) hr, hrun, hended, _, _, rfl, ?_, ⟨_, rfl⟩, hW, hsame.mono (by decide) (by decide)⟩
  show Q8 Z o0 o1 o2 ul uh k1 z1 vs1 k2 z2 vs2 h0 n0 _ T6.heap _
  rw [e6]
  exact ⟨rfl, N6, Kk6, E_o0, b1, b4, sz_b1, sz_b4, ne_b1_b4, F_low_o0, F_high_o0, E_b1, V_b1, E_b4, V_b4⟩
theorem d9_0 : decode prog_88_method_11_code 0 = .ok (.iload_n 2, 1) := by decide +kernel
theorem d9_1 : decode prog_88_method_11_code 1 = .ok (.aload_n 0, 1) := by decide +kernel
theorem d9_2 : decode prog_88_method_11_code 2 = .ok (.getfield 29, 3) := by decide +kernel
theorem d9_5 : decode prog_88_method_11_code 5 = .ok (.iload_n 1, 1) := by decide +kernel
theorem d9_6 : decode prog_88_method_11_code 6 = .ok (.iaload, 1) := by decide +kernel
theorem d9_7 : decode prog_88_method_11_code 7 = .ok (.if_icmp .lt 17, 3) := by decide +kernel
theorem d9_24 : decode prog_88_method_11_code 24 = .ok (.iconst 0, 1) := by decide +kernel
theorem d9_25 : decode prog_88_method_11_code 25 = .ok (.ireturn, 1) := by decide +kernel
theorem d9_10 : decode prog_88_method_11_code 10 = .ok (.iload_n 2, 1) := by decide +kernel
theorem d9_11 : decode prog_88_method_11_code 11 = .ok (.aload_n 0, 1) := by decide +kernel
theorem d9_12 : decode prog_88_method_11_code 12 = .ok (.getfield 33, 3) := by decide +kernel
theorem d9_15 : decode prog_88_method_11_code 15 = .ok (.iload_n 1, 1) := by decide +kernel
theorem d9_16 : decode prog_88_method_11_code 16 = .ok (.iaload, 1) := by decide +kernel
theorem d9_17 : decode prog_88_method_11_code 17 = .ok (.if_icmp .gt 7, 3) := by decide +kernel
theorem d9_20 : decode prog_88_method_11_code 20 = .ok (.iconst 1, 1) := by decide +kernel
theorem d9_21 : decode prog_88_method_11_code 21 = .ok (.goto 4, 3) := by decide +kernel
def own_inR (p2 : Int32) (x1 : Int32) (x2 : Int32) : Int32 := (if p2 < x1 then (0 : Int32) else (if x2 < p2 then (0 : Int32) else (1 : Int32)))
theorem ef_9 (m : MethodId) (o0 : Addr) (p1 : Int32) (p2 : Int32) : entryFrame m #[(.ref o0), (.int p1), (.int p2)] 3 = mkF m 0 #[.val (.ref o0), .val (.int p1), .val (.int p2)] [] := by first | (simp [entryFrame, mkF, argsToLocals, Value.category]; done) | rfl
def Q9 (Z : State) (o0 : Addr) (p1 : Int32) (p2 : Int32) (c1 : Addr) (c2 : Addr) (k1 : ClassId) (z1 : Int32) (vs1 : List Value) (k2 : ClassId) (z2 : Int32) (vs2 : List Value) (x1 : Int32) (x2 : Int32) (h0 : Heap) (n0 : Nat) (v : Option Value) (h : Heap) (L : List Loc) : Prop := v = some (.int (own_inR p2 x1 x2)) ∧ Fr n0 L ∧ h = h0
set_option maxRecDepth 65536 in
set_option maxHeartbeats 40000000 in
theorem rm9 (l : Launch) (Z : State) (a0 : Array Value) (hw : ∀ d ∈ tables_1, d.before a0 Z = true) (ws : List Jvm.Cond) (o0 : Addr) (p1 : Int32) (p2 : Int32) (c1 : Addr) (c2 : Addr) (k1 : ClassId) (z1 : Int32) (vs1 : List Value) (k2 : ClassId) (z2 : Int32) (vs2 : List Value) (x1 : Int32) (x2 : Int32) (h0 : Heap) (n0 : Nat) (Z0 : n0 ≤ h0.size) (F_low_o0 : Fld Z h0 o0 "com/example/anytime_arena/anytimearena/io/VariableTable" "low" "[I" (.ref c1)) (F_high_o0 : Fld Z h0 o0 "com/example/anytime_arena/anytimearena/io/VariableTable" "high" "[I" (.ref c2)) (V_c1 : Arv Z h0 c1 k1 .int z1 vs1 (.int (0 : Int32))) (V_c2 : Arv Z h0 c2 k2 .int z2 vs2 (.int (0 : Int32))) (hi1 : ¬ p1 < 0 ∧ p1 < z1) (hi2 : ¬ p1 < 0 ∧ p1 < z2) (hv1 : vs1.getD p1.toNatClampNeg (.int (0 : Int32)) = (.int x1)) (hv2 : vs2.getD p1.toNatClampNeg (.int (0 : Int32)) = (.int x2)) :
    MetFree l (⟨"com/example/anytime_arena/anytimearena/io/VariableTable", "inRange", "(II)Z"⟩ : MethodName) (head1 (Jvm.Cond.code (⟨"com/example/anytime_arena/anytimearena/io/VariableTable", "inRange", "(II)Z"⟩ : MethodName) prog_88_method_11_code 3 (some .boolean) :: ws) ({ frames := 0, cells := 0, slots := 0, locals := 0 } : Room)) (fun a U => a = #[(.ref o0), (.int p1), (.int p2)] ∧ Z.Warmed39 U.vm ∧ U.heap = h0) (fun _ _ _ _ _ => True) (fun _ U o U' => ∃ v L, o = .returned v ∧ Q9 Z o0 p1 p2 c1 c2 k1 z1 vs1 k2 z2 vs2 x1 x2 h0 n0 v U'.heap L ∧ FrameEnd U o U' L ({ frames := 0, cells := 0, slots := 0, locals := 0 } : Room).cells ({ frames := 0, cells := 0, slots := 0, locals := 0 } : Room).slots) := by
  refine MetFree.of_bodySF (plainFor_of_name pn_1) hisR ?_
  intro p e s m args below meth c s₁ Bd hml0 hP hK
  obtain ⟨rfl, hZ, hh⟩ := hP
  have hx := Bd.exec
  have hby := Bd.bytes
  have hml : c.maxLocals = 3 := hml0
  have hown : s.vm.findClass "com/example/anytime_arena/anytimearena/io/VariableTable" = some m.cls := findClass_of_methodNamed Bd.named
  have hnm := (name_of_methodNamed Bd.named Bd.method).1
  have X0 : Stand p l e ({ frames := 0, cells := 0, slots := 0, locals := 0 } : Room) s m #[(.ref o0), (.int p1), (.int p2)] below meth c s₁ [] 0 0 := Stand.of_body Bd
  have e0 : s₁.heap = h0 := by rw [← hh, Bd.state]; rfl
  have N0 := Fr.nil n0
  have K0 := Keep.refl h0 []
  suffices hgo : Goes p.tables e below (fun s₂ o => ∃ v L, o = .returned v ∧ Q9 Z o0 p1 p2 c1 c2 k1 z1 vs1 k2 z2 vs2 x1 x2 h0 n0 v s₂.heap L ∧ FrameEnd s o s₂ L ({ frames := 0, cells := 0, slots := 0, locals := 0 } : Room).cells ({ frames := 0, cells := 0, slots := 0, locals := 0 } : Room).slots) (s₁.setTop (mkF m 0 #[.val (.ref o0), .val (.int p1), .val (.int p2)] [])) from goEnd (fun t k => castTop (ef_9 m o0 p1 p2) k) hgo
  refine go (fun t kt => XS.iloadN X0.here hx rfl (hb hby d9_0) rfl kt) ?_
  show Goes p.tables e below _ (s₁.setTop (mkF m 1 #[.val (.ref o0), .val (.int p1), .val (.int p2)] [(.int p2)]))
  refine go (fun t kt => XS.aloadN X0.here hx rfl (hb hby d9_1) rfl rfl kt) ?_
  show Goes p.tables e below _ (s₁.setTop (mkF m 2 #[.val (.ref o0), .val (.int p1), .val (.int p2)] [(.ref o0), (.int p2)]))
  obtain ⟨T1, X1, e1, st1⟩ := getF X0 hx hZ hown (host := "") (Or.inl (hw _ (List.mem_of_getElem? (i := 58) rfl))) Via.refl e0 F_low_o0 (g := (mkF m 2 #[.val (.ref o0), .val (.int p1), .val (.int p2)] [(.ref o0), (.int p2)])) rfl rfl (hb hby d9_2)
  refine go st1 ?_
  show Goes p.tables e below _ (T1.setTop (mkF m 5 #[.val (.ref o0), .val (.int p1), .val (.int p2)] [(.ref c1), (.int p2)]))
  refine go (fun t kt => XS.iloadN X1.here hx rfl (hb hby d9_5) rfl kt) ?_
  show Goes p.tables e below _ (T1.setTop (mkF m 6 #[.val (.ref o0), .val (.int p1), .val (.int p2)] [(.int p1), (.ref c1), (.int p2)]))
  obtain ⟨cl2, Ar2, q2, S2, M2, H2, G2⟩ := id V_c1
  have hin2 : ¬ (p1 < 0 ∨ cl2.slots.size ≤ (p1).toNatClampNeg) := inb_of S2 hi1
  have hat2 : cl2.slots[(p1).toNatClampNeg]? = some (.int x1) := H2.at hin2 hv1
  refine go (X1.iaload hx (j := p1) (v := (.int x1)) (by rw [e1]; exact Ar2.1) (State.isArrayOf_alike hZ.alike Ar2.2.1) Ar2.2.2 hin2 hat2 (g := (mkF m 6 #[.val (.ref o0), .val (.int p1), .val (.int p2)] [(.int p1), (.ref c1), (.int p2)])) rfl rfl (hb hby d9_6)) ?_
  show Goes p.tables e below _ (T1.setTop (mkF m 7 #[.val (.ref o0), .val (.int p1), .val (.int p2)] [(.int x1), (.int p2)]))
  by_cases hc3 : p2 < x1
  ·
    refine go (fun t kt => XS.icmpYes X1.here hx rfl (pc0 := 7) (pc' := 24) rfl (hb hby d9_7) rfl (tlt hc3).1 (by decide) (by decide) kt) ?_
    show Goes p.tables e below _ (T1.setTop (mkF m 24 #[.val (.ref o0), .val (.int p1), .val (.int p2)] []))
    refine go (fun t kt => XS.iconst X1.here hx rfl (hb hby d9_24) kt) ?_
    show Goes p.tables e below _ (T1.setTop (mkF m 25 #[.val (.ref o0), .val (.int p1), .val (.int p2)] [(.int (0 : Int32))]))
    obtain ⟨fs, hr, hrun, hended, hW, hsame⟩ := X1.leave (v := some (.int (0 : Int32))) (fun h => by rw [Bd.returns] at h; cases h)
    refine ⟨_, _, retN X1 hx (t := .boolean) Bd.returns (by simp) (hb hby d9_25) hr, hrun, hended, _, _, rfl, ?_, ⟨_, rfl⟩, hW, hsame.mono (by decide) (by decide)⟩
    show Q9 Z o0 p1 p2 c1 c2 k1 z1 vs1 k2 z2 vs2 x1 x2 h0 n0 _ T1.heap _
    rw [e1]
    exact ⟨(by unfold own_inR; rw [if_pos hc3]), N0, rfl⟩
  ·
    refine go (fun t kt => XS.icmpNo X1.here hx rfl (hb hby d9_7) rfl (flt hc3).1 kt) ?_
    show Goes p.tables e below _ (T1.setTop (mkF m 10 #[.val (.ref o0), .val (.int p1), .val (.int p2)] []))
    refine go (fun t kt => XS.iloadN X1.here hx rfl (hb hby d9_10) rfl kt) ?_
    show Goes p.tables e below _ (T1.setTop (mkF m 11 #[.val (.ref o0), .val (.int p1), .val (.int p2)] [(.int p2)]))
    refine go (fun t kt => XS.aloadN X1.here hx rfl (hb hby d9_11) rfl rfl kt) ?_
    show Goes p.tables e below _ (T1.setTop (mkF m 12 #[.val (.ref o0), .val (.int p1), .val (.int p2)] [(.ref o0), (.int p2)]))
    obtain ⟨T5, X5, e5, st5⟩ := getF X1 hx hZ hown (host := "") (Or.inl (hw _ (List.mem_of_getElem? (i := 60) rfl))) Via.refl e1 F_high_o0 (g := (mkF m 12 #[.val (.ref o0), .val (.int p1), .val (.int p2)] [(.ref o0), (.int p2)])) rfl rfl (hb hby d9_12)
    refine go st5 ?_
    show Goes p.tables e below _ (T5.setTop (mkF m 15 #[.val (.ref o0), .val (.int p1), .val (.int p2)] [(.ref c2), (.int p2)]))
    refine go (fun t kt => XS.iloadN X5.here hx rfl (hb hby d9_15) rfl kt) ?_
    show Goes p.tables e below _ (T5.setTop (mkF m 16 #[.val (.ref o0), .val (.int p1), .val (.int p2)] [(.int p1), (.ref c2), (.int p2)]))
    obtain ⟨cl6, Ar6, q6, S6, M6, H6, G6⟩ := id V_c2
    have hin6 : ¬ (p1 < 0 ∨ cl6.slots.size ≤ (p1).toNatClampNeg) := inb_of S6 hi2
    have hat6 : cl6.slots[(p1).toNatClampNeg]? = some (.int x2) := H6.at hin6 hv2
    refine go (X5.iaload hx (j := p1) (v := (.int x2)) (by rw [e5]; exact Ar6.1) (State.isArrayOf_alike hZ.alike Ar6.2.1) Ar6.2.2 hin6 hat6 (g := (mkF m 16 #[.val (.ref o0), .val (.int p1), .val (.int p2)] [(.int p1), (.ref c2), (.int p2)])) rfl rfl (hb hby d9_16)) ?_
    show Goes p.tables e below _ (T5.setTop (mkF m 17 #[.val (.ref o0), .val (.int p1), .val (.int p2)] [(.int x2), (.int p2)]))
    by_cases hc7 : x2 < p2
    ·
      refine go (fun t kt => XS.icmpYes X5.here hx rfl (pc0 := 17) (pc' := 24) rfl (hb hby d9_17) rfl (tlt hc7).2.2.1 (by decide) (by decide) kt) ?_
      show Goes p.tables e below _ (T5.setTop (mkF m 24 #[.val (.ref o0), .val (.int p1), .val (.int p2)] []))
      refine go (fun t kt => XS.iconst X5.here hx rfl (hb hby d9_24) kt) ?_
      show Goes p.tables e below _ (T5.setTop (mkF m 25 #[.val (.ref o0), .val (.int p1), .val (.int p2)] [(.int (0 : Int32))]))
      obtain ⟨fs, hr, hrun, hended, hW, hsame⟩ := X5.leave (v := some (.int (0 : Int32))) (fun h => by rw [Bd.returns] at h; cases h)
      refine ⟨_, _, retN X5 hx (t := .boolean) Bd.returns (by simp) (hb hby d9_25) hr, hrun, hended, _, _, rfl, ?_, ⟨_, rfl⟩, hW, hsame.mono (by decide) (by decide)⟩
      show Q9 Z o0 p1 p2 c1 c2 k1 z1 vs1 k2 z2 vs2 x1 x2 h0 n0 _ T5.heap _
      rw [e5]
      exact ⟨(by unfold own_inR; rw [if_neg hc3, if_pos hc7]), N0, rfl⟩
    ·
      refine go (fun t kt => XS.icmpNo X5.here hx rfl (hb hby d9_17) rfl (flt hc7).2.2.1 kt) ?_
      show Goes p.tables e below _ (T5.setTop (mkF m 20 #[.val (.ref o0), .val (.int p1), .val (.int p2)] []))
      refine go (fun t kt => XS.iconst X5.here hx rfl (hb hby d9_20) kt) ?_
      show Goes p.tables e below _ (T5.setTop (mkF m 21 #[.val (.ref o0), .val (.int p1), .val (.int p2)] [(.int (1 : Int32))]))
      refine go (fun t kt => XS.goto X5.here hx rfl (pc0 := 21) (pc' := 25) rfl (hb hby d9_21) (by decide) (by decide) kt) ?_
      show Goes p.tables e below _ (T5.setTop (mkF m 25 #[.val (.ref o0), .val (.int p1), .val (.int p2)] [(.int (1 : Int32))]))
      obtain ⟨fs, hr, hrun, hended, hW, hsame⟩ := X5.leave (v := some (.int (1 : Int32))) (fun h => by rw [Bd.returns] at h; cases h)
      refine ⟨_, _, retN X5 hx (t := .boolean) Bd.returns (by simp) (hb hby d9_25) hr, hrun, hended, _, _, rfl, ?_, ⟨_, rfl⟩, hW, hsame.mono (by decide) (by decide)⟩
      show Q9 Z o0 p1 p2 c1 c2 k1 z1 vs1 k2 z2 vs2 x1 x2 h0 n0 _ T5.heap _
      rw [e5]
      exact ⟨(by unfold own_inR; rw [if_neg hc3, if_neg hc7]), N0, rfl⟩
theorem own_r1 (f a b : Int32) (h : f < a) : own_inR f a b = 0 := by unfold own_inR; rw [if_pos h]
theorem own_r2 (f a b : Int32) (h : ¬ f < a) (h2 : b < f) : own_inR f a b = 0 := by unfold own_inR; rw [if_neg h, if_pos h2]
theorem own_r3 (f a b : Int32) (h : ¬ f < a) (h2 : ¬ b < f) : own_inR f a b = 1 := by unfold own_inR; rw [if_neg h, if_neg h2]
theorem own_c2 (x : Int32) : (x &&& 1) = 0 ∨ (x &&& 1) = 1 := and_one x
theorem own_sb (a b : Int32) : (a.toInt64 - b.toInt64) < 0 ↔ a < b := by
  have := a.toInt_lt; have := a.le_toInt; have := b.toInt_lt; have := b.le_toInt
  have e0 : (0 : Int64).toInt = 0 := rfl
  rw [Int64.lt_iff_toInt_lt, Int32.lt_iff_toInt_lt, Jvm.Kit.i64_sub (by rw [Jvm.Kit.i64_of_i32, Jvm.Kit.i64_of_i32]; omega) (by rw [Jvm.Kit.i64_of_i32, Jvm.Kit.i64_of_i32]; omega), Jvm.Kit.i64_of_i32, Jvm.Kit.i64_of_i32, e0]
  omega
theorem pd_1 : parseMethodDescriptor "([I[I)V" = some ⟨[(.array .int), (.array .int)], none⟩ := by decide +kernel
theorem pd_2 : parseMethodDescriptor "(II)Z" = some ⟨[.int, .int], some .boolean⟩ := by decide +kernel
theorem pn_0 : plainName "com/example/anytime_arena/anytimearena/io/VariableTableInRangePinLaw" = true := by first | (simp [plainName, overriddenIn]; done) | decide +kernel
theorem ef_0 (m : MethodId) (p0 : Int32) (p1 : Int32) (p2 : Int32) (p3 : Int32) (p4 : Int32) (p5 : Int32) : entryFrame m #[(.int p0), (.int p1), (.int p2), (.int p3), (.int p4), (.int p5)] maxLocals = mkF m 0 #[.val (.int p0), .val (.int p1), .val (.int p2), .val (.int p3), .val (.int p4), .val (.int p5), .unset, .unset, .unset, .unset, .unset, .unset, .unset, .unset, .unset, .unset] [] := by first | (simp [entryFrame, mkF, argsToLocals, Value.category, maxLocals]; done) | rfl
def Q0 (Z : State) (p0 : Int32) (p1 : Int32) (p2 : Int32) (p3 : Int32) (p4 : Int32) (p5 : Int32) (sd : Addr) (h0 : Heap) (n0 : Nat) (v : Option Value) (h : Heap) (L : List Loc) : Prop := v = some (.int (1 : Int32)) ∧ Fr n0 L
set_option maxRecDepth 65536 in
set_option maxHeartbeats 40000000 in
theorem rm0 (l : Launch) (Z : State) (a0 : Array Value) (hw : ∀ d ∈ tables_1, d.before a0 Z = true) (ws : List Jvm.Cond) (p0 : Int32) (p1 : Int32) (p2 : Int32) (p3 : Int32) (p4 : Int32) (p5 : Int32) (sd : Addr) (h0 : Heap) (n0 : Nat) (Z0 : n0 ≤ h0.size) (S_DEFAULTCAPACITY_EMPTY_ELEMENTDATA : Sta Z h0 "java/util/ArrayList" "DEFAULTCAPACITY_EMPTY_ELEMENTDATA" "[Ljava/lang/Object;" (.ref sd)) :
    MetFree l x (head1 (Jvm.Cond.code x code maxLocals ret :: ws) room_1) (fun a U => a = #[(.int p0), (.int p1), (.int p2), (.int p3), (.int p4), (.int p5)] ∧ Z.Warmed39 U.vm ∧ U.heap = h0) (fun _ _ _ _ _ => True) (fun _ U o U' => ∃ v L, o = .returned v ∧ Q0 Z p0 p1 p2 p3 p4 p5 sd h0 n0 v U'.heap L ∧ FrameEnd U o U' L 11 31) := by
  refine MetFree.of_bodySF (plainFor_of_name pn_0) hisR ?_
  intro p e s m args below meth c s₁ Bd hml0 hP hK
  obtain ⟨rfl, hZ, hh⟩ := hP
  have hx := Bd.exec
  have hby := Bd.bytes
  have hml : c.maxLocals = 16 := hml0
  have hown : s.vm.findClass "com/example/anytime_arena/anytimearena/io/VariableTableInRangePinLaw" = some m.cls := findClass_of_methodNamed Bd.named
  have hnm := (name_of_methodNamed Bd.named Bd.method).1
  have X0 : Stand p l e room_1 s m #[(.int p0), (.int p1), (.int p2), (.int p3), (.int p4), (.int p5)] below meth c s₁ [] 0 0 := Stand.of_body Bd
  have e0 : s₁.heap = h0 := by rw [← hh, Bd.state]; rfl
  have N0 := Fr.nil n0
  have K0 := Keep.refl h0 []
  suffices hgo : Goes p.tables e below (fun s₂ o => ∃ v L, o = .returned v ∧ Q0 Z p0 p1 p2 p3 p4 p5 sd h0 n0 v s₂.heap L ∧ FrameEnd s o s₂ L 11 31) (s₁.setTop (mkF m 0 #[.val (.int p0), .val (.int p1), .val (.int p2), .val (.int p3), .val (.int p4), .val (.int p5), .unset, .unset, .unset, .unset, .unset, .unset, .unset, .unset, .unset, .unset] [])) from goEnd (fun t k => castTop (ef_0 m p0 p1 p2 p3 p4 p5) k) hgo
  refine go (fun t kt => XS.iconst X0.here hx rfl (hb hby at_0) kt) ?_
  show Goes p.tables e below _ (s₁.setTop (mkF m 1 #[.val (.int p0), .val (.int p1), .val (.int p2), .val (.int p3), .val (.int p4), .val (.int p5), .unset, .unset, .unset, .unset, .unset, .unset, .unset, .unset, .unset, .unset] [(.int (2 : Int32))]))
  obtain ⟨T1, h1, k1, X1, e1, E1, A1, B1, st1⟩ := newPE X0 hx hZ (hw _ (List.mem_of_getElem? (i := 0) rfl)) e0 (g := (mkF m 1 #[.val (.int p0), .val (.int p1), .val (.int p2), .val (.int p3), .val (.int p4), .val (.int p5), .unset, .unset, .unset, .unset, .unset, .unset, .unset, .unset, .unset, .unset] [(.int (2 : Int32))])) rfl (hb hby at_1) rfl (by decide) (cap := 2) (by decide) (by decide) (by decide) (by decide) (ad := "[I") rfl
  obtain ⟨b1, g1⟩ : ∃ z, z = h0.size := ⟨_, rfl⟩
  rw [← g1] at A1 B1 st1
  have g_b1 : n0 ≤ b1 := Nat.le_trans Z0 (Nat.le_of_eq g1.symm)
  have sz_b1 : h0.size ≤ b1 := Nat.le_trans K0.1 (Nat.le_of_eq g1.symm)
  replace S_DEFAULTCAPACITY_EMPTY_ELEMENTDATA := S_DEFAULTCAPACITY_EMPTY_ELEMENTDATA.ext E1
  have Zz1 := Nat.le_trans Z0 E1.1
  have Kk1 := K0.ext E1
  have E_b1 := B1
  have V_b1 : Arv Z h1 b1 k1 .int (2 : Int32) [(.int (0 : Int32)), (.int (0 : Int32))] (.int (0 : Int32)) := (Arv.new A1 (by decide)).pad (pad_rep [] (.int (0 : Int32)) 2)
  refine go st1 ?_
  show Goes p.tables e below _ (T1.setTop (mkF m 3 #[.val (.int p0), .val (.int p1), .val (.int p2), .val (.int p3), .val (.int p4), .val (.int p5), .unset, .unset, .unset, .unset, .unset, .unset, .unset, .unset, .unset, .unset] [(.ref b1)]))
  refine go (fun t kt => XS.astore X1.here hx rfl (hb hby at_3) rfl rfl (l' := #[.val (.int p0), .val (.int p1), .val (.int p2), .val (.int p3), .val (.int p4), .val (.int p5), .val (.ref b1), .unset, .unset, .unset, .unset, .unset, .unset, .unset, .unset, .unset]) rfl kt) ?_
  show Goes p.tables e below _ (T1.setTop (mkF m 5 #[.val (.int p0), .val (.int p1), .val (.int p2), .val (.int p3), .val (.int p4), .val (.int p5), .val (.ref b1), .unset, .unset, .unset, .unset, .unset, .unset, .unset, .unset, .unset] []))
  refine go (fun t kt => XS.iconst X1.here hx rfl (hb hby at_5) kt) ?_
  show Goes p.tables e below _ (T1.setTop (mkF m 6 #[.val (.int p0), .val (.int p1), .val (.int p2), .val (.int p3), .val (.int p4), .val (.int p5), .val (.ref b1), .unset, .unset, .unset, .unset, .unset, .unset, .unset, .unset, .unset] [(.int (2 : Int32))]))
  obtain ⟨T2, h2, k2, X2, e2, E2, A2, B2, st2⟩ := newPE X1 hx hZ (hw _ (List.mem_of_getElem? (i := 0) rfl)) e1 (g := (mkF m 6 #[.val (.int p0), .val (.int p1), .val (.int p2), .val (.int p3), .val (.int p4), .val (.int p5), .val (.ref b1), .unset, .unset, .unset, .unset, .unset, .unset, .unset, .unset, .unset] [(.int (2 : Int32))])) rfl (hb hby at_6) rfl (by decide) (cap := 2) (by decide) (by decide) (by decide) (by decide) (ad := "[I") rfl
  obtain ⟨b2, g2⟩ : ∃ z, z = h1.size := ⟨_, rfl⟩
  rw [← g2] at A2 B2 st2
  have ne_b1_b2 : b1 ≠ b2 := Nat.ne_of_lt (Nat.lt_of_lt_of_le E_b1.lt (Nat.le_of_eq g2.symm))
  have g_b2 : n0 ≤ b2 := Nat.le_trans Zz1 (Nat.le_of_eq g2.symm)
  have sz_b2 : h0.size ≤ b2 := Nat.le_trans Kk1.1 (Nat.le_of_eq g2.symm)
  replace S_DEFAULTCAPACITY_EMPTY_ELEMENTDATA := S_DEFAULTCAPACITY_EMPTY_ELEMENTDATA.ext E2
  replace E_b1 := E_b1.ext E2
  replace V_b1 := V_b1.ext E2
  have Zz2 := Nat.le_trans Zz1 E2.1
  have Kk2 := Kk1.ext E2
  have E_b2 := B2
  have V_b2 : Arv Z h2 b2 k2 .int (2 : Int32) [(.int (0 : Int32)), (.int (0 : Int32))] (.int (0 : Int32)) := (Arv.new A2 (by decide)).pad (pad_rep [] (.int (0 : Int32)) 2)
  refine go st2 ?_
  show Goes p.tables e below _ (T2.setTop (mkF m 8 #[.val (.int p0), .val (.int p1), .val (.int p2), .val (.int p3), .val (.int p4), .val (.int p5), .val (.ref b1), .unset, .unset, .unset, .unset, .unset, .unset, .unset, .unset, .unset] [(.ref b2)]))
  refine go (fun t kt => XS.astore X2.here hx rfl (hb hby at_8) rfl rfl (l' := #[.val (.int p0), .val (.int p1), .val (.int p2), .val (.int p3), .val (.int p4), .val (.int p5), .val (.ref b1), .val (.ref b2), .unset, .unset, .unset, .unset, .unset, .unset, .unset, .unset]) rfl kt) ?_
  show Goes p.tables e below _ (T2.setTop (mkF m 10 #[.val (.int p0), .val (.int p1), .val (.int p2), .val (.int p3), .val (.int p4), .val (.int p5), .val (.ref b1), .val (.ref b2), .unset, .unset, .unset, .unset, .unset, .unset, .unset, .unset] []))
  refine go (fun t kt => XS.aload X2.here hx rfl (hb hby at_10) rfl rfl kt) ?_
  show Goes p.tables e below _ (T2.setTop (mkF m 12 #[.val (.int p0), .val (.int p1), .val (.int p2), .val (.int p3), .val (.int p4), .val (.int p5), .val (.ref b1), .val (.ref b2), .unset, .unset, .unset, .unset, .unset, .unset, .unset, .unset] [(.ref b1)]))
  refine go (fun t kt => XS.iconst X2.here hx rfl (hb hby at_12) kt) ?_
  show Goes p.tables e below _ (T2.setTop (mkF m 13 #[.val (.int p0), .val (.int p1), .val (.int p2), .val (.int p3), .val (.int p4), .val (.int p5), .val (.ref b1), .val (.ref b2), .unset, .unset, .unset, .unset, .unset, .unset, .unset, .unset] [(.int (0 : Int32)), (.ref b1)]))
  refine go (fun t kt => XS.iloadN X2.here hx rfl (hb hby at_13) rfl kt) ?_
  show Goes p.tables e below _ (T2.setTop (mkF m 14 #[.val (.int p0), .val (.int p1), .val (.int p2), .val (.int p3), .val (.int p4), .val (.int p5), .val (.ref b1), .val (.ref b2), .unset, .unset, .unset, .unset, .unset, .unset, .unset, .unset] [(.int p0), (.int (0 : Int32)), (.ref b1)]))
  obtain ⟨cl3, Ar3, q3, S3, M3, H3, G3⟩ := V_b1
  have hin3 : ¬ ((0 : Int32) < 0 ∨ cl3.slots.size ≤ ((0 : Int32)).toNatClampNeg) := inb_of S3 ⟨by decide, by decide⟩
  obtain ⟨T3, h3, X3, e3, W3, st3⟩ := stI X2 hx hZ e2 Ar3 (j := (0 : Int32)) hin3 (g := (mkF m 14 #[.val (.int p0), .val (.int p1), .val (.int p2), .val (.int p3), .val (.int p4), .val (.int p5), .val (.ref b1), .val (.ref b2), .unset, .unset, .unset, .unset, .unset, .unset, .unset, .unset] [(.int p0), (.int (0 : Int32)), (.ref b1)])) rfl rfl (hb hby at_14)
  have V_b1 : Arv Z h3 b1 k1 .int (2 : Int32) [(.int p0), (.int (0 : Int32))] (.int (0 : Int32)) := Arv.set Ar3 q3 S3 M3 H3 G3 rfl W3 0 rfl (Nat.le_of_ble_eq_true rfl)
  replace S_DEFAULTCAPACITY_EMPTY_ELEMENTDATA := S_DEFAULTCAPACITY_EMPTY_ELEMENTDATA.wr W3
  replace E_b1 := E_b1.wr W3
  replace E_b2 := E_b2.wr W3
  replace V_b2 := V_b2.other W3 (Ne.symm ne_b1_b2)
  have Zz3 := Nat.le_trans Zz2 (Keep.of_wr W3).1
  have Kk3 := Kk2.wr W3 (Or.inr sz_b1)
  have N3 := Fr.snoc X3 N0 g_b1
  refine go st3 ?_
  show Goes p.tables e below _ (T3.setTop (mkF m 15 #[.val (.int p0), .val (.int p1), .val (.int p2), .val (.int p3), .val (.int p4), .val (.int p5), .val (.ref b1), .val (.ref b2), .unset, .unset, .unset, .unset, .unset, .unset, .unset, .unset] []))
  refine go (fun t kt => XS.aload X3.here hx rfl (hb hby at_15) rfl rfl kt) ?_
  show Goes p.tables e below _ (T3.setTop (mkF m 17 #[.val (.int p0), .val (.int p1), .val (.int p2), .val (.int p3), .val (.int p4), .val (.int p5), .val (.ref b1), .val (.ref b2), .unset, .unset, .unset, .unset, .unset, .unset, .unset, .unset] [(.ref b2)]))
  refine go (fun t kt => XS.iconst X3.here hx rfl (hb hby at_17) kt) ?_
  show Goes p.tables e below _ (T3.setTop (mkF m 18 #[.val (.int p0), .val (.int p1), .val (.int p2), .val (.int p3), .val (.int p4), .val (.int p5), .val (.ref b1), .val (.ref b2), .unset, .unset, .unset, .unset, .unset, .unset, .unset, .unset] [(.int (0 : Int32)), (.ref b2)]))
  refine go (fun t kt => XS.iloadN X3.here hx rfl (hb hby at_18) rfl kt) ?_
  show Goes p.tables e below _ (T3.setTop (mkF m 19 #[.val (.int p0), .val (.int p1), .val (.int p2), .val (.int p3), .val (.int p4), .val (.int p5), .val (.ref b1), .val (.ref b2), .unset, .unset, .unset, .unset, .unset, .unset, .unset, .unset] [(.int p1), (.int (0 : Int32)), (.ref b2)]))
  obtain ⟨cl4, Ar4, q4, S4, M4, H4, G4⟩ := V_b2
  have hin4 : ¬ ((0 : Int32) < 0 ∨ cl4.slots.size ≤ ((0 : Int32)).toNatClampNeg) := inb_of S4 ⟨by decide, by decide⟩
  obtain ⟨T4, h4, X4, e4, W4, st4⟩ := stI X3 hx hZ e3 Ar4 (j := (0 : Int32)) hin4 (g := (mkF m 19 #[.val (.int p0), .val (.int p1), .val (.int p2), .val (.int p3), .val (.int p4), .val (.int p5), .val (.ref b1), .val (.ref b2), .unset, .unset, .unset, .unset, .unset, .unset, .unset, .unset] [(.int p1), (.int (0 : Int32)), (.ref b2)])) rfl rfl (hb hby at_19)
  have V_b2 : Arv Z h4 b2 k2 .int (2 : Int32) [(.int p1), (.int (0 : Int32))] (.int (0 : Int32)) := Arv.set Ar4 q4 S4 M4 H4 G4 rfl W4 0 rfl (Nat.le_of_ble_eq_true rfl)
  replace S_DEFAULTCAPACITY_EMPTY_ELEMENTDATA := S_DEFAULTCAPACITY_EMPTY_ELEMENTDATA.wr W4
  replace E_b1 := E_b1.wr W4
  replace V_b1 := V_b1.other W4 ne_b1_b2
  replace E_b2 := E_b2.wr W4
  have Zz4 := Nat.le_trans Zz3 (Keep.of_wr W4).1
  have Kk4 := Kk3.wr W4 (Or.inr sz_b2)
  have N4 := Fr.snoc X4 N3 g_b2
  refine go st4 ?_
  show Goes p.tables e below _ (T4.setTop (mkF m 20 #[.val (.int p0), .val (.int p1), .val (.int p2), .val (.int p3), .val (.int p4), .val (.int p5), .val (.ref b1), .val (.ref b2), .unset, .unset, .unset, .unset, .unset, .unset, .unset, .unset] []))
  refine go (fun t kt => XS.aload X4.here hx rfl (hb hby at_20) rfl rfl kt) ?_
  show Goes p.tables e below _ (T4.setTop (mkF m 22 #[.val (.int p0), .val (.int p1), .val (.int p2), .val (.int p3), .val (.int p4), .val (.int p5), .val (.ref b1), .val (.ref b2), .unset, .unset, .unset, .unset, .unset, .unset, .unset, .unset] [(.ref b1)]))
  refine go (fun t kt => XS.iconst X4.here hx rfl (hb hby at_22) kt) ?_
  show Goes p.tables e below _ (T4.setTop (mkF m 23 #[.val (.int p0), .val (.int p1), .val (.int p2), .val (.int p3), .val (.int p4), .val (.int p5), .val (.ref b1), .val (.ref b2), .unset, .unset, .unset, .unset, .unset, .unset, .unset, .unset] [(.int (1 : Int32)), (.ref b1)]))
  refine go (fun t kt => XS.iloadN X4.here hx rfl (hb hby at_23) rfl kt) ?_
  show Goes p.tables e below _ (T4.setTop (mkF m 24 #[.val (.int p0), .val (.int p1), .val (.int p2), .val (.int p3), .val (.int p4), .val (.int p5), .val (.ref b1), .val (.ref b2), .unset, .unset, .unset, .unset, .unset, .unset, .unset, .unset] [(.int p2), (.int (1 : Int32)), (.ref b1)]))
  obtain ⟨cl5, Ar5, q5, S5, M5, H5, G5⟩ := V_b1
  have hin5 : ¬ ((1 : Int32) < 0 ∨ cl5.slots.size ≤ ((1 : Int32)).toNatClampNeg) := inb_of S5 ⟨by decide, by decide⟩
  obtain ⟨T5, h5, X5, e5, W5, st5⟩ := stI X4 hx hZ e4 Ar5 (j := (1 : Int32)) hin5 (g := (mkF m 24 #[.val (.int p0), .val (.int p1), .val (.int p2), .val (.int p3), .val (.int p4), .val (.int p5), .val (.ref b1), .val (.ref b2), .unset, .unset, .unset, .unset, .unset, .unset, .unset, .unset] [(.int p2), (.int (1 : Int32)), (.ref b1)])) rfl rfl (hb hby at_24)
  have V_b1 : Arv Z h5 b1 k1 .int (2 : Int32) [(.int p0), (.int p2)] (.int (0 : Int32)) := Arv.set Ar5 q5 S5 M5 H5 G5 rfl W5 1 rfl (Nat.le_of_ble_eq_true rfl)
  replace S_DEFAULTCAPACITY_EMPTY_ELEMENTDATA := S_DEFAULTCAPACITY_EMPTY_ELEMENTDATA.wr W5
  replace E_b1 := E_b1.wr W5
  replace E_b2 := E_b2.wr W5
  replace V_b2 := V_b2.other W5 (Ne.symm ne_b1_b2)
  have Zz5 := Nat.le_trans Zz4 (Keep.of_wr W5).1
  have Kk5 := Kk4.wr W5 (Or.inr sz_b1)
  have N5 := Fr.snoc X5 N4 g_b1
  refine go st5 ?_
  show Goes p.tables e below _ (T5.setTop (mkF m 25 #[.val (.int p0), .val (.int p1), .val (.int p2), .val (.int p3), .val (.int p4), .val (.int p5), .val (.ref b1), .val (.ref b2), .unset, .unset, .unset, .unset, .unset, .unset, .unset, .unset] []))
  refine go (fun t kt => XS.aload X5.here hx rfl (hb hby at_25) rfl rfl kt) ?_
  show Goes p.tables e below _ (T5.setTop (mkF m 27 #[.val (.int p0), .val (.int p1), .val (.int p2), .val (.int p3), .val (.int p4), .val (.int p5), .val (.ref b1), .val (.ref b2), .unset, .unset, .unset, .unset, .unset, .unset, .unset, .unset] [(.ref b2)]))
  refine go (fun t kt => XS.iconst X5.here hx rfl (hb hby at_27) kt) ?_
  show Goes p.tables e below _ (T5.setTop (mkF m 28 #[.val (.int p0), .val (.int p1), .val (.int p2), .val (.int p3), .val (.int p4), .val (.int p5), .val (.ref b1), .val (.ref b2), .unset, .unset, .unset, .unset, .unset, .unset, .unset, .unset] [(.int (1 : Int32)), (.ref b2)]))
  refine go (fun t kt => XS.iloadN X5.here hx rfl (hb hby at_28) rfl kt) ?_
  show Goes p.tables e below _ (T5.setTop (mkF m 29 #[.val (.int p0), .val (.int p1), .val (.int p2), .val (.int p3), .val (.int p4), .val (.int p5), .val (.ref b1), .val (.ref b2), .unset, .unset, .unset, .unset, .unset, .unset, .unset, .unset] [(.int p3), (.int (1 : Int32)), (.ref b2)]))
  obtain ⟨cl6, Ar6, q6, S6, M6, H6, G6⟩ := V_b2
  have hin6 : ¬ ((1 : Int32) < 0 ∨ cl6.slots.size ≤ ((1 : Int32)).toNatClampNeg) := inb_of S6 ⟨by decide, by decide⟩
  obtain ⟨T6, h6, X6, e6, W6, st6⟩ := stI X5 hx hZ e5 Ar6 (j := (1 : Int32)) hin6 (g := (mkF m 29 #[.val (.int p0), .val (.int p1), .val (.int p2), .val (.int p3), .val (.int p4), .val (.int p5), .val (.ref b1), .val (.ref b2), .unset, .unset, .unset, .unset, .unset, .unset, .unset, .unset] [(.int p3), (.int (1 : Int32)), (.ref b2)])) rfl rfl (hb hby at_29)
  have V_b2 : Arv Z h6 b2 k2 .int (2 : Int32) [(.int p1), (.int p3)] (.int (0 : Int32)) := Arv.set Ar6 q6 S6 M6 H6 G6 rfl W6 1 rfl (Nat.le_of_ble_eq_true rfl)
  replace S_DEFAULTCAPACITY_EMPTY_ELEMENTDATA := S_DEFAULTCAPACITY_EMPTY_ELEMENTDATA.wr W6
  replace E_b1 := E_b1.wr W6
  replace V_b1 := V_b1.other W6 ne_b1_b2
  replace E_b2 := E_b2.wr W6
  have Zz6 := Nat.le_trans Zz5 (Keep.of_wr W6).1
  have Kk6 := Kk5.wr W6 (Or.inr sz_b2)
  have N6 := Fr.snoc X6 N5 g_b2
  refine go st6 ?_
  show Goes p.tables e below _ (T6.setTop (mkF m 30 #[.val (.int p0), .val (.int p1), .val (.int p2), .val (.int p3), .val (.int p4), .val (.int p5), .val (.ref b1), .val (.ref b2), .unset, .unset, .unset, .unset, .unset, .unset, .unset, .unset] []))
  refine go (fun t kt => XS.iload X6.here hx rfl (hb hby at_30) rfl kt) ?_
  show Goes p.tables e below _ (T6.setTop (mkF m 32 #[.val (.int p0), .val (.int p1), .val (.int p2), .val (.int p3), .val (.int p4), .val (.int p5), .val (.ref b1), .val (.ref b2), .unset, .unset, .unset, .unset, .unset, .unset, .unset, .unset] [(.int p5)]))
  refine go (fun t kt => XS.iconst X6.here hx rfl (hb hby at_32) kt) ?_
  show Goes p.tables e below _ (T6.setTop (mkF m 33 #[.val (.int p0), .val (.int p1), .val (.int p2), .val (.int p3), .val (.int p4), .val (.int p5), .val (.ref b1), .val (.ref b2), .unset, .unset, .unset, .unset, .unset, .unset, .unset, .unset] [(.int (1 : Int32)), (.int p5)]))
  refine go (fun t kt => XS.iand X6.here hx rfl (hb hby at_33) rfl kt) ?_
  show Goes p.tables e below _ (T6.setTop (mkF m 34 #[.val (.int p0), .val (.int p1), .val (.int p2), .val (.int p3), .val (.int p4), .val (.int p5), .val (.ref b1), .val (.ref b2), .unset, .unset, .unset, .unset, .unset, .unset, .unset, .unset] [(.int (p5 &&& (1 : Int32)))]))
  refine go (fun t kt => XS.istore X6.here hx rfl (hb hby at_34) rfl (l' := #[.val (.int p0), .val (.int p1), .val (.int p2), .val (.int p3), .val (.int p4), .val (.int p5), .val (.ref b1), .val (.ref b2), .val (.int (p5 &&& (1 : Int32))), .unset, .unset, .unset, .unset, .unset, .unset, .unset]) rfl kt) ?_
  show Goes p.tables e below _ (T6.setTop (mkF m 36 #[.val (.int p0), .val (.int p1), .val (.int p2), .val (.int p3), .val (.int p4), .val (.int p5), .val (.ref b1), .val (.ref b2), .val (.int (p5 &&& (1 : Int32))), .unset, .unset, .unset, .unset, .unset, .unset, .unset] []))
  rcases own_c2 p5 with hk7 | hk7
  ·
    rw [hk7]
    show Goes p.tables e below _ (T6.setTop (mkF m 36 #[.val (.int p0), .val (.int p1), .val (.int p2), .val (.int p3), .val (.int p4), .val (.int p5), .val (.ref b1), .val (.ref b2), .val (.int (0 : Int32)), .unset, .unset, .unset, .unset, .unset, .unset, .unset] []))
    refine go (fun t kt => XS.iload X6.here hx rfl (hb hby at_36) rfl kt) ?_
    show Goes p.tables e below _ (T6.setTop (mkF m 38 #[.val (.int p0), .val (.int p1), .val (.int p2), .val (.int p3), .val (.int p4), .val (.int p5), .val (.ref b1), .val (.ref b2), .val (.int (0 : Int32)), .unset, .unset, .unset, .unset, .unset, .unset, .unset] [(.int (0 : Int32))]))
    refine go (fun t kt => XS.ifNo X6.here hx rfl (hb hby at_38) rfl ((if0 _ _).trans (teq (by decide : ((0 : Int32) = (0 : Int32)))).2) kt) ?_
    show Goes p.tables e below _ (T6.setTop (mkF m 41 #[.val (.int p0), .val (.int p1), .val (.int p2), .val (.int p3), .val (.int p4), .val (.int p5), .val (.ref b1), .val (.ref b2), .val (.int (0 : Int32)), .unset, .unset, .unset, .unset, .unset, .unset, .unset] []))
    refine go (fun t kt => XS.iloadN X6.here hx rfl (hb hby at_41) rfl kt) ?_
    show Goes p.tables e below _ (T6.setTop (mkF m 42 #[.val (.int p0), .val (.int p1), .val (.int p2), .val (.int p3), .val (.int p4), .val (.int p5), .val (.ref b1), .val (.ref b2), .val (.int (0 : Int32)), .unset, .unset, .unset, .unset, .unset, .unset, .unset] [(.int p0)]))
    refine go (fun t kt => XS.goto X6.here hx rfl (pc0 := 42) (pc' := 46) rfl (hb hby at_42) (by decide) (by decide) kt) ?_
    show Goes p.tables e below _ (T6.setTop (mkF m 46 #[.val (.int p0), .val (.int p1), .val (.int p2), .val (.int p3), .val (.int p4), .val (.int p5), .val (.ref b1), .val (.ref b2), .val (.int (0 : Int32)), .unset, .unset, .unset, .unset, .unset, .unset, .unset] [(.int p0)]))
    refine go (fun t kt => XS.istore X6.here hx rfl (hb hby at_46) rfl (l' := #[.val (.int p0), .val (.int p1), .val (.int p2), .val (.int p3), .val (.int p4), .val (.int p5), .val (.ref b1), .val (.ref b2), .val (.int (0 : Int32)), .val (.int p0), .unset, .unset, .unset, .unset, .unset, .unset]) rfl kt) ?_
    show Goes p.tables e below _ (T6.setTop (mkF m 48 #[.val (.int p0), .val (.int p1), .val (.int p2), .val (.int p3), .val (.int p4), .val (.int p5), .val (.ref b1), .val (.ref b2), .val (.int (0 : Int32)), .val (.int p0), .unset, .unset, .unset, .unset, .unset, .unset] []))
    refine go (fun t kt => XS.iload X6.here hx rfl (hb hby at_48) rfl kt) ?_
    show Goes p.tables e below _ (T6.setTop (mkF m 50 #[.val (.int p0), .val (.int p1), .val (.int p2), .val (.int p3), .val (.int p4), .val (.int p5), .val (.ref b1), .val (.ref b2), .val (.int (0 : Int32)), .val (.int p0), .unset, .unset, .unset, .unset, .unset, .unset] [(.int (0 : Int32))]))
    refine go (fun t kt => XS.ifNo X6.here hx rfl (hb hby at_50) rfl ((if0 _ _).trans (teq (by decide : ((0 : Int32) = (0 : Int32)))).2) kt) ?_
    show Goes p.tables e below _ (T6.setTop (mkF m 53 #[.val (.int p0), .val (.int p1), .val (.int p2), .val (.int p3), .val (.int p4), .val (.int p5), .val (.ref b1), .val (.ref b2), .val (.int (0 : Int32)), .val (.int p0), .unset, .unset, .unset, .unset, .unset, .unset] []))
    refine go (fun t kt => XS.iloadN X6.here hx rfl (hb hby at_53) rfl kt) ?_
    show Goes p.tables e below _ (T6.setTop (mkF m 54 #[.val (.int p0), .val (.int p1), .val (.int p2), .val (.int p3), .val (.int p4), .val (.int p5), .val (.ref b1), .val (.ref b2), .val (.int (0 : Int32)), .val (.int p0), .unset, .unset, .unset, .unset, .unset, .unset] [(.int p1)]))
    refine go (fun t kt => XS.goto X6.here hx rfl (pc0 := 54) (pc' := 58) rfl (hb hby at_54) (by decide) (by decide) kt) ?_
    show Goes p.tables e below _ (T6.setTop (mkF m 58 #[.val (.int p0), .val (.int p1), .val (.int p2), .val (.int p3), .val (.int p4), .val (.int p5), .val (.ref b1), .val (.ref b2), .val (.int (0 : Int32)), .val (.int p0), .unset, .unset, .unset, .unset, .unset, .unset] [(.int p1)]))
    refine go (fun t kt => XS.istore X6.here hx rfl (hb hby at_58) rfl (l' := #[.val (.int p0), .val (.int p1), .val (.int p2), .val (.int p3), .val (.int p4), .val (.int p5), .val (.ref b1), .val (.ref b2), .val (.int (0 : Int32)), .val (.int p0), .val (.int p1), .unset, .unset, .unset, .unset, .unset]) rfl kt) ?_
    show Goes p.tables e below _ (T6.setTop (mkF m 60 #[.val (.int p0), .val (.int p1), .val (.int p2), .val (.int p3), .val (.int p4), .val (.int p5), .val (.ref b1), .val (.ref b2), .val (.int (0 : Int32)), .val (.int p0), .val (.int p1), .unset, .unset, .unset, .unset, .unset] []))
    refine go (fun t kt => XS.iload X6.here hx rfl (hb hby at_60) rfl kt) ?_
    show Goes p.tables e below _ (T6.setTop (mkF m 62 #[.val (.int p0), .val (.int p1), .val (.int p2), .val (.int p3), .val (.int p4), .val (.int p5), .val (.ref b1), .val (.ref b2), .val (.int (0 : Int32)), .val (.int p0), .val (.int p1), .unset, .unset, .unset, .unset, .unset] [(.int p5)]))
    refine go (fun t kt => XS.iconst X6.here hx rfl (hb hby at_62) kt) ?_
    show Goes p.tables e below _ (T6.setTop (mkF m 63 #[.val (.int p0), .val (.int p1), .val (.int p2), .val (.int p3), .val (.int p4), .val (.int p5), .val (.ref b1), .val (.ref b2), .val (.int (0 : Int32)), .val (.int p0), .val (.int p1), .unset, .unset, .unset, .unset, .unset] [(.int (1 : Int32)), (.int p5)]))
    refine go (fun t kt => XS.iushr X6.here hx rfl (hb hby at_63) rfl kt) ?_
    show Goes p.tables e below _ (T6.setTop (mkF m 64 #[.val (.int p0), .val (.int p1), .val (.int p2), .val (.int p3), .val (.int p4), .val (.int p5), .val (.ref b1), .val (.ref b2), .val (.int (0 : Int32)), .val (.int p0), .val (.int p1), .unset, .unset, .unset, .unset, .unset] [(.int ((p5.toUInt32 >>> ((1 : Int32) &&& 31).toUInt32).toInt32))]))
    refine go (fun t kt => XS.bipush X6.here hx rfl (hb hby at_64) kt) ?_
    show Goes p.tables e below _ (T6.setTop (mkF m 66 #[.val (.int p0), .val (.int p1), .val (.int p2), .val (.int p3), .val (.int p4), .val (.int p5), .val (.ref b1), .val (.ref b2), .val (.int (0 : Int32)), .val (.int p0), .val (.int p1), .unset, .unset, .unset, .unset, .unset] [(.int (7 : Int32)), (.int ((p5.toUInt32 >>> ((1 : Int32) &&& 31).toUInt32).toInt32))]))
    refine go (fun t kt => XS.iand X6.here hx rfl (hb hby at_66) rfl kt) ?_
    show Goes p.tables e below _ (T6.setTop (mkF m 67 #[.val (.int p0), .val (.int p1), .val (.int p2), .val (.int p3), .val (.int p4), .val (.int p5), .val (.ref b1), .val (.ref b2), .val (.int (0 : Int32)), .val (.int p0), .val (.int p1), .unset, .unset, .unset, .unset, .unset] [(.int (((p5.toUInt32 >>> ((1 : Int32) &&& 31).toUInt32).toInt32) &&& (7 : Int32)))]))
    refine go (fun t kt => XS.istore X6.here hx rfl (hb hby at_67) rfl (l' := #[.val (.int p0), .val (.int p1), .val (.int p2), .val (.int p3), .val (.int p4), .val (.int p5), .val (.ref b1), .val (.ref b2), .val (.int (0 : Int32)), .val (.int p0), .val (.int p1), .val (.int (((p5.toUInt32 >>> ((1 : Int32) &&& 31).toUInt32).toInt32) &&& (7 : Int32))), .unset, .unset, .unset, .unset]) rfl kt) ?_
    show Goes p.tables e below _ (T6.setTop (mkF m 69 #[.val (.int p0), .val (.int p1), .val (.int p2), .val (.int p3), .val (.int p4), .val (.int p5), .val (.ref b1), .val (.ref b2), .val (.int (0 : Int32)), .val (.int p0), .val (.int p1), .val (.int (((p5.toUInt32 >>> ((1 : Int32) &&& 31).toUInt32).toInt32) &&& (7 : Int32))), .unset, .unset, .unset, .unset] []))
    refine go (fun t kt => XS.iload X6.here hx rfl (hb hby at_69) rfl kt) ?_
    show Goes p.tables e below _ (T6.setTop (mkF m 71 #[.val (.int p0), .val (.int p1), .val (.int p2), .val (.int p3), .val (.int p4), .val (.int p5), .val (.ref b1), .val (.ref b2), .val (.int (0 : Int32)), .val (.int p0), .val (.int p1), .val (.int (((p5.toUInt32 >>> ((1 : Int32) &&& 31).toUInt32).toInt32) &&& (7 : Int32))), .unset, .unset, .unset, .unset] [(.int p4)]))
    refine go (fun t kt => XS.istore X6.here hx rfl (hb hby at_71) rfl (l' := #[.val (.int p0), .val (.int p1), .val (.int p2), .val (.int p3), .val (.int p4), .val (.int p5), .val (.ref b1), .val (.ref b2), .val (.int (0 : Int32)), .val (.int p0), .val (.int p1), .val (.int (((p5.toUInt32 >>> ((1 : Int32) &&& 31).toUInt32).toInt32) &&& (7 : Int32))), .val (.int p4), .unset, .unset, .unset]) rfl kt) ?_
    show Goes p.tables e below _ (T6.setTop (mkF m 73 #[.val (.int p0), .val (.int p1), .val (.int p2), .val (.int p3), .val (.int p4), .val (.int p5), .val (.ref b1), .val (.ref b2), .val (.int (0 : Int32)), .val (.int p0), .val (.int p1), .val (.int (((p5.toUInt32 >>> ((1 : Int32) &&& 31).toUInt32).toInt32) &&& (7 : Int32))), .val (.int p4), .unset, .unset, .unset] []))
    refine go (fun t kt => XS.iload X6.here hx rfl (hb hby at_73) rfl kt) ?_
    show Goes p.tables e below _ (T6.setTop (mkF m 75 #[.val (.int p0), .val (.int p1), .val (.int p2), .val (.int p3), .val (.int p4), .val (.int p5), .val (.ref b1), .val (.ref b2), .val (.int (0 : Int32)), .val (.int p0), .val (.int p1), .val (.int (((p5.toUInt32 >>> ((1 : Int32) &&& 31).toUInt32).toInt32) &&& (7 : Int32))), .val (.int p4), .unset, .unset, .unset] [(.int (((p5.toUInt32 >>> ((1 : Int32) &&& 31).toUInt32).toInt32) &&& (7 : Int32)))]))
    refine go (fun t kt => XS.iconst X6.here hx rfl (hb hby at_75) kt) ?_
    show Goes p.tables e below _ (T6.setTop (mkF m 76 #[.val (.int p0), .val (.int p1), .val (.int p2), .val (.int p3), .val (.int p4), .val (.int p5), .val (.ref b1), .val (.ref b2), .val (.int (0 : Int32)), .val (.int p0), .val (.int p1), .val (.int (((p5.toUInt32 >>> ((1 : Int32) &&& 31).toUInt32).toInt32) &&& (7 : Int32))), .val (.int p4), .unset, .unset, .unset] [(.int (1 : Int32)), (.int (((p5.toUInt32 >>> ((1 : Int32) &&& 31).toUInt32).toInt32) &&& (7 : Int32)))]))
    suffices KK : ∀ (m8 : Int32), m8 = (if (((p5.toUInt32 >>> ((1 : Int32) &&& 31).toUInt32).toInt32) &&& (7 : Int32)) = (1 : Int32) then p0 else (if (((p5.toUInt32 >>> ((1 : Int32) &&& 31).toUInt32).toInt32) &&& (7 : Int32)) = (2 : Int32) then p1 else (if (((p5.toUInt32 >>> ((1 : Int32) &&& 31).toUInt32).toInt32) &&& (7 : Int32)) = (3 : Int32) then (p0 - (1 : Int32)) else (if (((p5.toUInt32 >>> ((1 : Int32) &&& 31).toUInt32).toInt32) &&& (7 : Int32)) = (4 : Int32) then (p1 + (1 : Int32)) else p4)))) → Goes p.tables e below (fun s₂ o => ∃ v L, o = .returned v ∧ Q0 Z p0 p1 p2 p3 p4 p5 sd h0 n0 v s₂.heap L ∧ FrameEnd s o s₂ L 11 31) (T6.setTop (mkF m 126 #[.val (.int p0), .val (.int p1), .val (.int p2), .val (.int p3), .val (.int p4), .val (.int p5), .val (.ref b1), .val (.ref b2), .val (.int (0 : Int32)), .val (.int p0), .val (.int p1), .val (.int (((p5.toUInt32 >>> ((1 : Int32) &&& 31).toUInt32).toInt32) &&& (7 : Int32))), .val (.int m8), .unset, .unset, .unset] [])) by
      by_cases hc9 : (((p5.toUInt32 >>> ((1 : Int32) &&& 31).toUInt32).toInt32) &&& (7 : Int32)) = (1 : Int32)
      ·
        refine go (fun t kt => XS.icmpNo X6.here hx rfl (hb hby at_76) rfl (teq hc9).2 kt) ?_
        show Goes p.tables e below _ (T6.setTop (mkF m 79 #[.val (.int p0), .val (.int p1), .val (.int p2), .val (.int p3), .val (.int p4), .val (.int p5), .val (.ref b1), .val (.ref b2), .val (.int (0 : Int32)), .val (.int p0), .val (.int p1), .val (.int (((p5.toUInt32 >>> ((1 : Int32) &&& 31).toUInt32).toInt32) &&& (7 : Int32))), .val (.int p4), .unset, .unset, .unset] []))
        refine go (fun t kt => XS.iload X6.here hx rfl (hb hby at_79) rfl kt) ?_
        show Goes p.tables e below _ (T6.setTop (mkF m 81 #[.val (.int p0), .val (.int p1), .val (.int p2), .val (.int p3), .val (.int p4), .val (.int p5), .val (.ref b1), .val (.ref b2), .val (.int (0 : Int32)), .val (.int p0), .val (.int p1), .val (.int (((p5.toUInt32 >>> ((1 : Int32) &&& 31).toUInt32).toInt32) &&& (7 : Int32))), .val (.int p4), .unset, .unset, .unset] [(.int p0)]))
        refine go (fun t kt => XS.istore X6.here hx rfl (hb hby at_81) rfl (l' := #[.val (.int p0), .val (.int p1), .val (.int p2), .val (.int p3), .val (.int p4), .val (.int p5), .val (.ref b1), .val (.ref b2), .val (.int (0 : Int32)), .val (.int p0), .val (.int p1), .val (.int (((p5.toUInt32 >>> ((1 : Int32) &&& 31).toUInt32).toInt32) &&& (7 : Int32))), .val (.int p0), .unset, .unset, .unset]) rfl kt) ?_
        show Goes p.tables e below _ (T6.setTop (mkF m 83 #[.val (.int p0), .val (.int p1), .val (.int p2), .val (.int p3), .val (.int p4), .val (.int p5), .val (.ref b1), .val (.ref b2), .val (.int (0 : Int32)), .val (.int p0), .val (.int p1), .val (.int (((p5.toUInt32 >>> ((1 : Int32) &&& 31).toUInt32).toInt32) &&& (7 : Int32))), .val (.int p0), .unset, .unset, .unset] []))
        refine go (fun t kt => XS.goto X6.here hx rfl (pc0 := 83) (pc' := 126) rfl (hb hby at_83) (by decide) (by decide) kt) ?_
        show Goes p.tables e below _ (T6.setTop (mkF m 126 #[.val (.int p0), .val (.int p1), .val (.int p2), .val (.int p3), .val (.int p4), .val (.int p5), .val (.ref b1), .val (.ref b2), .val (.int (0 : Int32)), .val (.int p0), .val (.int p1), .val (.int (((p5.toUInt32 >>> ((1 : Int32) &&& 31).toUInt32).toInt32) &&& (7 : Int32))), .val (.int p0), .unset, .unset, .unset] []))
        exact KK _ (by rw [if_pos hc9])
      ·
        refine go (fun t kt => XS.icmpYes X6.here hx rfl (pc0 := 76) (pc' := 86) rfl (hb hby at_76) rfl (feq hc9).2 (by decide) (by decide) kt) ?_
        show Goes p.tables e below _ (T6.setTop (mkF m 86 #[.val (.int p0), .val (.int p1), .val (.int p2), .val (.int p3), .val (.int p4), .val (.int p5), .val (.ref b1), .val (.ref b2), .val (.int (0 : Int32)), .val (.int p0), .val (.int p1), .val (.int (((p5.toUInt32 >>> ((1 : Int32) &&& 31).toUInt32).toInt32) &&& (7 : Int32))), .val (.int p4), .unset, .unset, .unset] []))
        refine go (fun t kt => XS.iload X6.here hx rfl (hb hby at_86) rfl kt) ?_
        show Goes p.tables e below _ (T6.setTop (mkF m 88 #[.val (.int p0), .val (.int p1), .val (.int p2), .val (.int p3), .val (.int p4), .val (.int p5), .val (.ref b1), .val (.ref b2), .val (.int (0 : Int32)), .val (.int p0), .val (.int p1), .val (.int (((p5.toUInt32 >>> ((1 : Int32) &&& 31).toUInt32).toInt32) &&& (7 : Int32))), .val (.int p4), .unset, .unset, .unset] [(.int (((p5.toUInt32 >>> ((1 : Int32) &&& 31).toUInt32).toInt32) &&& (7 : Int32)))]))
        refine go (fun t kt => XS.iconst X6.here hx rfl (hb hby at_88) kt) ?_
        show Goes p.tables e below _ (T6.setTop (mkF m 89 #[.val (.int p0), .val (.int p1), .val (.int p2), .val (.int p3), .val (.int p4), .val (.int p5), .val (.ref b1), .val (.ref b2), .val (.int (0 : Int32)), .val (.int p0), .val (.int p1), .val (.int (((p5.toUInt32 >>> ((1 : Int32) &&& 31).toUInt32).toInt32) &&& (7 : Int32))), .val (.int p4), .unset, .unset, .unset] [(.int (2 : Int32)), (.int (((p5.toUInt32 >>> ((1 : Int32) &&& 31).toUInt32).toInt32) &&& (7 : Int32)))]))
        by_cases hc10 : (((p5.toUInt32 >>> ((1 : Int32) &&& 31).toUInt32).toInt32) &&& (7 : Int32)) = (2 : Int32)
        ·
          refine go (fun t kt => XS.icmpNo X6.here hx rfl (hb hby at_89) rfl (teq hc10).2 kt) ?_
          show Goes p.tables e below _ (T6.setTop (mkF m 92 #[.val (.int p0), .val (.int p1), .val (.int p2), .val (.int p3), .val (.int p4), .val (.int p5), .val (.ref b1), .val (.ref b2), .val (.int (0 : Int32)), .val (.int p0), .val (.int p1), .val (.int (((p5.toUInt32 >>> ((1 : Int32) &&& 31).toUInt32).toInt32) &&& (7 : Int32))), .val (.int p4), .unset, .unset, .unset] []))
          refine go (fun t kt => XS.iload X6.here hx rfl (hb hby at_92) rfl kt) ?_
          show Goes p.tables e below _ (T6.setTop (mkF m 94 #[.val (.int p0), .val (.int p1), .val (.int p2), .val (.int p3), .val (.int p4), .val (.int p5), .val (.ref b1), .val (.ref b2), .val (.int (0 : Int32)), .val (.int p0), .val (.int p1), .val (.int (((p5.toUInt32 >>> ((1 : Int32) &&& 31).toUInt32).toInt32) &&& (7 : Int32))), .val (.int p4), .unset, .unset, .unset] [(.int p1)]))
          refine go (fun t kt => XS.istore X6.here hx rfl (hb hby at_94) rfl (l' := #[.val (.int p0), .val (.int p1), .val (.int p2), .val (.int p3), .val (.int p4), .val (.int p5), .val (.ref b1), .val (.ref b2), .val (.int (0 : Int32)), .val (.int p0), .val (.int p1), .val (.int (((p5.toUInt32 >>> ((1 : Int32) &&& 31).toUInt32).toInt32) &&& (7 : Int32))), .val (.int p1), .unset, .unset, .unset]) rfl kt) ?_
          show Goes p.tables e below _ (T6.setTop (mkF m 96 #[.val (.int p0), .val (.int p1), .val (.int p2), .val (.int p3), .val (.int p4), .val (.int p5), .val (.ref b1), .val (.ref b2), .val (.int (0 : Int32)), .val (.int p0), .val (.int p1), .val (.int (((p5.toUInt32 >>> ((1 : Int32) &&& 31).toUInt32).toInt32) &&& (7 : Int32))), .val (.int p1), .unset, .unset, .unset] []))
          refine go (fun t kt => XS.goto X6.here hx rfl (pc0 := 96) (pc' := 126) rfl (hb hby at_96) (by decide) (by decide) kt) ?_
          show Goes p.tables e below _ (T6.setTop (mkF m 126 #[.val (.int p0), .val (.int p1), .val (.int p2), .val (.int p3), .val (.int p4), .val (.int p5), .val (.ref b1), .val (.ref b2), .val (.int (0 : Int32)), .val (.int p0), .val (.int p1), .val (.int (((p5.toUInt32 >>> ((1 : Int32) &&& 31).toUInt32).toInt32) &&& (7 : Int32))), .val (.int p1), .unset, .unset, .unset] []))
          exact KK _ (by rw [if_neg hc9, if_pos hc10])
        ·
          refine go (fun t kt => XS.icmpYes X6.here hx rfl (pc0 := 89) (pc' := 99) rfl (hb hby at_89) rfl (feq hc10).2 (by decide) (by decide) kt) ?_
          show Goes p.tables e below _ (T6.setTop (mkF m 99 #[.val (.int p0), .val (.int p1), .val (.int p2), .val (.int p3), .val (.int p4), .val (.int p5), .val (.ref b1), .val (.ref b2), .val (.int (0 : Int32)), .val (.int p0), .val (.int p1), .val (.int (((p5.toUInt32 >>> ((1 : Int32) &&& 31).toUInt32).toInt32) &&& (7 : Int32))), .val (.int p4), .unset, .unset, .unset] []))
          refine go (fun t kt => XS.iload X6.here hx rfl (hb hby at_99) rfl kt) ?_
          show Goes p.tables e below _ (T6.setTop (mkF m 101 #[.val (.int p0), .val (.int p1), .val (.int p2), .val (.int p3), .val (.int p4), .val (.int p5), .val (.ref b1), .val (.ref b2), .val (.int (0 : Int32)), .val (.int p0), .val (.int p1), .val (.int (((p5.toUInt32 >>> ((1 : Int32) &&& 31).toUInt32).toInt32) &&& (7 : Int32))), .val (.int p4), .unset, .unset, .unset] [(.int (((p5.toUInt32 >>> ((1 : Int32) &&& 31).toUInt32).toInt32) &&& (7 : Int32)))]))
          refine go (fun t kt => XS.iconst X6.here hx rfl (hb hby at_101) kt) ?_
          show Goes p.tables e below _ (T6.setTop (mkF m 102 #[.val (.int p0), .val (.int p1), .val (.int p2), .val (.int p3), .val (.int p4), .val (.int p5), .val (.ref b1), .val (.ref b2), .val (.int (0 : Int32)), .val (.int p0), .val (.int p1), .val (.int (((p5.toUInt32 >>> ((1 : Int32) &&& 31).toUInt32).toInt32) &&& (7 : Int32))), .val (.int p4), .unset, .unset, .unset] [(.int (3 : Int32)), (.int (((p5.toUInt32 >>> ((1 : Int32) &&& 31).toUInt32).toInt32) &&& (7 : Int32)))]))
          by_cases hc11 : (((p5.toUInt32 >>> ((1 : Int32) &&& 31).toUInt32).toInt32) &&& (7 : Int32)) = (3 : Int32)
          ·
            refine go (fun t kt => XS.icmpNo X6.here hx rfl (hb hby at_102) rfl (teq hc11).2 kt) ?_
            show Goes p.tables e below _ (T6.setTop (mkF m 105 #[.val (.int p0), .val (.int p1), .val (.int p2), .val (.int p3), .val (.int p4), .val (.int p5), .val (.ref b1), .val (.ref b2), .val (.int (0 : Int32)), .val (.int p0), .val (.int p1), .val (.int (((p5.toUInt32 >>> ((1 : Int32) &&& 31).toUInt32).toInt32) &&& (7 : Int32))), .val (.int p4), .unset, .unset, .unset] []))
            refine go (fun t kt => XS.iload X6.here hx rfl (hb hby at_105) rfl kt) ?_
            show Goes p.tables e below _ (T6.setTop (mkF m 107 #[.val (.int p0), .val (.int p1), .val (.int p2), .val (.int p3), .val (.int p4), .val (.int p5), .val (.ref b1), .val (.ref b2), .val (.int (0 : Int32)), .val (.int p0), .val (.int p1), .val (.int (((p5.toUInt32 >>> ((1 : Int32) &&& 31).toUInt32).toInt32) &&& (7 : Int32))), .val (.int p4), .unset, .unset, .unset] [(.int p0)]))
            refine go (fun t kt => XS.iconst X6.here hx rfl (hb hby at_107) kt) ?_
            show Goes p.tables e below _ (T6.setTop (mkF m 108 #[.val (.int p0), .val (.int p1), .val (.int p2), .val (.int p3), .val (.int p4), .val (.int p5), .val (.ref b1), .val (.ref b2), .val (.int (0 : Int32)), .val (.int p0), .val (.int p1), .val (.int (((p5.toUInt32 >>> ((1 : Int32) &&& 31).toUInt32).toInt32) &&& (7 : Int32))), .val (.int p4), .unset, .unset, .unset] [(.int (1 : Int32)), (.int p0)]))
            refine go (fun t kt => XS.isub X6.here hx rfl (hb hby at_108) rfl kt) ?_
            show Goes p.tables e below _ (T6.setTop (mkF m 109 #[.val (.int p0), .val (.int p1), .val (.int p2), .val (.int p3), .val (.int p4), .val (.int p5), .val (.ref b1), .val (.ref b2), .val (.int (0 : Int32)), .val (.int p0), .val (.int p1), .val (.int (((p5.toUInt32 >>> ((1 : Int32) &&& 31).toUInt32).toInt32) &&& (7 : Int32))), .val (.int p4), .unset, .unset, .unset] [(.int (p0 - (1 : Int32)))]))
            refine go (fun t kt => XS.istore X6.here hx rfl (hb hby at_109) rfl (l' := #[.val (.int p0), .val (.int p1), .val (.int p2), .val (.int p3), .val (.int p4), .val (.int p5), .val (.ref b1), .val (.ref b2), .val (.int (0 : Int32)), .val (.int p0), .val (.int p1), .val (.int (((p5.toUInt32 >>> ((1 : Int32) &&& 31).toUInt32).toInt32) &&& (7 : Int32))), .val (.int (p0 - (1 : Int32))), .unset, .unset, .unset]) rfl kt) ?_
            show Goes p.tables e below _ (T6.setTop (mkF m 111 #[.val (.int p0), .val (.int p1), .val (.int p2), .val (.int p3), .val (.int p4), .val (.int p5), .val (.ref b1), .val (.ref b2), .val (.int (0 : Int32)), .val (.int p0), .val (.int p1), .val (.int (((p5.toUInt32 >>> ((1 : Int32) &&& 31).toUInt32).toInt32) &&& (7 : Int32))), .val (.int (p0 - (1 : Int32))), .unset, .unset, .unset] []))
            refine go (fun t kt => XS.goto X6.here hx rfl (pc0 := 111) (pc' := 126) rfl (hb hby at_111) (by decide) (by decide) kt) ?_
            show Goes p.tables e below _ (T6.setTop (mkF m 126 #[.val (.int p0), .val (.int p1), .val (.int p2), .val (.int p3), .val (.int p4), .val (.int p5), .val (.ref b1), .val (.ref b2), .val (.int (0 : Int32)), .val (.int p0), .val (.int p1), .val (.int (((p5.toUInt32 >>> ((1 : Int32) &&& 31).toUInt32).toInt32) &&& (7 : Int32))), .val (.int (p0 - (1 : Int32))), .unset, .unset, .unset] []))
            exact KK _ (by rw [if_neg hc9, if_neg hc10, if_pos hc11])
          ·
            refine go (fun t kt => XS.icmpYes X6.here hx rfl (pc0 := 102) (pc' := 114) rfl (hb hby at_102) rfl (feq hc11).2 (by decide) (by decide) kt) ?_
            show Goes p.tables e below _ (T6.setTop (mkF m 114 #[.val (.int p0), .val (.int p1), .val (.int p2), .val (.int p3), .val (.int p4), .val (.int p5), .val (.ref b1), .val (.ref b2), .val (.int (0 : Int32)), .val (.int p0), .val (.int p1), .val (.int (((p5.toUInt32 >>> ((1 : Int32) &&& 31).toUInt32).toInt32) &&& (7 : Int32))), .val (.int p4), .unset, .unset, .unset] []))
            refine go (fun t kt => XS.iload X6.here hx rfl (hb hby at_114) rfl kt) ?_
            show Goes p.tables e below _ (T6.setTop (mkF m 116 #[.val (.int p0), .val (.int p1), .val (.int p2), .val (.int p3), .val (.int p4), .val (.int p5), .val (.ref b1), .val (.ref b2), .val (.int (0 : Int32)), .val (.int p0), .val (.int p1), .val (.int (((p5.toUInt32 >>> ((1 : Int32) &&& 31).toUInt32).toInt32) &&& (7 : Int32))), .val (.int p4), .unset, .unset, .unset] [(.int (((p5.toUInt32 >>> ((1 : Int32) &&& 31).toUInt32).toInt32) &&& (7 : Int32)))]))
            refine go (fun t kt => XS.iconst X6.here hx rfl (hb hby at_116) kt) ?_
            show Goes p.tables e below _ (T6.setTop (mkF m 117 #[.val (.int p0), .val (.int p1), .val (.int p2), .val (.int p3), .val (.int p4), .val (.int p5), .val (.ref b1), .val (.ref b2), .val (.int (0 : Int32)), .val (.int p0), .val (.int p1), .val (.int (((p5.toUInt32 >>> ((1 : Int32) &&& 31).toUInt32).toInt32) &&& (7 : Int32))), .val (.int p4), .unset, .unset, .unset] [(.int (4 : Int32)), (.int (((p5.toUInt32 >>> ((1 : Int32) &&& 31).toUInt32).toInt32) &&& (7 : Int32)))]))
            by_cases hc12 : (((p5.toUInt32 >>> ((1 : Int32) &&& 31).toUInt32).toInt32) &&& (7 : Int32)) = (4 : Int32)
            ·
              refine go (fun t kt => XS.icmpNo X6.here hx rfl (hb hby at_117) rfl (teq hc12).2 kt) ?_
              show Goes p.tables e below _ (T6.setTop (mkF m 120 #[.val (.int p0), .val (.int p1), .val (.int p2), .val (.int p3), .val (.int p4), .val (.int p5), .val (.ref b1), .val (.ref b2), .val (.int (0 : Int32)), .val (.int p0), .val (.int p1), .val (.int (((p5.toUInt32 >>> ((1 : Int32) &&& 31).toUInt32).toInt32) &&& (7 : Int32))), .val (.int p4), .unset, .unset, .unset] []))
              refine go (fun t kt => XS.iload X6.here hx rfl (hb hby at_120) rfl kt) ?_
              show Goes p.tables e below _ (T6.setTop (mkF m 122 #[.val (.int p0), .val (.int p1), .val (.int p2), .val (.int p3), .val (.int p4), .val (.int p5), .val (.ref b1), .val (.ref b2), .val (.int (0 : Int32)), .val (.int p0), .val (.int p1), .val (.int (((p5.toUInt32 >>> ((1 : Int32) &&& 31).toUInt32).toInt32) &&& (7 : Int32))), .val (.int p4), .unset, .unset, .unset] [(.int p1)]))
              refine go (fun t kt => XS.iconst X6.here hx rfl (hb hby at_122) kt) ?_
              show Goes p.tables e below _ (T6.setTop (mkF m 123 #[.val (.int p0), .val (.int p1), .val (.int p2), .val (.int p3), .val (.int p4), .val (.int p5), .val (.ref b1), .val (.ref b2), .val (.int (0 : Int32)), .val (.int p0), .val (.int p1), .val (.int (((p5.toUInt32 >>> ((1 : Int32) &&& 31).toUInt32).toInt32) &&& (7 : Int32))), .val (.int p4), .unset, .unset, .unset] [(.int (1 : Int32)), (.int p1)]))
              refine go (fun t kt => XS.iadd X6.here hx rfl (hb hby at_123) rfl kt) ?_
              show Goes p.tables e below _ (T6.setTop (mkF m 124 #[.val (.int p0), .val (.int p1), .val (.int p2), .val (.int p3), .val (.int p4), .val (.int p5), .val (.ref b1), .val (.ref b2), .val (.int (0 : Int32)), .val (.int p0), .val (.int p1), .val (.int (((p5.toUInt32 >>> ((1 : Int32) &&& 31).toUInt32).toInt32) &&& (7 : Int32))), .val (.int p4), .unset, .unset, .unset] [(.int (p1 + (1 : Int32)))]))
              refine go (fun t kt => XS.istore X6.here hx rfl (hb hby at_124) rfl (l' := #[.val (.int p0), .val (.int p1), .val (.int p2), .val (.int p3), .val (.int p4), .val (.int p5), .val (.ref b1), .val (.ref b2), .val (.int (0 : Int32)), .val (.int p0), .val (.int p1), .val (.int (((p5.toUInt32 >>> ((1 : Int32) &&& 31).toUInt32).toInt32) &&& (7 : Int32))), .val (.int (p1 + (1 : Int32))), .unset, .unset, .unset]) rfl kt) ?_
              show Goes p.tables e below _ (T6.setTop (mkF m 126 #[.val (.int p0), .val (.int p1), .val (.int p2), .val (.int p3), .val (.int p4), .val (.int p5), .val (.ref b1), .val (.ref b2), .val (.int (0 : Int32)), .val (.int p0), .val (.int p1), .val (.int (((p5.toUInt32 >>> ((1 : Int32) &&& 31).toUInt32).toInt32) &&& (7 : Int32))), .val (.int (p1 + (1 : Int32))), .unset, .unset, .unset] []))
              exact KK _ (by rw [if_neg hc9, if_neg hc10, if_neg hc11, if_pos hc12])
            ·
              refine go (fun t kt => XS.icmpYes X6.here hx rfl (pc0 := 117) (pc' := 126) rfl (hb hby at_117) rfl (feq hc12).2 (by decide) (by decide) kt) ?_
              show Goes p.tables e below _ (T6.setTop (mkF m 126 #[.val (.int p0), .val (.int p1), .val (.int p2), .val (.int p3), .val (.int p4), .val (.int p5), .val (.ref b1), .val (.ref b2), .val (.int (0 : Int32)), .val (.int p0), .val (.int p1), .val (.int (((p5.toUInt32 >>> ((1 : Int32) &&& 31).toUInt32).toInt32) &&& (7 : Int32))), .val (.int p4), .unset, .unset, .unset] []))
              exact KK _ (by rw [if_neg hc9, if_neg hc10, if_neg hc11, if_neg hc12])
    intro m8 hm8
    show Goes p.tables e below _ (T6.setTop (mkF m 126 #[.val (.int p0), .val (.int p1), .val (.int p2), .val (.int p3), .val (.int p4), .val (.int p5), .val (.ref b1), .val (.ref b2), .val (.int (0 : Int32)), .val (.int p0), .val (.int p1), .val (.int (((p5.toUInt32 >>> ((1 : Int32) &&& 31).toUInt32).toInt32) &&& (7 : Int32))), .val (.int m8), .unset, .unset, .unset] []))
    obtain ⟨T13, h13, X13, e13, E13, A13, D13, -, st13⟩ := newO X6 hx hZ hown (hw _ (List.mem_of_getElem? (i := 1) rfl)) (hw _ (List.mem_of_getElem? (i := 2) rfl)) (hw _ (List.mem_of_getElem? (i := 3) rfl)) e6 (g := (mkF m 126 #[.val (.int p0), .val (.int p1), .val (.int p2), .val (.int p3), .val (.int p4), .val (.int p5), .val (.ref b1), .val (.ref b2), .val (.int (0 : Int32)), .val (.int p0), .val (.int p1), .val (.int (((p5.toUInt32 >>> ((1 : Int32) &&& 31).toUInt32).toInt32) &&& (7 : Int32))), .val (.int m8), .unset, .unset, .unset] [])) rfl (hb hby at_126) (by decide) (by decide)
    obtain ⟨b13, g13⟩ : ∃ z, z = h6.size := ⟨_, rfl⟩
    rw [← g13] at A13 D13 st13
    have ne_b1_b13 : b1 ≠ b13 := Nat.ne_of_lt (Nat.lt_of_lt_of_le E_b1.lt (Nat.le_of_eq g13.symm))
    have ne_b2_b13 : b2 ≠ b13 := Nat.ne_of_lt (Nat.lt_of_lt_of_le E_b2.lt (Nat.le_of_eq g13.symm))
    have g_b13 : n0 ≤ b13 := Nat.le_trans Zz6 (Nat.le_of_eq g13.symm)
    have sz_b13 : h0.size ≤ b13 := Nat.le_trans Kk6.1 (Nat.le_of_eq g13.symm)
    replace S_DEFAULTCAPACITY_EMPTY_ELEMENTDATA := S_DEFAULTCAPACITY_EMPTY_ELEMENTDATA.ext E13
    replace E_b1 := E_b1.ext E13
    replace V_b1 := V_b1.ext E13
    replace E_b2 := E_b2.ext E13
    replace V_b2 := V_b2.ext E13
    have Zz13 := Nat.le_trans Zz6 E13.1
    have Kk13 := Kk6.ext E13
    have E_b13 := A13
    have F_names_b13 : Fld Z h13 b13 "com/example/anytime_arena/anytimearena/io/VariableTable" "names" "Ljava/util/List;" .null := D13 (Or.inr (hw _ (List.mem_of_getElem? (i := 35) rfl))) (ty := (.object "java/util/List")) (by decide)
    have F_types_b13 : Fld Z h13 b13 "com/example/anytime_arena/anytimearena/io/VariableTable" "types" "Ljava/util/List;" .null := D13 (Or.inr (hw _ (List.mem_of_getElem? (i := 37) rfl))) (ty := (.object "java/util/List")) (by decide)
    have F_owners_b13 : Fld Z h13 b13 "com/example/anytime_arena/anytimearena/io/VariableTable" "owners" "Ljava/util/List;" .null := D13 (Or.inr (hw _ (List.mem_of_getElem? (i := 39) rfl))) (ty := (.object "java/util/List")) (by decide)
    have F_slots_b13 : Fld Z h13 b13 "com/example/anytime_arena/anytimearena/io/VariableTable" "slots" "Ljava/util/Map;" .null := D13 (Or.inr (hw _ (List.mem_of_getElem? (i := 57) rfl))) (ty := (.object "java/util/Map")) (by decide)
    have F_low_b13 : Fld Z h13 b13 "com/example/anytime_arena/anytimearena/io/VariableTable" "low" "[I" .null := D13 (Or.inl (hw _ (List.mem_of_getElem? (i := 59) rfl))) (ty := (.array .int)) (by decide)
    have F_high_b13 : Fld Z h13 b13 "com/example/anytime_arena/anytimearena/io/VariableTable" "high" "[I" .null := D13 (Or.inl (hw _ (List.mem_of_getElem? (i := 61) rfl))) (ty := (.array .int)) (by decide)
    refine go st13 ?_
    show Goes p.tables e below _ (T13.setTop (mkF m 129 #[.val (.int p0), .val (.int p1), .val (.int p2), .val (.int p3), .val (.int p4), .val (.int p5), .val (.ref b1), .val (.ref b2), .val (.int (0 : Int32)), .val (.int p0), .val (.int p1), .val (.int (((p5.toUInt32 >>> ((1 : Int32) &&& 31).toUInt32).toInt32) &&& (7 : Int32))), .val (.int m8), .unset, .unset, .unset] [(.ref b13)]))
    refine go (fun t kt => XS.dup X13.here hx rfl (hb hby at_129) rfl rfl kt) ?_
    show Goes p.tables e below _ (T13.setTop (mkF m 130 #[.val (.int p0), .val (.int p1), .val (.int p2), .val (.int p3), .val (.int p4), .val (.int p5), .val (.ref b1), .val (.ref b2), .val (.int (0 : Int32)), .val (.int p0), .val (.int p1), .val (.int (((p5.toUInt32 >>> ((1 : Int32) &&& 31).toUInt32).toInt32) &&& (7 : Int32))), .val (.int m8), .unset, .unset, .unset] [(.ref b13), (.ref b13)]))
    obtain ⟨_, _, ⟨T14, L14, k14, n14⟩, -, X14, ⟨Lc14, hQ14, l14, y14, z14⟩, st14⟩ := X13.specialBack hx (y := (⟨"com/example/anytime_arena/anytimearena/io/VariableTable", "<init>", "()V"⟩ : MethodName)) rfl hown (mvT hZ (hw _ (List.mem_of_getElem? (i := 4) rfl))) (mvT hZ (hw _ (List.mem_of_getElem? (i := 5) rfl))) (mvT hZ (hw _ (List.mem_of_getElem? (i := 6) rfl))) (by decide) (backOf (W := 1) (rm1 l Z a0 hw [] b13 .null .null .null .null .null .null sd h13 n0 Zz13 E_b13 F_names_b13 F_types_b13 F_owners_b13 F_slots_b13 F_low_b13 F_high_b13 S_DEFAULTCAPACITY_EMPTY_ELEMENTDATA g_b13) hZ (hw _ (List.mem_of_getElem? (i := 6) rfl)) (hw _ (List.mem_of_getElem? (i := 3) rfl)) (by decide) (by decide)) (g := (mkF m 130 #[.val (.int p0), .val (.int p1), .val (.int p2), .val (.int p3), .val (.int p4), .val (.int p5), .val (.ref b1), .val (.ref b2), .val (.int (0 : Int32)), .val (.int p0), .val (.int p1), .val (.int (((p5.toUInt32 >>> ((1 : Int32) &&& 31).toUInt32).toInt32) &&& (7 : Int32))), .val (.int m8), .unset, .unset, .unset] [(.ref b13), (.ref b13)])) rfl (by rw [hml]; rfl) (Steps.refl _) (a := b13) (argsL := []) (rest := [(.ref b13)]) (lenOf pd_0 rfl) rfl (by show 2 * 0 + _ ≤ _; exact Nat.le_of_eq rfl) (hb hby at_130) (fun _ _ => ⟨rfl, e13, (by decide : 3 + 6 ≤ _), (by decide : 10 + 17 ≤ _)⟩)
    dsimp only [Pt.U, Pt.locs, Pt.cells, Pt.slots] at X14 l14 y14 z14 st14 hQ14
    subst l14 y14 z14
    obtain ⟨rfl, Nq14, Kq14, Eq14, ⟨ul14, Fl14⟩, ⟨uh14, Fh14⟩⟩ := hQ14
    replace S_DEFAULTCAPACITY_EMPTY_ELEMENTDATA := own_sta_keep S_DEFAULTCAPACITY_EMPTY_ELEMENTDATA E_b13 Kq14
    replace E_b1 := E_b1.keep Kq14
    replace V_b1 := V_b1.keep Kq14 (ninS ne_b1_b13 nin0)
    replace E_b2 := E_b2.keep Kq14
    replace V_b2 := V_b2.keep Kq14 (ninS ne_b2_b13 nin0)
    replace E_b13 := E_b13.keep Kq14
    clear F_names_b13
    clear F_types_b13
    clear F_owners_b13
    clear F_slots_b13
    clear F_low_b13
    clear F_high_b13
    have Zz14 := Nat.le_trans Zz13 Kq14.1
    have Kk14 := Kk13.trans Kq14 (allS (Or.inr sz_b13) all0)
    have E_b13 := Eq14
    have F_low_b13 := Fl14
    have F_high_b13 := Fh14
    have N14 := Fr.app N6 Nq14
    refine go (fun t kt => st14.trans kt) ?_
    show Goes p.tables e below _ (T14.setTop (mkF m 133 #[.val (.int p0), .val (.int p1), .val (.int p2), .val (.int p3), .val (.int p4), .val (.int p5), .val (.ref b1), .val (.ref b2), .val (.int (0 : Int32)), .val (.int p0), .val (.int p1), .val (.int (((p5.toUInt32 >>> ((1 : Int32) &&& 31).toUInt32).toInt32) &&& (7 : Int32))), .val (.int m8), .unset, .unset, .unset] [(.ref b13)]))
    refine go (fun t kt => XS.astore X14.here hx rfl (hb hby at_133) rfl rfl (l' := #[.val (.int p0), .val (.int p1), .val (.int p2), .val (.int p3), .val (.int p4), .val (.int p5), .val (.ref b1), .val (.ref b2), .val (.int (0 : Int32)), .val (.int p0), .val (.int p1), .val (.int (((p5.toUInt32 >>> ((1 : Int32) &&& 31).toUInt32).toInt32) &&& (7 : Int32))), .val (.int m8), .val (.ref b13), .unset, .unset]) rfl kt) ?_
    show Goes p.tables e below _ (T14.setTop (mkF m 135 #[.val (.int p0), .val (.int p1), .val (.int p2), .val (.int p3), .val (.int p4), .val (.int p5), .val (.ref b1), .val (.ref b2), .val (.int (0 : Int32)), .val (.int p0), .val (.int p1), .val (.int (((p5.toUInt32 >>> ((1 : Int32) &&& 31).toUInt32).toInt32) &&& (7 : Int32))), .val (.int m8), .val (.ref b13), .unset, .unset] []))
    refine go (fun t kt => XS.aload X14.here hx rfl (hb hby at_135) rfl rfl kt) ?_
    show Goes p.tables e below _ (T14.setTop (mkF m 137 #[.val (.int p0), .val (.int p1), .val (.int p2), .val (.int p3), .val (.int p4), .val (.int p5), .val (.ref b1), .val (.ref b2), .val (.int (0 : Int32)), .val (.int p0), .val (.int p1), .val (.int (((p5.toUInt32 >>> ((1 : Int32) &&& 31).toUInt32).toInt32) &&& (7 : Int32))), .val (.int m8), .val (.ref b13), .unset, .unset] [(.ref b13)]))
    refine go (fun t kt => XS.aload X14.here hx rfl (hb hby at_137) rfl rfl kt) ?_
    show Goes p.tables e below _ (T14.setTop (mkF m 139 #[.val (.int p0), .val (.int p1), .val (.int p2), .val (.int p3), .val (.int p4), .val (.int p5), .val (.ref b1), .val (.ref b2), .val (.int (0 : Int32)), .val (.int p0), .val (.int p1), .val (.int (((p5.toUInt32 >>> ((1 : Int32) &&& 31).toUInt32).toInt32) &&& (7 : Int32))), .val (.int m8), .val (.ref b13), .unset, .unset] [(.ref b1), (.ref b13)]))
    refine go (fun t kt => XS.aload X14.here hx rfl (hb hby at_139) rfl rfl kt) ?_
    show Goes p.tables e below _ (T14.setTop (mkF m 141 #[.val (.int p0), .val (.int p1), .val (.int p2), .val (.int p3), .val (.int p4), .val (.int p5), .val (.ref b1), .val (.ref b2), .val (.int (0 : Int32)), .val (.int p0), .val (.int p1), .val (.int (((p5.toUInt32 >>> ((1 : Int32) &&& 31).toUInt32).toInt32) &&& (7 : Int32))), .val (.int m8), .val (.ref b13), .unset, .unset] [(.ref b2), (.ref b1), (.ref b13)]))
    obtain ⟨cq15, kq15, q15a, q15b, q15c⟩ := isOf hZ rfl E_b13
    obtain ⟨_, _, ⟨T15, L15, k15, n15⟩, -, X15, ⟨Lc15, hQ15, l15, y15, z15⟩, st15⟩ := X14.virtualBack hx (y := (⟨"com/example/anytime_arena/anytimearena/io/VariableTable", "setRanges", "([I[I)V"⟩ : MethodName)) (z := (⟨"com/example/anytime_arena/anytimearena/io/VariableTable", "setRanges", "([I[I)V"⟩ : MethodName)) hown (mvT hZ (hw _ (List.mem_of_getElem? (i := 62) rfl))) (mvT hZ (hw _ (List.mem_of_getElem? (i := 63) rfl))) (notFace_of_selects (args := #[]) (mvT hZ (hw _ (List.mem_of_getElem? (i := 65) rfl)))) (mvT hZ (hw _ (List.mem_of_getElem? (i := 65) rfl))) (mvT hZ (hw _ (List.mem_of_getElem? (i := 64) rfl))) (by decide) (backOf (W := 0) (rm8 l Z a0 hw [] b13 b1 b2 ul14 uh14 k1 (2 : Int32) [(.int p0), (.int p2)] k2 (2 : Int32) [(.int p1), (.int p3)] T14.heap n0 Zz14 E_b13 F_low_b13 F_high_b13 E_b1 V_b1 E_b2 V_b2 (Ne.symm ne_b1_b13) (Ne.symm ne_b2_b13) g_b13 (by decide) (by decide)) hZ (hw _ (List.mem_of_getElem? (i := 66) rfl)) (hw _ (List.mem_of_getElem? (i := 3) rfl)) (by decide) (by decide)) q15a q15c (g := (mkF m 141 #[.val (.int p0), .val (.int p1), .val (.int p2), .val (.int p3), .val (.int p4), .val (.int p5), .val (.ref b1), .val (.ref b2), .val (.int (0 : Int32)), .val (.int p0), .val (.int p1), .val (.int (((p5.toUInt32 >>> ((1 : Int32) &&& 31).toUInt32).toInt32) &&& (7 : Int32))), .val (.int m8), .val (.ref b13), .unset, .unset] [(.ref b2), (.ref b1), (.ref b13)])) rfl (by rw [hml]; rfl) (Steps.refl _) (argsL := [(.ref b1), (.ref b2)]) (rest := []) (lenOf pd_1 rfl) rfl (by show 2 * 0 + _ ≤ _; exact Nat.le_of_eq rfl) (hb hby at_141) (fun _ _ => ⟨rfl, rfl, (by decide : 9 + 2 ≤ _), (by decide : 27 + 4 ≤ _)⟩)
    dsimp only [Pt.U, Pt.locs, Pt.cells, Pt.slots] at X15 l15 y15 z15 st15 hQ15
    subst l15 y15 z15
    obtain ⟨rfl, Nq15, Kq15, Eq15, c15, d15, lc15, ld15, ne_c15_d15, Fl15, Fh15, Ec15, Vc15, Ed15, Vd15⟩ := hQ15
    have ne_b1_c15 : b1 ≠ c15 := Nat.ne_of_lt (Nat.lt_of_lt_of_le E_b1.lt lc15)
    have ne_b2_c15 : b2 ≠ c15 := Nat.ne_of_lt (Nat.lt_of_lt_of_le E_b2.lt lc15)
    have ne_b13_c15 : b13 ≠ c15 := Nat.ne_of_lt (Nat.lt_of_lt_of_le E_b13.lt lc15)
    have g_c15 : n0 ≤ c15 := Nat.le_trans Zz14 lc15
    have sz_c15 : h0.size ≤ c15 := Nat.le_trans Kk14.1 lc15
    have ne_b1_d15 : b1 ≠ d15 := Nat.ne_of_lt (Nat.lt_of_lt_of_le E_b1.lt ld15)
    have ne_b2_d15 : b2 ≠ d15 := Nat.ne_of_lt (Nat.lt_of_lt_of_le E_b2.lt ld15)
    have ne_b13_d15 : b13 ≠ d15 := Nat.ne_of_lt (Nat.lt_of_lt_of_le E_b13.lt ld15)
    have g_d15 : n0 ≤ d15 := Nat.le_trans Zz14 ld15
    have sz_d15 : h0.size ≤ d15 := Nat.le_trans Kk14.1 ld15
    replace S_DEFAULTCAPACITY_EMPTY_ELEMENTDATA := own_sta_keep S_DEFAULTCAPACITY_EMPTY_ELEMENTDATA E_b13 Kq15
    replace E_b1 := E_b1.keep Kq15
    replace V_b1 := V_b1.keep Kq15 (ninS ne_b1_b13 nin0)
    replace E_b2 := E_b2.keep Kq15
    replace V_b2 := V_b2.keep Kq15 (ninS ne_b2_b13 nin0)
    replace E_b13 := E_b13.keep Kq15
    clear F_low_b13
    clear F_high_b13
    have Zz15 := Nat.le_trans Zz14 Kq15.1
    have Kk15 := Kk14.trans Kq15 (allS (Or.inr sz_b13) all0)
    have E_b13 := Eq15
    have F_low_b13 := Fl15
    have F_high_b13 := Fh15
    have E_c15 := Ec15
    have V_c15 := Vc15
    have E_d15 := Ed15
    have V_d15 := Vd15
    have N15 := Fr.app N14 Nq15
    refine go (fun t kt => st15.trans kt) ?_
    show Goes p.tables e below _ (T15.setTop (mkF m 144 #[.val (.int p0), .val (.int p1), .val (.int p2), .val (.int p3), .val (.int p4), .val (.int p5), .val (.ref b1), .val (.ref b2), .val (.int (0 : Int32)), .val (.int p0), .val (.int p1), .val (.int (((p5.toUInt32 >>> ((1 : Int32) &&& 31).toUInt32).toInt32) &&& (7 : Int32))), .val (.int m8), .val (.ref b13), .unset, .unset] []))
    refine go (fun t kt => XS.aload X15.here hx rfl (hb hby at_144) rfl rfl kt) ?_
    show Goes p.tables e below _ (T15.setTop (mkF m 146 #[.val (.int p0), .val (.int p1), .val (.int p2), .val (.int p3), .val (.int p4), .val (.int p5), .val (.ref b1), .val (.ref b2), .val (.int (0 : Int32)), .val (.int p0), .val (.int p1), .val (.int (((p5.toUInt32 >>> ((1 : Int32) &&& 31).toUInt32).toInt32) &&& (7 : Int32))), .val (.int m8), .val (.ref b13), .unset, .unset] [(.ref b1)]))
    refine go (fun t kt => XS.iconst X15.here hx rfl (hb hby at_146) kt) ?_
    show Goes p.tables e below _ (T15.setTop (mkF m 147 #[.val (.int p0), .val (.int p1), .val (.int p2), .val (.int p3), .val (.int p4), .val (.int p5), .val (.ref b1), .val (.ref b2), .val (.int (0 : Int32)), .val (.int p0), .val (.int p1), .val (.int (((p5.toUInt32 >>> ((1 : Int32) &&& 31).toUInt32).toInt32) &&& (7 : Int32))), .val (.int m8), .val (.ref b13), .unset, .unset] [(.int (0 : Int32)), (.ref b1)]))
    refine go (X15.ldcInt hx hown (mvT hZ (hw _ (List.mem_of_getElem? (i := 76) rfl))) (g := (mkF m 147 #[.val (.int p0), .val (.int p1), .val (.int p2), .val (.int p3), .val (.int p4), .val (.int p5), .val (.ref b1), .val (.ref b2), .val (.int (0 : Int32)), .val (.int p0), .val (.int p1), .val (.int (((p5.toUInt32 >>> ((1 : Int32) &&& 31).toUInt32).toInt32) &&& (7 : Int32))), .val (.int m8), .val (.ref b13), .unset, .unset] [(.int (0 : Int32)), (.ref b1)])) rfl (hb hby at_147)) ?_
    show Goes p.tables e below _ (T15.setTop (mkF m 149 #[.val (.int p0), .val (.int p1), .val (.int p2), .val (.int p3), .val (.int p4), .val (.int p5), .val (.ref b1), .val (.ref b2), .val (.int (0 : Int32)), .val (.int p0), .val (.int p1), .val (.int (((p5.toUInt32 >>> ((1 : Int32) &&& 31).toUInt32).toInt32) &&& (7 : Int32))), .val (.int m8), .val (.ref b13), .unset, .unset] [(.int (-2147483648 : Int32)), (.int (0 : Int32)), (.ref b1)]))
    obtain ⟨cl16, Ar16, q16, S16, M16, H16, G16⟩ := V_b1
    have hin16 : ¬ ((0 : Int32) < 0 ∨ cl16.slots.size ≤ ((0 : Int32)).toNatClampNeg) := inb_of S16 ⟨by decide, by decide⟩
    obtain ⟨T16, h16, X16, e16, W16, st16⟩ := stI X15 hx hZ rfl Ar16 (j := (0 : Int32)) hin16 (g := (mkF m 149 #[.val (.int p0), .val (.int p1), .val (.int p2), .val (.int p3), .val (.int p4), .val (.int p5), .val (.ref b1), .val (.ref b2), .val (.int (0 : Int32)), .val (.int p0), .val (.int p1), .val (.int (((p5.toUInt32 >>> ((1 : Int32) &&& 31).toUInt32).toInt32) &&& (7 : Int32))), .val (.int m8), .val (.ref b13), .unset, .unset] [(.int (-2147483648 : Int32)), (.int (0 : Int32)), (.ref b1)])) rfl rfl (hb hby at_149)
    have V_b1 : Arv Z h16 b1 k1 .int (2 : Int32) [(.int (-2147483648 : Int32)), (.int p2)] (.int (0 : Int32)) := Arv.set Ar16 q16 S16 M16 H16 G16 rfl W16 0 rfl (Nat.le_of_ble_eq_true rfl)
    replace S_DEFAULTCAPACITY_EMPTY_ELEMENTDATA := S_DEFAULTCAPACITY_EMPTY_ELEMENTDATA.wr W16
    replace E_b1 := E_b1.wr W16
    replace E_b2 := E_b2.wr W16
    replace V_b2 := V_b2.other W16 (Ne.symm ne_b1_b2)
    replace E_b13 := E_b13.wr W16
    replace F_low_b13 := F_low_b13.other W16 (Or.inl (Ne.symm ne_b1_b13))
    replace F_high_b13 := F_high_b13.other W16 (Or.inl (Ne.symm ne_b1_b13))
    replace E_c15 := E_c15.wr W16
    replace V_c15 := V_c15.other W16 (Ne.symm ne_b1_c15)
    replace E_d15 := E_d15.wr W16
    replace V_d15 := V_d15.other W16 (Ne.symm ne_b1_d15)
    have Zz16 := Nat.le_trans Zz15 (Keep.of_wr W16).1
    have Kk16 := Kk15.wr W16 (Or.inr sz_b1)
    have N16 := Fr.snoc X16 N15 g_b1
    refine go st16 ?_
    show Goes p.tables e below _ (T16.setTop (mkF m 150 #[.val (.int p0), .val (.int p1), .val (.int p2), .val (.int p3), .val (.int p4), .val (.int p5), .val (.ref b1), .val (.ref b2), .val (.int (0 : Int32)), .val (.int p0), .val (.int p1), .val (.int (((p5.toUInt32 >>> ((1 : Int32) &&& 31).toUInt32).toInt32) &&& (7 : Int32))), .val (.int m8), .val (.ref b13), .unset, .unset] []))
    refine go (fun t kt => XS.aload X16.here hx rfl (hb hby at_150) rfl rfl kt) ?_
    show Goes p.tables e below _ (T16.setTop (mkF m 152 #[.val (.int p0), .val (.int p1), .val (.int p2), .val (.int p3), .val (.int p4), .val (.int p5), .val (.ref b1), .val (.ref b2), .val (.int (0 : Int32)), .val (.int p0), .val (.int p1), .val (.int (((p5.toUInt32 >>> ((1 : Int32) &&& 31).toUInt32).toInt32) &&& (7 : Int32))), .val (.int m8), .val (.ref b13), .unset, .unset] [(.ref b2)]))
    refine go (fun t kt => XS.iconst X16.here hx rfl (hb hby at_152) kt) ?_
    show Goes p.tables e below _ (T16.setTop (mkF m 153 #[.val (.int p0), .val (.int p1), .val (.int p2), .val (.int p3), .val (.int p4), .val (.int p5), .val (.ref b1), .val (.ref b2), .val (.int (0 : Int32)), .val (.int p0), .val (.int p1), .val (.int (((p5.toUInt32 >>> ((1 : Int32) &&& 31).toUInt32).toInt32) &&& (7 : Int32))), .val (.int m8), .val (.ref b13), .unset, .unset] [(.int (0 : Int32)), (.ref b2)]))
    refine go (X16.ldcInt hx hown (mvT hZ (hw _ (List.mem_of_getElem? (i := 77) rfl))) (g := (mkF m 153 #[.val (.int p0), .val (.int p1), .val (.int p2), .val (.int p3), .val (.int p4), .val (.int p5), .val (.ref b1), .val (.ref b2), .val (.int (0 : Int32)), .val (.int p0), .val (.int p1), .val (.int (((p5.toUInt32 >>> ((1 : Int32) &&& 31).toUInt32).toInt32) &&& (7 : Int32))), .val (.int m8), .val (.ref b13), .unset, .unset] [(.int (0 : Int32)), (.ref b2)])) rfl (hb hby at_153)) ?_
    show Goes p.tables e below _ (T16.setTop (mkF m 155 #[.val (.int p0), .val (.int p1), .val (.int p2), .val (.int p3), .val (.int p4), .val (.int p5), .val (.ref b1), .val (.ref b2), .val (.int (0 : Int32)), .val (.int p0), .val (.int p1), .val (.int (((p5.toUInt32 >>> ((1 : Int32) &&& 31).toUInt32).toInt32) &&& (7 : Int32))), .val (.int m8), .val (.ref b13), .unset, .unset] [(.int (2147483647 : Int32)), (.int (0 : Int32)), (.ref b2)]))
    obtain ⟨cl17, Ar17, q17, S17, M17, H17, G17⟩ := V_b2
    have hin17 : ¬ ((0 : Int32) < 0 ∨ cl17.slots.size ≤ ((0 : Int32)).toNatClampNeg) := inb_of S17 ⟨by decide, by decide⟩
    obtain ⟨T17, h17, X17, e17, W17, st17⟩ := stI X16 hx hZ e16 Ar17 (j := (0 : Int32)) hin17 (g := (mkF m 155 #[.val (.int p0), .val (.int p1), .val (.int p2), .val (.int p3), .val (.int p4), .val (.int p5), .val (.ref b1), .val (.ref b2), .val (.int (0 : Int32)), .val (.int p0), .val (.int p1), .val (.int (((p5.toUInt32 >>> ((1 : Int32) &&& 31).toUInt32).toInt32) &&& (7 : Int32))), .val (.int m8), .val (.ref b13), .unset, .unset] [(.int (2147483647 : Int32)), (.int (0 : Int32)), (.ref b2)])) rfl rfl (hb hby at_155)
    have V_b2 : Arv Z h17 b2 k2 .int (2 : Int32) [(.int (2147483647 : Int32)), (.int p3)] (.int (0 : Int32)) := Arv.set Ar17 q17 S17 M17 H17 G17 rfl W17 0 rfl (Nat.le_of_ble_eq_true rfl)
    replace S_DEFAULTCAPACITY_EMPTY_ELEMENTDATA := S_DEFAULTCAPACITY_EMPTY_ELEMENTDATA.wr W17
    replace E_b1 := E_b1.wr W17
    replace V_b1 := V_b1.other W17 ne_b1_b2
    replace E_b2 := E_b2.wr W17
    replace E_b13 := E_b13.wr W17
    replace F_low_b13 := F_low_b13.other W17 (Or.inl (Ne.symm ne_b2_b13))
    replace F_high_b13 := F_high_b13.other W17 (Or.inl (Ne.symm ne_b2_b13))
    replace E_c15 := E_c15.wr W17
    replace V_c15 := V_c15.other W17 (Ne.symm ne_b2_c15)
    replace E_d15 := E_d15.wr W17
    replace V_d15 := V_d15.other W17 (Ne.symm ne_b2_d15)
    have Zz17 := Nat.le_trans Zz16 (Keep.of_wr W17).1
    have Kk17 := Kk16.wr W17 (Or.inr sz_b2)
    have N17 := Fr.snoc X17 N16 g_b2
    refine go st17 ?_
    show Goes p.tables e below _ (T17.setTop (mkF m 156 #[.val (.int p0), .val (.int p1), .val (.int p2), .val (.int p3), .val (.int p4), .val (.int p5), .val (.ref b1), .val (.ref b2), .val (.int (0 : Int32)), .val (.int p0), .val (.int p1), .val (.int (((p5.toUInt32 >>> ((1 : Int32) &&& 31).toUInt32).toInt32) &&& (7 : Int32))), .val (.int m8), .val (.ref b13), .unset, .unset] []))
    refine go (fun t kt => XS.aload X17.here hx rfl (hb hby at_156) rfl rfl kt) ?_
    show Goes p.tables e below _ (T17.setTop (mkF m 158 #[.val (.int p0), .val (.int p1), .val (.int p2), .val (.int p3), .val (.int p4), .val (.int p5), .val (.ref b1), .val (.ref b2), .val (.int (0 : Int32)), .val (.int p0), .val (.int p1), .val (.int (((p5.toUInt32 >>> ((1 : Int32) &&& 31).toUInt32).toInt32) &&& (7 : Int32))), .val (.int m8), .val (.ref b13), .unset, .unset] [(.ref b1)]))
    refine go (fun t kt => XS.iconst X17.here hx rfl (hb hby at_158) kt) ?_
    show Goes p.tables e below _ (T17.setTop (mkF m 159 #[.val (.int p0), .val (.int p1), .val (.int p2), .val (.int p3), .val (.int p4), .val (.int p5), .val (.ref b1), .val (.ref b2), .val (.int (0 : Int32)), .val (.int p0), .val (.int p1), .val (.int (((p5.toUInt32 >>> ((1 : Int32) &&& 31).toUInt32).toInt32) &&& (7 : Int32))), .val (.int m8), .val (.ref b13), .unset, .unset] [(.int (1 : Int32)), (.ref b1)]))
    refine go (X17.ldcInt hx hown (mvT hZ (hw _ (List.mem_of_getElem? (i := 76) rfl))) (g := (mkF m 159 #[.val (.int p0), .val (.int p1), .val (.int p2), .val (.int p3), .val (.int p4), .val (.int p5), .val (.ref b1), .val (.ref b2), .val (.int (0 : Int32)), .val (.int p0), .val (.int p1), .val (.int (((p5.toUInt32 >>> ((1 : Int32) &&& 31).toUInt32).toInt32) &&& (7 : Int32))), .val (.int m8), .val (.ref b13), .unset, .unset] [(.int (1 : Int32)), (.ref b1)])) rfl (hb hby at_159)) ?_
    show Goes p.tables e below _ (T17.setTop (mkF m 161 #[.val (.int p0), .val (.int p1), .val (.int p2), .val (.int p3), .val (.int p4), .val (.int p5), .val (.ref b1), .val (.ref b2), .val (.int (0 : Int32)), .val (.int p0), .val (.int p1), .val (.int (((p5.toUInt32 >>> ((1 : Int32) &&& 31).toUInt32).toInt32) &&& (7 : Int32))), .val (.int m8), .val (.ref b13), .unset, .unset] [(.int (-2147483648 : Int32)), (.int (1 : Int32)), (.ref b1)]))
    obtain ⟨cl18, Ar18, q18, S18, M18, H18, G18⟩ := V_b1
    have hin18 : ¬ ((1 : Int32) < 0 ∨ cl18.slots.size ≤ ((1 : Int32)).toNatClampNeg) := inb_of S18 ⟨by decide, by decide⟩
    obtain ⟨T18, h18, X18, e18, W18, st18⟩ := stI X17 hx hZ e17 Ar18 (j := (1 : Int32)) hin18 (g := (mkF m 161 #[.val (.int p0), .val (.int p1), .val (.int p2), .val (.int p3), .val (.int p4), .val (.int p5), .val (.ref b1), .val (.ref b2), .val (.int (0 : Int32)), .val (.int p0), .val (.int p1), .val (.int (((p5.toUInt32 >>> ((1 : Int32) &&& 31).toUInt32).toInt32) &&& (7 : Int32))), .val (.int m8), .val (.ref b13), .unset, .unset] [(.int (-2147483648 : Int32)), (.int (1 : Int32)), (.ref b1)])) rfl rfl (hb hby at_161)
    have V_b1 : Arv Z h18 b1 k1 .int (2 : Int32) [(.int (-2147483648 : Int32)), (.int (-2147483648 : Int32))] (.int (0 : Int32)) := Arv.set Ar18 q18 S18 M18 H18 G18 rfl W18 1 rfl (Nat.le_of_ble_eq_true rfl)
    replace S_DEFAULTCAPACITY_EMPTY_ELEMENTDATA := S_DEFAULTCAPACITY_EMPTY_ELEMENTDATA.wr W18
    replace E_b1 := E_b1.wr W18
    replace E_b2 := E_b2.wr W18
    replace V_b2 := V_b2.other W18 (Ne.symm ne_b1_b2)
    replace E_b13 := E_b13.wr W18
    replace F_low_b13 := F_low_b13.other W18 (Or.inl (Ne.symm ne_b1_b13))
    replace F_high_b13 := F_high_b13.other W18 (Or.inl (Ne.symm ne_b1_b13))
    replace E_c15 := E_c15.wr W18
    replace V_c15 := V_c15.other W18 (Ne.symm ne_b1_c15)
    replace E_d15 := E_d15.wr W18
    replace V_d15 := V_d15.other W18 (Ne.symm ne_b1_d15)
    have Zz18 := Nat.le_trans Zz17 (Keep.of_wr W18).1
    have Kk18 := Kk17.wr W18 (Or.inr sz_b1)
    have N18 := Fr.snoc X18 N17 g_b1
    refine go st18 ?_
    show Goes p.tables e below _ (T18.setTop (mkF m 162 #[.val (.int p0), .val (.int p1), .val (.int p2), .val (.int p3), .val (.int p4), .val (.int p5), .val (.ref b1), .val (.ref b2), .val (.int (0 : Int32)), .val (.int p0), .val (.int p1), .val (.int (((p5.toUInt32 >>> ((1 : Int32) &&& 31).toUInt32).toInt32) &&& (7 : Int32))), .val (.int m8), .val (.ref b13), .unset, .unset] []))
    refine go (fun t kt => XS.aload X18.here hx rfl (hb hby at_162) rfl rfl kt) ?_
    show Goes p.tables e below _ (T18.setTop (mkF m 164 #[.val (.int p0), .val (.int p1), .val (.int p2), .val (.int p3), .val (.int p4), .val (.int p5), .val (.ref b1), .val (.ref b2), .val (.int (0 : Int32)), .val (.int p0), .val (.int p1), .val (.int (((p5.toUInt32 >>> ((1 : Int32) &&& 31).toUInt32).toInt32) &&& (7 : Int32))), .val (.int m8), .val (.ref b13), .unset, .unset] [(.ref b2)]))
    refine go (fun t kt => XS.iconst X18.here hx rfl (hb hby at_164) kt) ?_
    show Goes p.tables e below _ (T18.setTop (mkF m 165 #[.val (.int p0), .val (.int p1), .val (.int p2), .val (.int p3), .val (.int p4), .val (.int p5), .val (.ref b1), .val (.ref b2), .val (.int (0 : Int32)), .val (.int p0), .val (.int p1), .val (.int (((p5.toUInt32 >>> ((1 : Int32) &&& 31).toUInt32).toInt32) &&& (7 : Int32))), .val (.int m8), .val (.ref b13), .unset, .unset] [(.int (1 : Int32)), (.ref b2)]))
    refine go (X18.ldcInt hx hown (mvT hZ (hw _ (List.mem_of_getElem? (i := 77) rfl))) (g := (mkF m 165 #[.val (.int p0), .val (.int p1), .val (.int p2), .val (.int p3), .val (.int p4), .val (.int p5), .val (.ref b1), .val (.ref b2), .val (.int (0 : Int32)), .val (.int p0), .val (.int p1), .val (.int (((p5.toUInt32 >>> ((1 : Int32) &&& 31).toUInt32).toInt32) &&& (7 : Int32))), .val (.int m8), .val (.ref b13), .unset, .unset] [(.int (1 : Int32)), (.ref b2)])) rfl (hb hby at_165)) ?_
    show Goes p.tables e below _ (T18.setTop (mkF m 167 #[.val (.int p0), .val (.int p1), .val (.int p2), .val (.int p3), .val (.int p4), .val (.int p5), .val (.ref b1), .val (.ref b2), .val (.int (0 : Int32)), .val (.int p0), .val (.int p1), .val (.int (((p5.toUInt32 >>> ((1 : Int32) &&& 31).toUInt32).toInt32) &&& (7 : Int32))), .val (.int m8), .val (.ref b13), .unset, .unset] [(.int (2147483647 : Int32)), (.int (1 : Int32)), (.ref b2)]))
    obtain ⟨cl19, Ar19, q19, S19, M19, H19, G19⟩ := V_b2
    have hin19 : ¬ ((1 : Int32) < 0 ∨ cl19.slots.size ≤ ((1 : Int32)).toNatClampNeg) := inb_of S19 ⟨by decide, by decide⟩
    obtain ⟨T19, h19, X19, e19, W19, st19⟩ := stI X18 hx hZ e18 Ar19 (j := (1 : Int32)) hin19 (g := (mkF m 167 #[.val (.int p0), .val (.int p1), .val (.int p2), .val (.int p3), .val (.int p4), .val (.int p5), .val (.ref b1), .val (.ref b2), .val (.int (0 : Int32)), .val (.int p0), .val (.int p1), .val (.int (((p5.toUInt32 >>> ((1 : Int32) &&& 31).toUInt32).toInt32) &&& (7 : Int32))), .val (.int m8), .val (.ref b13), .unset, .unset] [(.int (2147483647 : Int32)), (.int (1 : Int32)), (.ref b2)])) rfl rfl (hb hby at_167)
    have V_b2 : Arv Z h19 b2 k2 .int (2 : Int32) [(.int (2147483647 : Int32)), (.int (2147483647 : Int32))] (.int (0 : Int32)) := Arv.set Ar19 q19 S19 M19 H19 G19 rfl W19 1 rfl (Nat.le_of_ble_eq_true rfl)
    replace S_DEFAULTCAPACITY_EMPTY_ELEMENTDATA := S_DEFAULTCAPACITY_EMPTY_ELEMENTDATA.wr W19
    replace E_b1 := E_b1.wr W19
    replace V_b1 := V_b1.other W19 ne_b1_b2
    replace E_b2 := E_b2.wr W19
    replace E_b13 := E_b13.wr W19
    replace F_low_b13 := F_low_b13.other W19 (Or.inl (Ne.symm ne_b2_b13))
    replace F_high_b13 := F_high_b13.other W19 (Or.inl (Ne.symm ne_b2_b13))
    replace E_c15 := E_c15.wr W19
    replace V_c15 := V_c15.other W19 (Ne.symm ne_b2_c15)
    replace E_d15 := E_d15.wr W19
    replace V_d15 := V_d15.other W19 (Ne.symm ne_b2_d15)
    have Zz19 := Nat.le_trans Zz18 (Keep.of_wr W19).1
    have Kk19 := Kk18.wr W19 (Or.inr sz_b2)
    have N19 := Fr.snoc X19 N18 g_b2
    refine go st19 ?_
    show Goes p.tables e below _ (T19.setTop (mkF m 168 #[.val (.int p0), .val (.int p1), .val (.int p2), .val (.int p3), .val (.int p4), .val (.int p5), .val (.ref b1), .val (.ref b2), .val (.int (0 : Int32)), .val (.int p0), .val (.int p1), .val (.int (((p5.toUInt32 >>> ((1 : Int32) &&& 31).toUInt32).toInt32) &&& (7 : Int32))), .val (.int m8), .val (.ref b13), .unset, .unset] []))
    refine go (fun t kt => XS.aload X19.here hx rfl (hb hby at_168) rfl rfl kt) ?_
    show Goes p.tables e below _ (T19.setTop (mkF m 170 #[.val (.int p0), .val (.int p1), .val (.int p2), .val (.int p3), .val (.int p4), .val (.int p5), .val (.ref b1), .val (.ref b2), .val (.int (0 : Int32)), .val (.int p0), .val (.int p1), .val (.int (((p5.toUInt32 >>> ((1 : Int32) &&& 31).toUInt32).toInt32) &&& (7 : Int32))), .val (.int m8), .val (.ref b13), .unset, .unset] [(.ref b13)]))
    refine go (fun t kt => XS.iload X19.here hx rfl (hb hby at_170) rfl kt) ?_
    show Goes p.tables e below _ (T19.setTop (mkF m 172 #[.val (.int p0), .val (.int p1), .val (.int p2), .val (.int p3), .val (.int p4), .val (.int p5), .val (.ref b1), .val (.ref b2), .val (.int (0 : Int32)), .val (.int p0), .val (.int p1), .val (.int (((p5.toUInt32 >>> ((1 : Int32) &&& 31).toUInt32).toInt32) &&& (7 : Int32))), .val (.int m8), .val (.ref b13), .unset, .unset] [(.int (0 : Int32)), (.ref b13)]))
    refine go (fun t kt => XS.iload X19.here hx rfl (hb hby at_172) rfl kt) ?_
    show Goes p.tables e below _ (T19.setTop (mkF m 174 #[.val (.int p0), .val (.int p1), .val (.int p2), .val (.int p3), .val (.int p4), .val (.int p5), .val (.ref b1), .val (.ref b2), .val (.int (0 : Int32)), .val (.int p0), .val (.int p1), .val (.int (((p5.toUInt32 >>> ((1 : Int32) &&& 31).toUInt32).toInt32) &&& (7 : Int32))), .val (.int m8), .val (.ref b13), .unset, .unset] [(.int m8), (.int (0 : Int32)), (.ref b13)]))
    obtain ⟨cq20, kq20, q20a, q20b, q20c⟩ := isOf hZ e19 E_b13
    obtain ⟨_, _, ⟨T20, L20, k20, n20⟩, -, X20, ⟨Lc20, hQ20, l20, y20, z20⟩, st20⟩ := X19.virtualBack hx (y := (⟨"com/example/anytime_arena/anytimearena/io/VariableTable", "inRange", "(II)Z"⟩ : MethodName)) (z := (⟨"com/example/anytime_arena/anytimearena/io/VariableTable", "inRange", "(II)Z"⟩ : MethodName)) hown (mvT hZ (hw _ (List.mem_of_getElem? (i := 78) rfl))) (mvT hZ (hw _ (List.mem_of_getElem? (i := 79) rfl))) (notFace_of_selects (args := #[]) (mvT hZ (hw _ (List.mem_of_getElem? (i := 81) rfl)))) (mvT hZ (hw _ (List.mem_of_getElem? (i := 81) rfl))) (mvT hZ (hw _ (List.mem_of_getElem? (i := 80) rfl))) (by decide) (backOf (W := 0) (rm9 l Z a0 hw [] b13 (0 : Int32) m8 c15 d15 k1 (2 : Int32) [(.int p0), (.int p2)] k2 (2 : Int32) [(.int p1), (.int p3)] p0 p1 h19 n0 Zz19 F_low_b13 F_high_b13 V_c15 V_d15 ⟨by decide, by decide⟩ ⟨by decide, by decide⟩ rfl rfl) hZ (hw _ (List.mem_of_getElem? (i := 82) rfl)) (hw _ (List.mem_of_getElem? (i := 3) rfl)) (by decide) (by decide)) q20a q20c (g := (mkF m 174 #[.val (.int p0), .val (.int p1), .val (.int p2), .val (.int p3), .val (.int p4), .val (.int p5), .val (.ref b1), .val (.ref b2), .val (.int (0 : Int32)), .val (.int p0), .val (.int p1), .val (.int (((p5.toUInt32 >>> ((1 : Int32) &&& 31).toUInt32).toInt32) &&& (7 : Int32))), .val (.int m8), .val (.ref b13), .unset, .unset] [(.int m8), (.int (0 : Int32)), (.ref b13)])) rfl (by rw [hml]; rfl) (Steps.refl _) (argsL := [(.int (0 : Int32)), (.int m8)]) (rest := []) (lenOf pd_2 rfl) rfl (by show 2 * 0 + _ ≤ _; exact Nat.le_of_eq rfl) (hb hby at_174) (fun _ _ => ⟨rfl, e19, (by decide : 11 + 0 ≤ _), (by decide : 31 + 0 ≤ _)⟩)
    dsimp only [Pt.U, Pt.locs, Pt.cells, Pt.slots] at X20 l20 y20 z20 st20 hQ20
    subst l20 y20 z20
    obtain ⟨rfl, Nq20, e20⟩ := hQ20
    have N20 := Fr.app N19 Nq20
    refine go (fun t kt => st20.trans kt) ?_
    show Goes p.tables e below _ (T20.setTop (mkF m 177 #[.val (.int p0), .val (.int p1), .val (.int p2), .val (.int p3), .val (.int p4), .val (.int p5), .val (.ref b1), .val (.ref b2), .val (.int (0 : Int32)), .val (.int p0), .val (.int p1), .val (.int (((p5.toUInt32 >>> ((1 : Int32) &&& 31).toUInt32).toInt32) &&& (7 : Int32))), .val (.int m8), .val (.ref b13), .unset, .unset] [(.int (own_inR m8 p0 p1))]))
    refine go (fun t kt => XS.istore X20.here hx rfl (hb hby at_177) rfl (l' := #[.val (.int p0), .val (.int p1), .val (.int p2), .val (.int p3), .val (.int p4), .val (.int p5), .val (.ref b1), .val (.ref b2), .val (.int (0 : Int32)), .val (.int p0), .val (.int p1), .val (.int (((p5.toUInt32 >>> ((1 : Int32) &&& 31).toUInt32).toInt32) &&& (7 : Int32))), .val (.int m8), .val (.ref b13), .val (.int (own_inR m8 p0 p1)), .unset]) rfl kt) ?_
    show Goes p.tables e below _ (T20.setTop (mkF m 179 #[.val (.int p0), .val (.int p1), .val (.int p2), .val (.int p3), .val (.int p4), .val (.int p5), .val (.ref b1), .val (.ref b2), .val (.int (0 : Int32)), .val (.int p0), .val (.int p1), .val (.int (((p5.toUInt32 >>> ((1 : Int32) &&& 31).toUInt32).toInt32) &&& (7 : Int32))), .val (.int m8), .val (.ref b13), .val (.int (own_inR m8 p0 p1)), .unset] []))
    refine go (fun t kt => XS.iload X20.here hx rfl (hb hby at_179) rfl kt) ?_
    show Goes p.tables e below _ (T20.setTop (mkF m 181 #[.val (.int p0), .val (.int p1), .val (.int p2), .val (.int p3), .val (.int p4), .val (.int p5), .val (.ref b1), .val (.ref b2), .val (.int (0 : Int32)), .val (.int p0), .val (.int p1), .val (.int (((p5.toUInt32 >>> ((1 : Int32) &&& 31).toUInt32).toInt32) &&& (7 : Int32))), .val (.int m8), .val (.ref b13), .val (.int (own_inR m8 p0 p1)), .unset] [(.int m8)]))
    refine go (fun t kt => XS.i2l X20.here hx rfl (hb hby at_181) rfl kt) ?_
    show Goes p.tables e below _ (T20.setTop (mkF m 182 #[.val (.int p0), .val (.int p1), .val (.int p2), .val (.int p3), .val (.int p4), .val (.int p5), .val (.ref b1), .val (.ref b2), .val (.int (0 : Int32)), .val (.int p0), .val (.int p1), .val (.int (((p5.toUInt32 >>> ((1 : Int32) &&& 31).toUInt32).toInt32) &&& (7 : Int32))), .val (.int m8), .val (.ref b13), .val (.int (own_inR m8 p0 p1)), .unset] [(.long (m8.toInt64))]))
    refine go (fun t kt => XS.iload X20.here hx rfl (hb hby at_182) rfl kt) ?_
    show Goes p.tables e below _ (T20.setTop (mkF m 184 #[.val (.int p0), .val (.int p1), .val (.int p2), .val (.int p3), .val (.int p4), .val (.int p5), .val (.ref b1), .val (.ref b2), .val (.int (0 : Int32)), .val (.int p0), .val (.int p1), .val (.int (((p5.toUInt32 >>> ((1 : Int32) &&& 31).toUInt32).toInt32) &&& (7 : Int32))), .val (.int m8), .val (.ref b13), .val (.int (own_inR m8 p0 p1)), .unset] [(.int p0), (.long (m8.toInt64))]))
    refine go (fun t kt => XS.i2l X20.here hx rfl (hb hby at_184) rfl kt) ?_
    show Goes p.tables e below _ (T20.setTop (mkF m 185 #[.val (.int p0), .val (.int p1), .val (.int p2), .val (.int p3), .val (.int p4), .val (.int p5), .val (.ref b1), .val (.ref b2), .val (.int (0 : Int32)), .val (.int p0), .val (.int p1), .val (.int (((p5.toUInt32 >>> ((1 : Int32) &&& 31).toUInt32).toInt32) &&& (7 : Int32))), .val (.int m8), .val (.ref b13), .val (.int (own_inR m8 p0 p1)), .unset] [(.long (p0.toInt64)), (.long (m8.toInt64))]))
    refine go (fun t kt => XS.lsub X20.here hx rfl (hb hby at_185) rfl kt) ?_
    show Goes p.tables e below _ (T20.setTop (mkF m 186 #[.val (.int p0), .val (.int p1), .val (.int p2), .val (.int p3), .val (.int p4), .val (.int p5), .val (.ref b1), .val (.ref b2), .val (.int (0 : Int32)), .val (.int p0), .val (.int p1), .val (.int (((p5.toUInt32 >>> ((1 : Int32) &&& 31).toUInt32).toInt32) &&& (7 : Int32))), .val (.int m8), .val (.ref b13), .val (.int (own_inR m8 p0 p1)), .unset] [(.long ((m8.toInt64) - (p0.toInt64)))]))
    refine go (fun t kt => XS.lconst X20.here hx rfl (hb hby at_186) kt) ?_
    show Goes p.tables e below _ (T20.setTop (mkF m 187 #[.val (.int p0), .val (.int p1), .val (.int p2), .val (.int p3), .val (.int p4), .val (.int p5), .val (.ref b1), .val (.ref b2), .val (.int (0 : Int32)), .val (.int p0), .val (.int p1), .val (.int (((p5.toUInt32 >>> ((1 : Int32) &&& 31).toUInt32).toInt32) &&& (7 : Int32))), .val (.int m8), .val (.ref b13), .val (.int (own_inR m8 p0 p1)), .unset] [(.long (0 : Int64)), (.long ((m8.toInt64) - (p0.toInt64)))]))
    refine go (fun t kt => XS.lcmp X20.here hx rfl (hb hby at_187) rfl kt) ?_
    show Goes p.tables e below _ (T20.setTop (mkF m 188 #[.val (.int p0), .val (.int p1), .val (.int p2), .val (.int p3), .val (.int p4), .val (.int p5), .val (.ref b1), .val (.ref b2), .val (.int (0 : Int32)), .val (.int p0), .val (.int p1), .val (.int (((p5.toUInt32 >>> ((1 : Int32) &&& 31).toUInt32).toInt32) &&& (7 : Int32))), .val (.int m8), .val (.ref b13), .val (.int (own_inR m8 p0 p1)), .unset] [(.int (lcmpW ((m8.toInt64) - (p0.toInt64)) (0 : Int64)))]))
    by_cases hc21 : ((m8.toInt64) - (p0.toInt64)) < (0 : Int64)
    ·
      refine go (fun t kt => XS.ifYes X20.here hx rfl (pc0 := 188) (pc' := 207) rfl (hb hby at_188) rfl ((if0 _ _).trans (tlt ((lw_lt ((m8.toInt64) - (p0.toInt64)) (0 : Int64)).mpr hc21)).1) (by decide) (by decide) kt) ?_
      show Goes p.tables e below _ (T20.setTop (mkF m 207 #[.val (.int p0), .val (.int p1), .val (.int p2), .val (.int p3), .val (.int p4), .val (.int p5), .val (.ref b1), .val (.ref b2), .val (.int (0 : Int32)), .val (.int p0), .val (.int p1), .val (.int (((p5.toUInt32 >>> ((1 : Int32) &&& 31).toUInt32).toInt32) &&& (7 : Int32))), .val (.int m8), .val (.ref b13), .val (.int (own_inR m8 p0 p1)), .unset] []))
      refine go (fun t kt => XS.iconst X20.here hx rfl (hb hby at_207) kt) ?_
      show Goes p.tables e below _ (T20.setTop (mkF m 208 #[.val (.int p0), .val (.int p1), .val (.int p2), .val (.int p3), .val (.int p4), .val (.int p5), .val (.ref b1), .val (.ref b2), .val (.int (0 : Int32)), .val (.int p0), .val (.int p1), .val (.int (((p5.toUInt32 >>> ((1 : Int32) &&& 31).toUInt32).toInt32) &&& (7 : Int32))), .val (.int m8), .val (.ref b13), .val (.int (own_inR m8 p0 p1)), .unset] [(.int (0 : Int32))]))
      refine go (fun t kt => XS.istore X20.here hx rfl (hb hby at_208) rfl (l' := #[.val (.int p0), .val (.int p1), .val (.int p2), .val (.int p3), .val (.int p4), .val (.int p5), .val (.ref b1), .val (.ref b2), .val (.int (0 : Int32)), .val (.int p0), .val (.int p1), .val (.int (((p5.toUInt32 >>> ((1 : Int32) &&& 31).toUInt32).toInt32) &&& (7 : Int32))), .val (.int m8), .val (.ref b13), .val (.int (own_inR m8 p0 p1)), .val (.int (0 : Int32))]) rfl kt) ?_
      show Goes p.tables e below _ (T20.setTop (mkF m 210 #[.val (.int p0), .val (.int p1), .val (.int p2), .val (.int p3), .val (.int p4), .val (.int p5), .val (.ref b1), .val (.ref b2), .val (.int (0 : Int32)), .val (.int p0), .val (.int p1), .val (.int (((p5.toUInt32 >>> ((1 : Int32) &&& 31).toUInt32).toInt32) &&& (7 : Int32))), .val (.int m8), .val (.ref b13), .val (.int (own_inR m8 p0 p1)), .val (.int (0 : Int32))] []))
      refine go (fun t kt => XS.iload X20.here hx rfl (hb hby at_210) rfl kt) ?_
      show Goes p.tables e below _ (T20.setTop (mkF m 212 #[.val (.int p0), .val (.int p1), .val (.int p2), .val (.int p3), .val (.int p4), .val (.int p5), .val (.ref b1), .val (.ref b2), .val (.int (0 : Int32)), .val (.int p0), .val (.int p1), .val (.int (((p5.toUInt32 >>> ((1 : Int32) &&& 31).toUInt32).toInt32) &&& (7 : Int32))), .val (.int m8), .val (.ref b13), .val (.int (own_inR m8 p0 p1)), .val (.int (0 : Int32))] [(.int (own_inR m8 p0 p1))]))
      refine go (fun t kt => XS.iload X20.here hx rfl (hb hby at_212) rfl kt) ?_
      show Goes p.tables e below _ (T20.setTop (mkF m 214 #[.val (.int p0), .val (.int p1), .val (.int p2), .val (.int p3), .val (.int p4), .val (.int p5), .val (.ref b1), .val (.ref b2), .val (.int (0 : Int32)), .val (.int p0), .val (.int p1), .val (.int (((p5.toUInt32 >>> ((1 : Int32) &&& 31).toUInt32).toInt32) &&& (7 : Int32))), .val (.int m8), .val (.ref b13), .val (.int (own_inR m8 p0 p1)), .val (.int (0 : Int32))] [(.int (0 : Int32)), (.int (own_inR m8 p0 p1))]))
      refine go (fun t kt => XS.icmpNo X20.here hx rfl (hb hby at_214) rfl (teq (own_r1 _ _ _ ((own_sb _ _).mp hc21))).2 kt) ?_
      show Goes p.tables e below _ (T20.setTop (mkF m 217 #[.val (.int p0), .val (.int p1), .val (.int p2), .val (.int p3), .val (.int p4), .val (.int p5), .val (.ref b1), .val (.ref b2), .val (.int (0 : Int32)), .val (.int p0), .val (.int p1), .val (.int (((p5.toUInt32 >>> ((1 : Int32) &&& 31).toUInt32).toInt32) &&& (7 : Int32))), .val (.int m8), .val (.ref b13), .val (.int (own_inR m8 p0 p1)), .val (.int (0 : Int32))] []))
      refine go (fun t kt => XS.iconst X20.here hx rfl (hb hby at_217) kt) ?_
      show Goes p.tables e below _ (T20.setTop (mkF m 218 #[.val (.int p0), .val (.int p1), .val (.int p2), .val (.int p3), .val (.int p4), .val (.int p5), .val (.ref b1), .val (.ref b2), .val (.int (0 : Int32)), .val (.int p0), .val (.int p1), .val (.int (((p5.toUInt32 >>> ((1 : Int32) &&& 31).toUInt32).toInt32) &&& (7 : Int32))), .val (.int m8), .val (.ref b13), .val (.int (own_inR m8 p0 p1)), .val (.int (0 : Int32))] [(.int (1 : Int32))]))
      refine go (fun t kt => XS.goto X20.here hx rfl (pc0 := 218) (pc' := 222) rfl (hb hby at_218) (by decide) (by decide) kt) ?_
      show Goes p.tables e below _ (T20.setTop (mkF m 222 #[.val (.int p0), .val (.int p1), .val (.int p2), .val (.int p3), .val (.int p4), .val (.int p5), .val (.ref b1), .val (.ref b2), .val (.int (0 : Int32)), .val (.int p0), .val (.int p1), .val (.int (((p5.toUInt32 >>> ((1 : Int32) &&& 31).toUInt32).toInt32) &&& (7 : Int32))), .val (.int m8), .val (.ref b13), .val (.int (own_inR m8 p0 p1)), .val (.int (0 : Int32))] [(.int (1 : Int32))]))
      obtain ⟨fs, hr, hrun, hended, hW, hsame⟩ := X20.leave (v := some (.int (1 : Int32))) (fun h => by rw [Bd.returns] at h; cases h)
      refine ⟨_, _, retN X20 hx (t := .boolean) Bd.returns (by simp) (hb hby at_222) hr, hrun, hended, _, _, rfl, ?_, ⟨_, rfl⟩, hW, hsame.mono (by decide) (by decide)⟩
      show Q0 Z p0 p1 p2 p3 p4 p5 sd h0 n0 _ T20.heap _
      rw [e20]
      exact ⟨rfl, N20⟩
    ·
      refine go (fun t kt => XS.ifNo X20.here hx rfl (hb hby at_188) rfl ((if0 _ _).trans (flt (fun q => hc21 ((lw_lt ((m8.toInt64) - (p0.toInt64)) (0 : Int64)).mp q))).1) kt) ?_
      show Goes p.tables e below _ (T20.setTop (mkF m 191 #[.val (.int p0), .val (.int p1), .val (.int p2), .val (.int p3), .val (.int p4), .val (.int p5), .val (.ref b1), .val (.ref b2), .val (.int (0 : Int32)), .val (.int p0), .val (.int p1), .val (.int (((p5.toUInt32 >>> ((1 : Int32) &&& 31).toUInt32).toInt32) &&& (7 : Int32))), .val (.int m8), .val (.ref b13), .val (.int (own_inR m8 p0 p1)), .unset] []))
      refine go (fun t kt => XS.iload X20.here hx rfl (hb hby at_191) rfl kt) ?_
      show Goes p.tables e below _ (T20.setTop (mkF m 193 #[.val (.int p0), .val (.int p1), .val (.int p2), .val (.int p3), .val (.int p4), .val (.int p5), .val (.ref b1), .val (.ref b2), .val (.int (0 : Int32)), .val (.int p0), .val (.int p1), .val (.int (((p5.toUInt32 >>> ((1 : Int32) &&& 31).toUInt32).toInt32) &&& (7 : Int32))), .val (.int m8), .val (.ref b13), .val (.int (own_inR m8 p0 p1)), .unset] [(.int p1)]))
      refine go (fun t kt => XS.i2l X20.here hx rfl (hb hby at_193) rfl kt) ?_
      show Goes p.tables e below _ (T20.setTop (mkF m 194 #[.val (.int p0), .val (.int p1), .val (.int p2), .val (.int p3), .val (.int p4), .val (.int p5), .val (.ref b1), .val (.ref b2), .val (.int (0 : Int32)), .val (.int p0), .val (.int p1), .val (.int (((p5.toUInt32 >>> ((1 : Int32) &&& 31).toUInt32).toInt32) &&& (7 : Int32))), .val (.int m8), .val (.ref b13), .val (.int (own_inR m8 p0 p1)), .unset] [(.long (p1.toInt64))]))
      refine go (fun t kt => XS.iload X20.here hx rfl (hb hby at_194) rfl kt) ?_
      show Goes p.tables e below _ (T20.setTop (mkF m 196 #[.val (.int p0), .val (.int p1), .val (.int p2), .val (.int p3), .val (.int p4), .val (.int p5), .val (.ref b1), .val (.ref b2), .val (.int (0 : Int32)), .val (.int p0), .val (.int p1), .val (.int (((p5.toUInt32 >>> ((1 : Int32) &&& 31).toUInt32).toInt32) &&& (7 : Int32))), .val (.int m8), .val (.ref b13), .val (.int (own_inR m8 p0 p1)), .unset] [(.int m8), (.long (p1.toInt64))]))
      refine go (fun t kt => XS.i2l X20.here hx rfl (hb hby at_196) rfl kt) ?_
      show Goes p.tables e below _ (T20.setTop (mkF m 197 #[.val (.int p0), .val (.int p1), .val (.int p2), .val (.int p3), .val (.int p4), .val (.int p5), .val (.ref b1), .val (.ref b2), .val (.int (0 : Int32)), .val (.int p0), .val (.int p1), .val (.int (((p5.toUInt32 >>> ((1 : Int32) &&& 31).toUInt32).toInt32) &&& (7 : Int32))), .val (.int m8), .val (.ref b13), .val (.int (own_inR m8 p0 p1)), .unset] [(.long (m8.toInt64)), (.long (p1.toInt64))]))
      refine go (fun t kt => XS.lsub X20.here hx rfl (hb hby at_197) rfl kt) ?_
      show Goes p.tables e below _ (T20.setTop (mkF m 198 #[.val (.int p0), .val (.int p1), .val (.int p2), .val (.int p3), .val (.int p4), .val (.int p5), .val (.ref b1), .val (.ref b2), .val (.int (0 : Int32)), .val (.int p0), .val (.int p1), .val (.int (((p5.toUInt32 >>> ((1 : Int32) &&& 31).toUInt32).toInt32) &&& (7 : Int32))), .val (.int m8), .val (.ref b13), .val (.int (own_inR m8 p0 p1)), .unset] [(.long ((p1.toInt64) - (m8.toInt64)))]))
      refine go (fun t kt => XS.lconst X20.here hx rfl (hb hby at_198) kt) ?_
      show Goes p.tables e below _ (T20.setTop (mkF m 199 #[.val (.int p0), .val (.int p1), .val (.int p2), .val (.int p3), .val (.int p4), .val (.int p5), .val (.ref b1), .val (.ref b2), .val (.int (0 : Int32)), .val (.int p0), .val (.int p1), .val (.int (((p5.toUInt32 >>> ((1 : Int32) &&& 31).toUInt32).toInt32) &&& (7 : Int32))), .val (.int m8), .val (.ref b13), .val (.int (own_inR m8 p0 p1)), .unset] [(.long (0 : Int64)), (.long ((p1.toInt64) - (m8.toInt64)))]))
      refine go (fun t kt => XS.lcmp X20.here hx rfl (hb hby at_199) rfl kt) ?_
      show Goes p.tables e below _ (T20.setTop (mkF m 200 #[.val (.int p0), .val (.int p1), .val (.int p2), .val (.int p3), .val (.int p4), .val (.int p5), .val (.ref b1), .val (.ref b2), .val (.int (0 : Int32)), .val (.int p0), .val (.int p1), .val (.int (((p5.toUInt32 >>> ((1 : Int32) &&& 31).toUInt32).toInt32) &&& (7 : Int32))), .val (.int m8), .val (.ref b13), .val (.int (own_inR m8 p0 p1)), .unset] [(.int (lcmpW ((p1.toInt64) - (m8.toInt64)) (0 : Int64)))]))
      by_cases hc23 : ((p1.toInt64) - (m8.toInt64)) < (0 : Int64)
      ·
        refine go (fun t kt => XS.ifYes X20.here hx rfl (pc0 := 200) (pc' := 207) rfl (hb hby at_200) rfl ((if0 _ _).trans (tlt ((lw_lt ((p1.toInt64) - (m8.toInt64)) (0 : Int64)).mpr hc23)).1) (by decide) (by decide) kt) ?_
        show Goes p.tables e below _ (T20.setTop (mkF m 207 #[.val (.int p0), .val (.int p1), .val (.int p2), .val (.int p3), .val (.int p4), .val (.int p5), .val (.ref b1), .val (.ref b2), .val (.int (0 : Int32)), .val (.int p0), .val (.int p1), .val (.int (((p5.toUInt32 >>> ((1 : Int32) &&& 31).toUInt32).toInt32) &&& (7 : Int32))), .val (.int m8), .val (.ref b13), .val (.int (own_inR m8 p0 p1)), .unset] []))
        refine go (fun t kt => XS.iconst X20.here hx rfl (hb hby at_207) kt) ?_
        show Goes p.tables e below _ (T20.setTop (mkF m 208 #[.val (.int p0), .val (.int p1), .val (.int p2), .val (.int p3), .val (.int p4), .val (.int p5), .val (.ref b1), .val (.ref b2), .val (.int (0 : Int32)), .val (.int p0), .val (.int p1), .val (.int (((p5.toUInt32 >>> ((1 : Int32) &&& 31).toUInt32).toInt32) &&& (7 : Int32))), .val (.int m8), .val (.ref b13), .val (.int (own_inR m8 p0 p1)), .unset] [(.int (0 : Int32))]))
        refine go (fun t kt => XS.istore X20.here hx rfl (hb hby at_208) rfl (l' := #[.val (.int p0), .val (.int p1), .val (.int p2), .val (.int p3), .val (.int p4), .val (.int p5), .val (.ref b1), .val (.ref b2), .val (.int (0 : Int32)), .val (.int p0), .val (.int p1), .val (.int (((p5.toUInt32 >>> ((1 : Int32) &&& 31).toUInt32).toInt32) &&& (7 : Int32))), .val (.int m8), .val (.ref b13), .val (.int (own_inR m8 p0 p1)), .val (.int (0 : Int32))]) rfl kt) ?_
        show Goes p.tables e below _ (T20.setTop (mkF m 210 #[.val (.int p0), .val (.int p1), .val (.int p2), .val (.int p3), .val (.int p4), .val (.int p5), .val (.ref b1), .val (.ref b2), .val (.int (0 : Int32)), .val (.int p0), .val (.int p1), .val (.int (((p5.toUInt32 >>> ((1 : Int32) &&& 31).toUInt32).toInt32) &&& (7 : Int32))), .val (.int m8), .val (.ref b13), .val (.int (own_inR m8 p0 p1)), .val (.int (0 : Int32))] []))
        refine go (fun t kt => XS.iload X20.here hx rfl (hb hby at_210) rfl kt) ?_
        show Goes p.tables e below _ (T20.setTop (mkF m 212 #[.val (.int p0), .val (.int p1), .val (.int p2), .val (.int p3), .val (.int p4), .val (.int p5), .val (.ref b1), .val (.ref b2), .val (.int (0 : Int32)), .val (.int p0), .val (.int p1), .val (.int (((p5.toUInt32 >>> ((1 : Int32) &&& 31).toUInt32).toInt32) &&& (7 : Int32))), .val (.int m8), .val (.ref b13), .val (.int (own_inR m8 p0 p1)), .val (.int (0 : Int32))] [(.int (own_inR m8 p0 p1))]))
        refine go (fun t kt => XS.iload X20.here hx rfl (hb hby at_212) rfl kt) ?_
        show Goes p.tables e below _ (T20.setTop (mkF m 214 #[.val (.int p0), .val (.int p1), .val (.int p2), .val (.int p3), .val (.int p4), .val (.int p5), .val (.ref b1), .val (.ref b2), .val (.int (0 : Int32)), .val (.int p0), .val (.int p1), .val (.int (((p5.toUInt32 >>> ((1 : Int32) &&& 31).toUInt32).toInt32) &&& (7 : Int32))), .val (.int m8), .val (.ref b13), .val (.int (own_inR m8 p0 p1)), .val (.int (0 : Int32))] [(.int (0 : Int32)), (.int (own_inR m8 p0 p1))]))
        refine go (fun t kt => XS.icmpNo X20.here hx rfl (hb hby at_214) rfl (teq (own_r2 _ _ _ (fun q => hc21 ((own_sb _ _).mpr q)) ((own_sb _ _).mp hc23))).2 kt) ?_
        show Goes p.tables e below _ (T20.setTop (mkF m 217 #[.val (.int p0), .val (.int p1), .val (.int p2), .val (.int p3), .val (.int p4), .val (.int p5), .val (.ref b1), .val (.ref b2), .val (.int (0 : Int32)), .val (.int p0), .val (.int p1), .val (.int (((p5.toUInt32 >>> ((1 : Int32) &&& 31).toUInt32).toInt32) &&& (7 : Int32))), .val (.int m8), .val (.ref b13), .val (.int (own_inR m8 p0 p1)), .val (.int (0 : Int32))] []))
        refine go (fun t kt => XS.iconst X20.here hx rfl (hb hby at_217) kt) ?_
        show Goes p.tables e below _ (T20.setTop (mkF m 218 #[.val (.int p0), .val (.int p1), .val (.int p2), .val (.int p3), .val (.int p4), .val (.int p5), .val (.ref b1), .val (.ref b2), .val (.int (0 : Int32)), .val (.int p0), .val (.int p1), .val (.int (((p5.toUInt32 >>> ((1 : Int32) &&& 31).toUInt32).toInt32) &&& (7 : Int32))), .val (.int m8), .val (.ref b13), .val (.int (own_inR m8 p0 p1)), .val (.int (0 : Int32))] [(.int (1 : Int32))]))
        refine go (fun t kt => XS.goto X20.here hx rfl (pc0 := 218) (pc' := 222) rfl (hb hby at_218) (by decide) (by decide) kt) ?_
        show Goes p.tables e below _ (T20.setTop (mkF m 222 #[.val (.int p0), .val (.int p1), .val (.int p2), .val (.int p3), .val (.int p4), .val (.int p5), .val (.ref b1), .val (.ref b2), .val (.int (0 : Int32)), .val (.int p0), .val (.int p1), .val (.int (((p5.toUInt32 >>> ((1 : Int32) &&& 31).toUInt32).toInt32) &&& (7 : Int32))), .val (.int m8), .val (.ref b13), .val (.int (own_inR m8 p0 p1)), .val (.int (0 : Int32))] [(.int (1 : Int32))]))
        obtain ⟨fs, hr, hrun, hended, hW, hsame⟩ := X20.leave (v := some (.int (1 : Int32))) (fun h => by rw [Bd.returns] at h; cases h)
        refine ⟨_, _, retN X20 hx (t := .boolean) Bd.returns (by simp) (hb hby at_222) hr, hrun, hended, _, _, rfl, ?_, ⟨_, rfl⟩, hW, hsame.mono (by decide) (by decide)⟩
        show Q0 Z p0 p1 p2 p3 p4 p5 sd h0 n0 _ T20.heap _
        rw [e20]
        exact ⟨rfl, N20⟩
      ·
        refine go (fun t kt => XS.ifNo X20.here hx rfl (hb hby at_200) rfl ((if0 _ _).trans (flt (fun q => hc23 ((lw_lt ((p1.toInt64) - (m8.toInt64)) (0 : Int64)).mp q))).1) kt) ?_
        show Goes p.tables e below _ (T20.setTop (mkF m 203 #[.val (.int p0), .val (.int p1), .val (.int p2), .val (.int p3), .val (.int p4), .val (.int p5), .val (.ref b1), .val (.ref b2), .val (.int (0 : Int32)), .val (.int p0), .val (.int p1), .val (.int (((p5.toUInt32 >>> ((1 : Int32) &&& 31).toUInt32).toInt32) &&& (7 : Int32))), .val (.int m8), .val (.ref b13), .val (.int (own_inR m8 p0 p1)), .unset] []))
        refine go (fun t kt => XS.iconst X20.here hx rfl (hb hby at_203) kt) ?_
        show Goes p.tables e below _ (T20.setTop (mkF m 204 #[.val (.int p0), .val (.int p1), .val (.int p2), .val (.int p3), .val (.int p4), .val (.int p5), .val (.ref b1), .val (.ref b2), .val (.int (0 : Int32)), .val (.int p0), .val (.int p1), .val (.int (((p5.toUInt32 >>> ((1 : Int32) &&& 31).toUInt32).toInt32) &&& (7 : Int32))), .val (.int m8), .val (.ref b13), .val (.int (own_inR m8 p0 p1)), .unset] [(.int (1 : Int32))]))
        refine go (fun t kt => XS.goto X20.here hx rfl (pc0 := 204) (pc' := 208) rfl (hb hby at_204) (by decide) (by decide) kt) ?_
        show Goes p.tables e below _ (T20.setTop (mkF m 208 #[.val (.int p0), .val (.int p1), .val (.int p2), .val (.int p3), .val (.int p4), .val (.int p5), .val (.ref b1), .val (.ref b2), .val (.int (0 : Int32)), .val (.int p0), .val (.int p1), .val (.int (((p5.toUInt32 >>> ((1 : Int32) &&& 31).toUInt32).toInt32) &&& (7 : Int32))), .val (.int m8), .val (.ref b13), .val (.int (own_inR m8 p0 p1)), .unset] [(.int (1 : Int32))]))
        refine go (fun t kt => XS.istore X20.here hx rfl (hb hby at_208) rfl (l' := #[.val (.int p0), .val (.int p1), .val (.int p2), .val (.int p3), .val (.int p4), .val (.int p5), .val (.ref b1), .val (.ref b2), .val (.int (0 : Int32)), .val (.int p0), .val (.int p1), .val (.int (((p5.toUInt32 >>> ((1 : Int32) &&& 31).toUInt32).toInt32) &&& (7 : Int32))), .val (.int m8), .val (.ref b13), .val (.int (own_inR m8 p0 p1)), .val (.int (1 : Int32))]) rfl kt) ?_
        show Goes p.tables e below _ (T20.setTop (mkF m 210 #[.val (.int p0), .val (.int p1), .val (.int p2), .val (.int p3), .val (.int p4), .val (.int p5), .val (.ref b1), .val (.ref b2), .val (.int (0 : Int32)), .val (.int p0), .val (.int p1), .val (.int (((p5.toUInt32 >>> ((1 : Int32) &&& 31).toUInt32).toInt32) &&& (7 : Int32))), .val (.int m8), .val (.ref b13), .val (.int (own_inR m8 p0 p1)), .val (.int (1 : Int32))] []))
        refine go (fun t kt => XS.iload X20.here hx rfl (hb hby at_210) rfl kt) ?_
        show Goes p.tables e below _ (T20.setTop (mkF m 212 #[.val (.int p0), .val (.int p1), .val (.int p2), .val (.int p3), .val (.int p4), .val (.int p5), .val (.ref b1), .val (.ref b2), .val (.int (0 : Int32)), .val (.int p0), .val (.int p1), .val (.int (((p5.toUInt32 >>> ((1 : Int32) &&& 31).toUInt32).toInt32) &&& (7 : Int32))), .val (.int m8), .val (.ref b13), .val (.int (own_inR m8 p0 p1)), .val (.int (1 : Int32))] [(.int (own_inR m8 p0 p1))]))
        refine go (fun t kt => XS.iload X20.here hx rfl (hb hby at_212) rfl kt) ?_
        show Goes p.tables e below _ (T20.setTop (mkF m 214 #[.val (.int p0), .val (.int p1), .val (.int p2), .val (.int p3), .val (.int p4), .val (.int p5), .val (.ref b1), .val (.ref b2), .val (.int (0 : Int32)), .val (.int p0), .val (.int p1), .val (.int (((p5.toUInt32 >>> ((1 : Int32) &&& 31).toUInt32).toInt32) &&& (7 : Int32))), .val (.int m8), .val (.ref b13), .val (.int (own_inR m8 p0 p1)), .val (.int (1 : Int32))] [(.int (1 : Int32)), (.int (own_inR m8 p0 p1))]))
        refine go (fun t kt => XS.icmpNo X20.here hx rfl (hb hby at_214) rfl (teq (own_r3 _ _ _ (fun q => hc21 ((own_sb _ _).mpr q)) (fun q => hc23 ((own_sb _ _).mpr q)))).2 kt) ?_
        show Goes p.tables e below _ (T20.setTop (mkF m 217 #[.val (.int p0), .val (.int p1), .val (.int p2), .val (.int p3), .val (.int p4), .val (.int p5), .val (.ref b1), .val (.ref b2), .val (.int (0 : Int32)), .val (.int p0), .val (.int p1), .val (.int (((p5.toUInt32 >>> ((1 : Int32) &&& 31).toUInt32).toInt32) &&& (7 : Int32))), .val (.int m8), .val (.ref b13), .val (.int (own_inR m8 p0 p1)), .val (.int (1 : Int32))] []))
        refine go (fun t kt => XS.iconst X20.here hx rfl (hb hby at_217) kt) ?_
        show Goes p.tables e below _ (T20.setTop (mkF m 218 #[.val (.int p0), .val (.int p1), .val (.int p2), .val (.int p3), .val (.int p4), .val (.int p5), .val (.ref b1), .val (.ref b2), .val (.int (0 : Int32)), .val (.int p0), .val (.int p1), .val (.int (((p5.toUInt32 >>> ((1 : Int32) &&& 31).toUInt32).toInt32) &&& (7 : Int32))), .val (.int m8), .val (.ref b13), .val (.int (own_inR m8 p0 p1)), .val (.int (1 : Int32))] [(.int (1 : Int32))]))
        refine go (fun t kt => XS.goto X20.here hx rfl (pc0 := 218) (pc' := 222) rfl (hb hby at_218) (by decide) (by decide) kt) ?_
        show Goes p.tables e below _ (T20.setTop (mkF m 222 #[.val (.int p0), .val (.int p1), .val (.int p2), .val (.int p3), .val (.int p4), .val (.int p5), .val (.ref b1), .val (.ref b2), .val (.int (0 : Int32)), .val (.int p0), .val (.int p1), .val (.int (((p5.toUInt32 >>> ((1 : Int32) &&& 31).toUInt32).toInt32) &&& (7 : Int32))), .val (.int m8), .val (.ref b13), .val (.int (own_inR m8 p0 p1)), .val (.int (1 : Int32))] [(.int (1 : Int32))]))
        obtain ⟨fs, hr, hrun, hended, hW, hsame⟩ := X20.leave (v := some (.int (1 : Int32))) (fun h => by rw [Bd.returns] at h; cases h)
        refine ⟨_, _, retN X20 hx (t := .boolean) Bd.returns (by simp) (hb hby at_222) hr, hrun, hended, _, _, rfl, ?_, ⟨_, rfl⟩, hW, hsame.mono (by decide) (by decide)⟩
        show Q0 Z p0 p1 p2 p3 p4 p5 sd h0 n0 _ T20.heap _
        rw [e20]
        exact ⟨rfl, N20⟩
  ·
    rw [hk7]
    show Goes p.tables e below _ (T6.setTop (mkF m 36 #[.val (.int p0), .val (.int p1), .val (.int p2), .val (.int p3), .val (.int p4), .val (.int p5), .val (.ref b1), .val (.ref b2), .val (.int (1 : Int32)), .unset, .unset, .unset, .unset, .unset, .unset, .unset] []))
    refine go (fun t kt => XS.iload X6.here hx rfl (hb hby at_36) rfl kt) ?_
    show Goes p.tables e below _ (T6.setTop (mkF m 38 #[.val (.int p0), .val (.int p1), .val (.int p2), .val (.int p3), .val (.int p4), .val (.int p5), .val (.ref b1), .val (.ref b2), .val (.int (1 : Int32)), .unset, .unset, .unset, .unset, .unset, .unset, .unset] [(.int (1 : Int32))]))
    refine go (fun t kt => XS.ifYes X6.here hx rfl (pc0 := 38) (pc' := 45) rfl (hb hby at_38) rfl ((if0 _ _).trans (feq (by decide : ¬ ((1 : Int32) = (0 : Int32)))).2) (by decide) (by decide) kt) ?_
    show Goes p.tables e below _ (T6.setTop (mkF m 45 #[.val (.int p0), .val (.int p1), .val (.int p2), .val (.int p3), .val (.int p4), .val (.int p5), .val (.ref b1), .val (.ref b2), .val (.int (1 : Int32)), .unset, .unset, .unset, .unset, .unset, .unset, .unset] []))
    refine go (fun t kt => XS.iloadN X6.here hx rfl (hb hby at_45) rfl kt) ?_
    show Goes p.tables e below _ (T6.setTop (mkF m 46 #[.val (.int p0), .val (.int p1), .val (.int p2), .val (.int p3), .val (.int p4), .val (.int p5), .val (.ref b1), .val (.ref b2), .val (.int (1 : Int32)), .unset, .unset, .unset, .unset, .unset, .unset, .unset] [(.int p2)]))
    refine go (fun t kt => XS.istore X6.here hx rfl (hb hby at_46) rfl (l' := #[.val (.int p0), .val (.int p1), .val (.int p2), .val (.int p3), .val (.int p4), .val (.int p5), .val (.ref b1), .val (.ref b2), .val (.int (1 : Int32)), .val (.int p2), .unset, .unset, .unset, .unset, .unset, .unset]) rfl kt) ?_
    show Goes p.tables e below _ (T6.setTop (mkF m 48 #[.val (.int p0), .val (.int p1), .val (.int p2), .val (.int p3), .val (.int p4), .val (.int p5), .val (.ref b1), .val (.ref b2), .val (.int (1 : Int32)), .val (.int p2), .unset, .unset, .unset, .unset, .unset, .unset] []))
    refine go (fun t kt => XS.iload X6.here hx rfl (hb hby at_48) rfl kt) ?_
    show Goes p.tables e below _ (T6.setTop (mkF m 50 #[.val (.int p0), .val (.int p1), .val (.int p2), .val (.int p3), .val (.int p4), .val (.int p5), .val (.ref b1), .val (.ref b2), .val (.int (1 : Int32)), .val (.int p2), .unset, .unset, .unset, .unset, .unset, .unset] [(.int (1 : Int32))]))
    refine go (fun t kt => XS.ifYes X6.here hx rfl (pc0 := 50) (pc' := 57) rfl (hb hby at_50) rfl ((if0 _ _).trans (feq (by decide : ¬ ((1 : Int32) = (0 : Int32)))).2) (by decide) (by decide) kt) ?_
    show Goes p.tables e below _ (T6.setTop (mkF m 57 #[.val (.int p0), .val (.int p1), .val (.int p2), .val (.int p3), .val (.int p4), .val (.int p5), .val (.ref b1), .val (.ref b2), .val (.int (1 : Int32)), .val (.int p2), .unset, .unset, .unset, .unset, .unset, .unset] []))
    refine go (fun t kt => XS.iloadN X6.here hx rfl (hb hby at_57) rfl kt) ?_
    show Goes p.tables e below _ (T6.setTop (mkF m 58 #[.val (.int p0), .val (.int p1), .val (.int p2), .val (.int p3), .val (.int p4), .val (.int p5), .val (.ref b1), .val (.ref b2), .val (.int (1 : Int32)), .val (.int p2), .unset, .unset, .unset, .unset, .unset, .unset] [(.int p3)]))
    refine go (fun t kt => XS.istore X6.here hx rfl (hb hby at_58) rfl (l' := #[.val (.int p0), .val (.int p1), .val (.int p2), .val (.int p3), .val (.int p4), .val (.int p5), .val (.ref b1), .val (.ref b2), .val (.int (1 : Int32)), .val (.int p2), .val (.int p3), .unset, .unset, .unset, .unset, .unset]) rfl kt) ?_
    show Goes p.tables e below _ (T6.setTop (mkF m 60 #[.val (.int p0), .val (.int p1), .val (.int p2), .val (.int p3), .val (.int p4), .val (.int p5), .val (.ref b1), .val (.ref b2), .val (.int (1 : Int32)), .val (.int p2), .val (.int p3), .unset, .unset, .unset, .unset, .unset] []))
    refine go (fun t kt => XS.iload X6.here hx rfl (hb hby at_60) rfl kt) ?_
    show Goes p.tables e below _ (T6.setTop (mkF m 62 #[.val (.int p0), .val (.int p1), .val (.int p2), .val (.int p3), .val (.int p4), .val (.int p5), .val (.ref b1), .val (.ref b2), .val (.int (1 : Int32)), .val (.int p2), .val (.int p3), .unset, .unset, .unset, .unset, .unset] [(.int p5)]))
    refine go (fun t kt => XS.iconst X6.here hx rfl (hb hby at_62) kt) ?_
    show Goes p.tables e below _ (T6.setTop (mkF m 63 #[.val (.int p0), .val (.int p1), .val (.int p2), .val (.int p3), .val (.int p4), .val (.int p5), .val (.ref b1), .val (.ref b2), .val (.int (1 : Int32)), .val (.int p2), .val (.int p3), .unset, .unset, .unset, .unset, .unset] [(.int (1 : Int32)), (.int p5)]))
    refine go (fun t kt => XS.iushr X6.here hx rfl (hb hby at_63) rfl kt) ?_
    show Goes p.tables e below _ (T6.setTop (mkF m 64 #[.val (.int p0), .val (.int p1), .val (.int p2), .val (.int p3), .val (.int p4), .val (.int p5), .val (.ref b1), .val (.ref b2), .val (.int (1 : Int32)), .val (.int p2), .val (.int p3), .unset, .unset, .unset, .unset, .unset] [(.int ((p5.toUInt32 >>> ((1 : Int32) &&& 31).toUInt32).toInt32))]))
    refine go (fun t kt => XS.bipush X6.here hx rfl (hb hby at_64) kt) ?_
    show Goes p.tables e below _ (T6.setTop (mkF m 66 #[.val (.int p0), .val (.int p1), .val (.int p2), .val (.int p3), .val (.int p4), .val (.int p5), .val (.ref b1), .val (.ref b2), .val (.int (1 : Int32)), .val (.int p2), .val (.int p3), .unset, .unset, .unset, .unset, .unset] [(.int (7 : Int32)), (.int ((p5.toUInt32 >>> ((1 : Int32) &&& 31).toUInt32).toInt32))]))
    refine go (fun t kt => XS.iand X6.here hx rfl (hb hby at_66) rfl kt) ?_
    show Goes p.tables e below _ (T6.setTop (mkF m 67 #[.val (.int p0), .val (.int p1), .val (.int p2), .val (.int p3), .val (.int p4), .val (.int p5), .val (.ref b1), .val (.ref b2), .val (.int (1 : Int32)), .val (.int p2), .val (.int p3), .unset, .unset, .unset, .unset, .unset] [(.int (((p5.toUInt32 >>> ((1 : Int32) &&& 31).toUInt32).toInt32) &&& (7 : Int32)))]))
    refine go (fun t kt => XS.istore X6.here hx rfl (hb hby at_67) rfl (l' := #[.val (.int p0), .val (.int p1), .val (.int p2), .val (.int p3), .val (.int p4), .val (.int p5), .val (.ref b1), .val (.ref b2), .val (.int (1 : Int32)), .val (.int p2), .val (.int p3), .val (.int (((p5.toUInt32 >>> ((1 : Int32) &&& 31).toUInt32).toInt32) &&& (7 : Int32))), .unset, .unset, .unset, .unset]) rfl kt) ?_
    show Goes p.tables e below _ (T6.setTop (mkF m 69 #[.val (.int p0), .val (.int p1), .val (.int p2), .val (.int p3), .val (.int p4), .val (.int p5), .val (.ref b1), .val (.ref b2), .val (.int (1 : Int32)), .val (.int p2), .val (.int p3), .val (.int (((p5.toUInt32 >>> ((1 : Int32) &&& 31).toUInt32).toInt32) &&& (7 : Int32))), .unset, .unset, .unset, .unset] []))
    refine go (fun t kt => XS.iload X6.here hx rfl (hb hby at_69) rfl kt) ?_
    show Goes p.tables e below _ (T6.setTop (mkF m 71 #[.val (.int p0), .val (.int p1), .val (.int p2), .val (.int p3), .val (.int p4), .val (.int p5), .val (.ref b1), .val (.ref b2), .val (.int (1 : Int32)), .val (.int p2), .val (.int p3), .val (.int (((p5.toUInt32 >>> ((1 : Int32) &&& 31).toUInt32).toInt32) &&& (7 : Int32))), .unset, .unset, .unset, .unset] [(.int p4)]))
    refine go (fun t kt => XS.istore X6.here hx rfl (hb hby at_71) rfl (l' := #[.val (.int p0), .val (.int p1), .val (.int p2), .val (.int p3), .val (.int p4), .val (.int p5), .val (.ref b1), .val (.ref b2), .val (.int (1 : Int32)), .val (.int p2), .val (.int p3), .val (.int (((p5.toUInt32 >>> ((1 : Int32) &&& 31).toUInt32).toInt32) &&& (7 : Int32))), .val (.int p4), .unset, .unset, .unset]) rfl kt) ?_
    show Goes p.tables e below _ (T6.setTop (mkF m 73 #[.val (.int p0), .val (.int p1), .val (.int p2), .val (.int p3), .val (.int p4), .val (.int p5), .val (.ref b1), .val (.ref b2), .val (.int (1 : Int32)), .val (.int p2), .val (.int p3), .val (.int (((p5.toUInt32 >>> ((1 : Int32) &&& 31).toUInt32).toInt32) &&& (7 : Int32))), .val (.int p4), .unset, .unset, .unset] []))
    refine go (fun t kt => XS.iload X6.here hx rfl (hb hby at_73) rfl kt) ?_
    show Goes p.tables e below _ (T6.setTop (mkF m 75 #[.val (.int p0), .val (.int p1), .val (.int p2), .val (.int p3), .val (.int p4), .val (.int p5), .val (.ref b1), .val (.ref b2), .val (.int (1 : Int32)), .val (.int p2), .val (.int p3), .val (.int (((p5.toUInt32 >>> ((1 : Int32) &&& 31).toUInt32).toInt32) &&& (7 : Int32))), .val (.int p4), .unset, .unset, .unset] [(.int (((p5.toUInt32 >>> ((1 : Int32) &&& 31).toUInt32).toInt32) &&& (7 : Int32)))]))
    refine go (fun t kt => XS.iconst X6.here hx rfl (hb hby at_75) kt) ?_
    show Goes p.tables e below _ (T6.setTop (mkF m 76 #[.val (.int p0), .val (.int p1), .val (.int p2), .val (.int p3), .val (.int p4), .val (.int p5), .val (.ref b1), .val (.ref b2), .val (.int (1 : Int32)), .val (.int p2), .val (.int p3), .val (.int (((p5.toUInt32 >>> ((1 : Int32) &&& 31).toUInt32).toInt32) &&& (7 : Int32))), .val (.int p4), .unset, .unset, .unset] [(.int (1 : Int32)), (.int (((p5.toUInt32 >>> ((1 : Int32) &&& 31).toUInt32).toInt32) &&& (7 : Int32)))]))
    suffices KK : ∀ (m26 : Int32), m26 = (if (((p5.toUInt32 >>> ((1 : Int32) &&& 31).toUInt32).toInt32) &&& (7 : Int32)) = (1 : Int32) then p2 else (if (((p5.toUInt32 >>> ((1 : Int32) &&& 31).toUInt32).toInt32) &&& (7 : Int32)) = (2 : Int32) then p3 else (if (((p5.toUInt32 >>> ((1 : Int32) &&& 31).toUInt32).toInt32) &&& (7 : Int32)) = (3 : Int32) then (p2 - (1 : Int32)) else (if (((p5.toUInt32 >>> ((1 : Int32) &&& 31).toUInt32).toInt32) &&& (7 : Int32)) = (4 : Int32) then (p3 + (1 : Int32)) else p4)))) → Goes p.tables e below (fun s₂ o => ∃ v L, o = .returned v ∧ Q0 Z p0 p1 p2 p3 p4 p5 sd h0 n0 v s₂.heap L ∧ FrameEnd s o s₂ L 11 31) (T6.setTop (mkF m 126 #[.val (.int p0), .val (.int p1), .val (.int p2), .val (.int p3), .val (.int p4), .val (.int p5), .val (.ref b1), .val (.ref b2), .val (.int (1 : Int32)), .val (.int p2), .val (.int p3), .val (.int (((p5.toUInt32 >>> ((1 : Int32) &&& 31).toUInt32).toInt32) &&& (7 : Int32))), .val (.int m26), .unset, .unset, .unset] [])) by
      by_cases hc27 : (((p5.toUInt32 >>> ((1 : Int32) &&& 31).toUInt32).toInt32) &&& (7 : Int32)) = (1 : Int32)
      ·
        refine go (fun t kt => XS.icmpNo X6.here hx rfl (hb hby at_76) rfl (teq hc27).2 kt) ?_
        show Goes p.tables e below _ (T6.setTop (mkF m 79 #[.val (.int p0), .val (.int p1), .val (.int p2), .val (.int p3), .val (.int p4), .val (.int p5), .val (.ref b1), .val (.ref b2), .val (.int (1 : Int32)), .val (.int p2), .val (.int p3), .val (.int (((p5.toUInt32 >>> ((1 : Int32) &&& 31).toUInt32).toInt32) &&& (7 : Int32))), .val (.int p4), .unset, .unset, .unset] []))
        refine go (fun t kt => XS.iload X6.here hx rfl (hb hby at_79) rfl kt) ?_
        show Goes p.tables e below _ (T6.setTop (mkF m 81 #[.val (.int p0), .val (.int p1), .val (.int p2), .val (.int p3), .val (.int p4), .val (.int p5), .val (.ref b1), .val (.ref b2), .val (.int (1 : Int32)), .val (.int p2), .val (.int p3), .val (.int (((p5.toUInt32 >>> ((1 : Int32) &&& 31).toUInt32).toInt32) &&& (7 : Int32))), .val (.int p4), .unset, .unset, .unset] [(.int p2)]))
        refine go (fun t kt => XS.istore X6.here hx rfl (hb hby at_81) rfl (l' := #[.val (.int p0), .val (.int p1), .val (.int p2), .val (.int p3), .val (.int p4), .val (.int p5), .val (.ref b1), .val (.ref b2), .val (.int (1 : Int32)), .val (.int p2), .val (.int p3), .val (.int (((p5.toUInt32 >>> ((1 : Int32) &&& 31).toUInt32).toInt32) &&& (7 : Int32))), .val (.int p2), .unset, .unset, .unset]) rfl kt) ?_
        show Goes p.tables e below _ (T6.setTop (mkF m 83 #[.val (.int p0), .val (.int p1), .val (.int p2), .val (.int p3), .val (.int p4), .val (.int p5), .val (.ref b1), .val (.ref b2), .val (.int (1 : Int32)), .val (.int p2), .val (.int p3), .val (.int (((p5.toUInt32 >>> ((1 : Int32) &&& 31).toUInt32).toInt32) &&& (7 : Int32))), .val (.int p2), .unset, .unset, .unset] []))
        refine go (fun t kt => XS.goto X6.here hx rfl (pc0 := 83) (pc' := 126) rfl (hb hby at_83) (by decide) (by decide) kt) ?_
        show Goes p.tables e below _ (T6.setTop (mkF m 126 #[.val (.int p0), .val (.int p1), .val (.int p2), .val (.int p3), .val (.int p4), .val (.int p5), .val (.ref b1), .val (.ref b2), .val (.int (1 : Int32)), .val (.int p2), .val (.int p3), .val (.int (((p5.toUInt32 >>> ((1 : Int32) &&& 31).toUInt32).toInt32) &&& (7 : Int32))), .val (.int p2), .unset, .unset, .unset] []))
        exact KK _ (by rw [if_pos hc27])
      ·
        refine go (fun t kt => XS.icmpYes X6.here hx rfl (pc0 := 76) (pc' := 86) rfl (hb hby at_76) rfl (feq hc27).2 (by decide) (by decide) kt) ?_
        show Goes p.tables e below _ (T6.setTop (mkF m 86 #[.val (.int p0), .val (.int p1), .val (.int p2), .val (.int p3), .val (.int p4), .val (.int p5), .val (.ref b1), .val (.ref b2), .val (.int (1 : Int32)), .val (.int p2), .val (.int p3), .val (.int (((p5.toUInt32 >>> ((1 : Int32) &&& 31).toUInt32).toInt32) &&& (7 : Int32))), .val (.int p4), .unset, .unset, .unset] []))
        refine go (fun t kt => XS.iload X6.here hx rfl (hb hby at_86) rfl kt) ?_
        show Goes p.tables e below _ (T6.setTop (mkF m 88 #[.val (.int p0), .val (.int p1), .val (.int p2), .val (.int p3), .val (.int p4), .val (.int p5), .val (.ref b1), .val (.ref b2), .val (.int (1 : Int32)), .val (.int p2), .val (.int p3), .val (.int (((p5.toUInt32 >>> ((1 : Int32) &&& 31).toUInt32).toInt32) &&& (7 : Int32))), .val (.int p4), .unset, .unset, .unset] [(.int (((p5.toUInt32 >>> ((1 : Int32) &&& 31).toUInt32).toInt32) &&& (7 : Int32)))]))
        refine go (fun t kt => XS.iconst X6.here hx rfl (hb hby at_88) kt) ?_
        show Goes p.tables e below _ (T6.setTop (mkF m 89 #[.val (.int p0), .val (.int p1), .val (.int p2), .val (.int p3), .val (.int p4), .val (.int p5), .val (.ref b1), .val (.ref b2), .val (.int (1 : Int32)), .val (.int p2), .val (.int p3), .val (.int (((p5.toUInt32 >>> ((1 : Int32) &&& 31).toUInt32).toInt32) &&& (7 : Int32))), .val (.int p4), .unset, .unset, .unset] [(.int (2 : Int32)), (.int (((p5.toUInt32 >>> ((1 : Int32) &&& 31).toUInt32).toInt32) &&& (7 : Int32)))]))
        by_cases hc28 : (((p5.toUInt32 >>> ((1 : Int32) &&& 31).toUInt32).toInt32) &&& (7 : Int32)) = (2 : Int32)
        ·
          refine go (fun t kt => XS.icmpNo X6.here hx rfl (hb hby at_89) rfl (teq hc28).2 kt) ?_
          show Goes p.tables e below _ (T6.setTop (mkF m 92 #[.val (.int p0), .val (.int p1), .val (.int p2), .val (.int p3), .val (.int p4), .val (.int p5), .val (.ref b1), .val (.ref b2), .val (.int (1 : Int32)), .val (.int p2), .val (.int p3), .val (.int (((p5.toUInt32 >>> ((1 : Int32) &&& 31).toUInt32).toInt32) &&& (7 : Int32))), .val (.int p4), .unset, .unset, .unset] []))
          refine go (fun t kt => XS.iload X6.here hx rfl (hb hby at_92) rfl kt) ?_
          show Goes p.tables e below _ (T6.setTop (mkF m 94 #[.val (.int p0), .val (.int p1), .val (.int p2), .val (.int p3), .val (.int p4), .val (.int p5), .val (.ref b1), .val (.ref b2), .val (.int (1 : Int32)), .val (.int p2), .val (.int p3), .val (.int (((p5.toUInt32 >>> ((1 : Int32) &&& 31).toUInt32).toInt32) &&& (7 : Int32))), .val (.int p4), .unset, .unset, .unset] [(.int p3)]))
          refine go (fun t kt => XS.istore X6.here hx rfl (hb hby at_94) rfl (l' := #[.val (.int p0), .val (.int p1), .val (.int p2), .val (.int p3), .val (.int p4), .val (.int p5), .val (.ref b1), .val (.ref b2), .val (.int (1 : Int32)), .val (.int p2), .val (.int p3), .val (.int (((p5.toUInt32 >>> ((1 : Int32) &&& 31).toUInt32).toInt32) &&& (7 : Int32))), .val (.int p3), .unset, .unset, .unset]) rfl kt) ?_
          show Goes p.tables e below _ (T6.setTop (mkF m 96 #[.val (.int p0), .val (.int p1), .val (.int p2), .val (.int p3), .val (.int p4), .val (.int p5), .val (.ref b1), .val (.ref b2), .val (.int (1 : Int32)), .val (.int p2), .val (.int p3), .val (.int (((p5.toUInt32 >>> ((1 : Int32) &&& 31).toUInt32).toInt32) &&& (7 : Int32))), .val (.int p3), .unset, .unset, .unset] []))
          refine go (fun t kt => XS.goto X6.here hx rfl (pc0 := 96) (pc' := 126) rfl (hb hby at_96) (by decide) (by decide) kt) ?_
          show Goes p.tables e below _ (T6.setTop (mkF m 126 #[.val (.int p0), .val (.int p1), .val (.int p2), .val (.int p3), .val (.int p4), .val (.int p5), .val (.ref b1), .val (.ref b2), .val (.int (1 : Int32)), .val (.int p2), .val (.int p3), .val (.int (((p5.toUInt32 >>> ((1 : Int32) &&& 31).toUInt32).toInt32) &&& (7 : Int32))), .val (.int p3), .unset, .unset, .unset] []))
          exact KK _ (by rw [if_neg hc27, if_pos hc28])
        ·
          refine go (fun t kt => XS.icmpYes X6.here hx rfl (pc0 := 89) (pc' := 99) rfl (hb hby at_89) rfl (feq hc28).2 (by decide) (by decide) kt) ?_
          show Goes p.tables e below _ (T6.setTop (mkF m 99 #[.val (.int p0), .val (.int p1), .val (.int p2), .val (.int p3), .val (.int p4), .val (.int p5), .val (.ref b1), .val (.ref b2), .val (.int (1 : Int32)), .val (.int p2), .val (.int p3), .val (.int (((p5.toUInt32 >>> ((1 : Int32) &&& 31).toUInt32).toInt32) &&& (7 : Int32))), .val (.int p4), .unset, .unset, .unset] []))
          refine go (fun t kt => XS.iload X6.here hx rfl (hb hby at_99) rfl kt) ?_
          show Goes p.tables e below _ (T6.setTop (mkF m 101 #[.val (.int p0), .val (.int p1), .val (.int p2), .val (.int p3), .val (.int p4), .val (.int p5), .val (.ref b1), .val (.ref b2), .val (.int (1 : Int32)), .val (.int p2), .val (.int p3), .val (.int (((p5.toUInt32 >>> ((1 : Int32) &&& 31).toUInt32).toInt32) &&& (7 : Int32))), .val (.int p4), .unset, .unset, .unset] [(.int (((p5.toUInt32 >>> ((1 : Int32) &&& 31).toUInt32).toInt32) &&& (7 : Int32)))]))
          refine go (fun t kt => XS.iconst X6.here hx rfl (hb hby at_101) kt) ?_
          show Goes p.tables e below _ (T6.setTop (mkF m 102 #[.val (.int p0), .val (.int p1), .val (.int p2), .val (.int p3), .val (.int p4), .val (.int p5), .val (.ref b1), .val (.ref b2), .val (.int (1 : Int32)), .val (.int p2), .val (.int p3), .val (.int (((p5.toUInt32 >>> ((1 : Int32) &&& 31).toUInt32).toInt32) &&& (7 : Int32))), .val (.int p4), .unset, .unset, .unset] [(.int (3 : Int32)), (.int (((p5.toUInt32 >>> ((1 : Int32) &&& 31).toUInt32).toInt32) &&& (7 : Int32)))]))
          by_cases hc29 : (((p5.toUInt32 >>> ((1 : Int32) &&& 31).toUInt32).toInt32) &&& (7 : Int32)) = (3 : Int32)
          ·
            refine go (fun t kt => XS.icmpNo X6.here hx rfl (hb hby at_102) rfl (teq hc29).2 kt) ?_
            show Goes p.tables e below _ (T6.setTop (mkF m 105 #[.val (.int p0), .val (.int p1), .val (.int p2), .val (.int p3), .val (.int p4), .val (.int p5), .val (.ref b1), .val (.ref b2), .val (.int (1 : Int32)), .val (.int p2), .val (.int p3), .val (.int (((p5.toUInt32 >>> ((1 : Int32) &&& 31).toUInt32).toInt32) &&& (7 : Int32))), .val (.int p4), .unset, .unset, .unset] []))
            refine go (fun t kt => XS.iload X6.here hx rfl (hb hby at_105) rfl kt) ?_
            show Goes p.tables e below _ (T6.setTop (mkF m 107 #[.val (.int p0), .val (.int p1), .val (.int p2), .val (.int p3), .val (.int p4), .val (.int p5), .val (.ref b1), .val (.ref b2), .val (.int (1 : Int32)), .val (.int p2), .val (.int p3), .val (.int (((p5.toUInt32 >>> ((1 : Int32) &&& 31).toUInt32).toInt32) &&& (7 : Int32))), .val (.int p4), .unset, .unset, .unset] [(.int p2)]))
            refine go (fun t kt => XS.iconst X6.here hx rfl (hb hby at_107) kt) ?_
            show Goes p.tables e below _ (T6.setTop (mkF m 108 #[.val (.int p0), .val (.int p1), .val (.int p2), .val (.int p3), .val (.int p4), .val (.int p5), .val (.ref b1), .val (.ref b2), .val (.int (1 : Int32)), .val (.int p2), .val (.int p3), .val (.int (((p5.toUInt32 >>> ((1 : Int32) &&& 31).toUInt32).toInt32) &&& (7 : Int32))), .val (.int p4), .unset, .unset, .unset] [(.int (1 : Int32)), (.int p2)]))
            refine go (fun t kt => XS.isub X6.here hx rfl (hb hby at_108) rfl kt) ?_
            show Goes p.tables e below _ (T6.setTop (mkF m 109 #[.val (.int p0), .val (.int p1), .val (.int p2), .val (.int p3), .val (.int p4), .val (.int p5), .val (.ref b1), .val (.ref b2), .val (.int (1 : Int32)), .val (.int p2), .val (.int p3), .val (.int (((p5.toUInt32 >>> ((1 : Int32) &&& 31).toUInt32).toInt32) &&& (7 : Int32))), .val (.int p4), .unset, .unset, .unset] [(.int (p2 - (1 : Int32)))]))
            refine go (fun t kt => XS.istore X6.here hx rfl (hb hby at_109) rfl (l' := #[.val (.int p0), .val (.int p1), .val (.int p2), .val (.int p3), .val (.int p4), .val (.int p5), .val (.ref b1), .val (.ref b2), .val (.int (1 : Int32)), .val (.int p2), .val (.int p3), .val (.int (((p5.toUInt32 >>> ((1 : Int32) &&& 31).toUInt32).toInt32) &&& (7 : Int32))), .val (.int (p2 - (1 : Int32))), .unset, .unset, .unset]) rfl kt) ?_
            show Goes p.tables e below _ (T6.setTop (mkF m 111 #[.val (.int p0), .val (.int p1), .val (.int p2), .val (.int p3), .val (.int p4), .val (.int p5), .val (.ref b1), .val (.ref b2), .val (.int (1 : Int32)), .val (.int p2), .val (.int p3), .val (.int (((p5.toUInt32 >>> ((1 : Int32) &&& 31).toUInt32).toInt32) &&& (7 : Int32))), .val (.int (p2 - (1 : Int32))), .unset, .unset, .unset] []))
            refine go (fun t kt => XS.goto X6.here hx rfl (pc0 := 111) (pc' := 126) rfl (hb hby at_111) (by decide) (by decide) kt) ?_
            show Goes p.tables e below _ (T6.setTop (mkF m 126 #[.val (.int p0), .val (.int p1), .val (.int p2), .val (.int p3), .val (.int p4), .val (.int p5), .val (.ref b1), .val (.ref b2), .val (.int (1 : Int32)), .val (.int p2), .val (.int p3), .val (.int (((p5.toUInt32 >>> ((1 : Int32) &&& 31).toUInt32).toInt32) &&& (7 : Int32))), .val (.int (p2 - (1 : Int32))), .unset, .unset, .unset] []))
            exact KK _ (by rw [if_neg hc27, if_neg hc28, if_pos hc29])
          ·
            refine go (fun t kt => XS.icmpYes X6.here hx rfl (pc0 := 102) (pc' := 114) rfl (hb hby at_102) rfl (feq hc29).2 (by decide) (by decide) kt) ?_
            show Goes p.tables e below _ (T6.setTop (mkF m 114 #[.val (.int p0), .val (.int p1), .val (.int p2), .val (.int p3), .val (.int p4), .val (.int p5), .val (.ref b1), .val (.ref b2), .val (.int (1 : Int32)), .val (.int p2), .val (.int p3), .val (.int (((p5.toUInt32 >>> ((1 : Int32) &&& 31).toUInt32).toInt32) &&& (7 : Int32))), .val (.int p4), .unset, .unset, .unset] []))
            refine go (fun t kt => XS.iload X6.here hx rfl (hb hby at_114) rfl kt) ?_
            show Goes p.tables e below _ (T6.setTop (mkF m 116 #[.val (.int p0), .val (.int p1), .val (.int p2), .val (.int p3), .val (.int p4), .val (.int p5), .val (.ref b1), .val (.ref b2), .val (.int (1 : Int32)), .val (.int p2), .val (.int p3), .val (.int (((p5.toUInt32 >>> ((1 : Int32) &&& 31).toUInt32).toInt32) &&& (7 : Int32))), .val (.int p4), .unset, .unset, .unset] [(.int (((p5.toUInt32 >>> ((1 : Int32) &&& 31).toUInt32).toInt32) &&& (7 : Int32)))]))
            refine go (fun t kt => XS.iconst X6.here hx rfl (hb hby at_116) kt) ?_
            show Goes p.tables e below _ (T6.setTop (mkF m 117 #[.val (.int p0), .val (.int p1), .val (.int p2), .val (.int p3), .val (.int p4), .val (.int p5), .val (.ref b1), .val (.ref b2), .val (.int (1 : Int32)), .val (.int p2), .val (.int p3), .val (.int (((p5.toUInt32 >>> ((1 : Int32) &&& 31).toUInt32).toInt32) &&& (7 : Int32))), .val (.int p4), .unset, .unset, .unset] [(.int (4 : Int32)), (.int (((p5.toUInt32 >>> ((1 : Int32) &&& 31).toUInt32).toInt32) &&& (7 : Int32)))]))
            by_cases hc30 : (((p5.toUInt32 >>> ((1 : Int32) &&& 31).toUInt32).toInt32) &&& (7 : Int32)) = (4 : Int32)
            ·
              refine go (fun t kt => XS.icmpNo X6.here hx rfl (hb hby at_117) rfl (teq hc30).2 kt) ?_
              show Goes p.tables e below _ (T6.setTop (mkF m 120 #[.val (.int p0), .val (.int p1), .val (.int p2), .val (.int p3), .val (.int p4), .val (.int p5), .val (.ref b1), .val (.ref b2), .val (.int (1 : Int32)), .val (.int p2), .val (.int p3), .val (.int (((p5.toUInt32 >>> ((1 : Int32) &&& 31).toUInt32).toInt32) &&& (7 : Int32))), .val (.int p4), .unset, .unset, .unset] []))
              refine go (fun t kt => XS.iload X6.here hx rfl (hb hby at_120) rfl kt) ?_
              show Goes p.tables e below _ (T6.setTop (mkF m 122 #[.val (.int p0), .val (.int p1), .val (.int p2), .val (.int p3), .val (.int p4), .val (.int p5), .val (.ref b1), .val (.ref b2), .val (.int (1 : Int32)), .val (.int p2), .val (.int p3), .val (.int (((p5.toUInt32 >>> ((1 : Int32) &&& 31).toUInt32).toInt32) &&& (7 : Int32))), .val (.int p4), .unset, .unset, .unset] [(.int p3)]))
              refine go (fun t kt => XS.iconst X6.here hx rfl (hb hby at_122) kt) ?_
              show Goes p.tables e below _ (T6.setTop (mkF m 123 #[.val (.int p0), .val (.int p1), .val (.int p2), .val (.int p3), .val (.int p4), .val (.int p5), .val (.ref b1), .val (.ref b2), .val (.int (1 : Int32)), .val (.int p2), .val (.int p3), .val (.int (((p5.toUInt32 >>> ((1 : Int32) &&& 31).toUInt32).toInt32) &&& (7 : Int32))), .val (.int p4), .unset, .unset, .unset] [(.int (1 : Int32)), (.int p3)]))
              refine go (fun t kt => XS.iadd X6.here hx rfl (hb hby at_123) rfl kt) ?_
              show Goes p.tables e below _ (T6.setTop (mkF m 124 #[.val (.int p0), .val (.int p1), .val (.int p2), .val (.int p3), .val (.int p4), .val (.int p5), .val (.ref b1), .val (.ref b2), .val (.int (1 : Int32)), .val (.int p2), .val (.int p3), .val (.int (((p5.toUInt32 >>> ((1 : Int32) &&& 31).toUInt32).toInt32) &&& (7 : Int32))), .val (.int p4), .unset, .unset, .unset] [(.int (p3 + (1 : Int32)))]))
              refine go (fun t kt => XS.istore X6.here hx rfl (hb hby at_124) rfl (l' := #[.val (.int p0), .val (.int p1), .val (.int p2), .val (.int p3), .val (.int p4), .val (.int p5), .val (.ref b1), .val (.ref b2), .val (.int (1 : Int32)), .val (.int p2), .val (.int p3), .val (.int (((p5.toUInt32 >>> ((1 : Int32) &&& 31).toUInt32).toInt32) &&& (7 : Int32))), .val (.int (p3 + (1 : Int32))), .unset, .unset, .unset]) rfl kt) ?_
              show Goes p.tables e below _ (T6.setTop (mkF m 126 #[.val (.int p0), .val (.int p1), .val (.int p2), .val (.int p3), .val (.int p4), .val (.int p5), .val (.ref b1), .val (.ref b2), .val (.int (1 : Int32)), .val (.int p2), .val (.int p3), .val (.int (((p5.toUInt32 >>> ((1 : Int32) &&& 31).toUInt32).toInt32) &&& (7 : Int32))), .val (.int (p3 + (1 : Int32))), .unset, .unset, .unset] []))
              exact KK _ (by rw [if_neg hc27, if_neg hc28, if_neg hc29, if_pos hc30])
            ·
              refine go (fun t kt => XS.icmpYes X6.here hx rfl (pc0 := 117) (pc' := 126) rfl (hb hby at_117) rfl (feq hc30).2 (by decide) (by decide) kt) ?_
              show Goes p.tables e below _ (T6.setTop (mkF m 126 #[.val (.int p0), .val (.int p1), .val (.int p2), .val (.int p3), .val (.int p4), .val (.int p5), .val (.ref b1), .val (.ref b2), .val (.int (1 : Int32)), .val (.int p2), .val (.int p3), .val (.int (((p5.toUInt32 >>> ((1 : Int32) &&& 31).toUInt32).toInt32) &&& (7 : Int32))), .val (.int p4), .unset, .unset, .unset] []))
              exact KK _ (by rw [if_neg hc27, if_neg hc28, if_neg hc29, if_neg hc30])
    intro m26 hm26
    show Goes p.tables e below _ (T6.setTop (mkF m 126 #[.val (.int p0), .val (.int p1), .val (.int p2), .val (.int p3), .val (.int p4), .val (.int p5), .val (.ref b1), .val (.ref b2), .val (.int (1 : Int32)), .val (.int p2), .val (.int p3), .val (.int (((p5.toUInt32 >>> ((1 : Int32) &&& 31).toUInt32).toInt32) &&& (7 : Int32))), .val (.int m26), .unset, .unset, .unset] []))
    obtain ⟨T31, h31, X31, e31, E31, A31, D31, -, st31⟩ := newO X6 hx hZ hown (hw _ (List.mem_of_getElem? (i := 1) rfl)) (hw _ (List.mem_of_getElem? (i := 2) rfl)) (hw _ (List.mem_of_getElem? (i := 3) rfl)) e6 (g := (mkF m 126 #[.val (.int p0), .val (.int p1), .val (.int p2), .val (.int p3), .val (.int p4), .val (.int p5), .val (.ref b1), .val (.ref b2), .val (.int (1 : Int32)), .val (.int p2), .val (.int p3), .val (.int (((p5.toUInt32 >>> ((1 : Int32) &&& 31).toUInt32).toInt32) &&& (7 : Int32))), .val (.int m26), .unset, .unset, .unset] [])) rfl (hb hby at_126) (by decide) (by decide)
    obtain ⟨b31, g31⟩ : ∃ z, z = h6.size := ⟨_, rfl⟩
    rw [← g31] at A31 D31 st31
    have ne_b1_b31 : b1 ≠ b31 := Nat.ne_of_lt (Nat.lt_of_lt_of_le E_b1.lt (Nat.le_of_eq g31.symm))
    have ne_b2_b31 : b2 ≠ b31 := Nat.ne_of_lt (Nat.lt_of_lt_of_le E_b2.lt (Nat.le_of_eq g31.symm))
    have g_b31 : n0 ≤ b31 := Nat.le_trans Zz6 (Nat.le_of_eq g31.symm)
    have sz_b31 : h0.size ≤ b31 := Nat.le_trans Kk6.1 (Nat.le_of_eq g31.symm)
    replace S_DEFAULTCAPACITY_EMPTY_ELEMENTDATA := S_DEFAULTCAPACITY_EMPTY_ELEMENTDATA.ext E31
    replace E_b1 := E_b1.ext E31
    replace V_b1 := V_b1.ext E31
    replace E_b2 := E_b2.ext E31
    replace V_b2 := V_b2.ext E31
    have Zz31 := Nat.le_trans Zz6 E31.1
    have Kk31 := Kk6.ext E31
    have E_b31 := A31
    have F_names_b31 : Fld Z h31 b31 "com/example/anytime_arena/anytimearena/io/VariableTable" "names" "Ljava/util/List;" .null := D31 (Or.inr (hw _ (List.mem_of_getElem? (i := 35) rfl))) (ty := (.object "java/util/List")) (by decide)
    have F_types_b31 : Fld Z h31 b31 "com/example/anytime_arena/anytimearena/io/VariableTable" "types" "Ljava/util/List;" .null := D31 (Or.inr (hw _ (List.mem_of_getElem? (i := 37) rfl))) (ty := (.object "java/util/List")) (by decide)
    have F_owners_b31 : Fld Z h31 b31 "com/example/anytime_arena/anytimearena/io/VariableTable" "owners" "Ljava/util/List;" .null := D31 (Or.inr (hw _ (List.mem_of_getElem? (i := 39) rfl))) (ty := (.object "java/util/List")) (by decide)
    have F_slots_b31 : Fld Z h31 b31 "com/example/anytime_arena/anytimearena/io/VariableTable" "slots" "Ljava/util/Map;" .null := D31 (Or.inr (hw _ (List.mem_of_getElem? (i := 57) rfl))) (ty := (.object "java/util/Map")) (by decide)
    have F_low_b31 : Fld Z h31 b31 "com/example/anytime_arena/anytimearena/io/VariableTable" "low" "[I" .null := D31 (Or.inl (hw _ (List.mem_of_getElem? (i := 59) rfl))) (ty := (.array .int)) (by decide)
    have F_high_b31 : Fld Z h31 b31 "com/example/anytime_arena/anytimearena/io/VariableTable" "high" "[I" .null := D31 (Or.inl (hw _ (List.mem_of_getElem? (i := 61) rfl))) (ty := (.array .int)) (by decide)
    refine go st31 ?_
    show Goes p.tables e below _ (T31.setTop (mkF m 129 #[.val (.int p0), .val (.int p1), .val (.int p2), .val (.int p3), .val (.int p4), .val (.int p5), .val (.ref b1), .val (.ref b2), .val (.int (1 : Int32)), .val (.int p2), .val (.int p3), .val (.int (((p5.toUInt32 >>> ((1 : Int32) &&& 31).toUInt32).toInt32) &&& (7 : Int32))), .val (.int m26), .unset, .unset, .unset] [(.ref b31)]))
    refine go (fun t kt => XS.dup X31.here hx rfl (hb hby at_129) rfl rfl kt) ?_
    show Goes p.tables e below _ (T31.setTop (mkF m 130 #[.val (.int p0), .val (.int p1), .val (.int p2), .val (.int p3), .val (.int p4), .val (.int p5), .val (.ref b1), .val (.ref b2), .val (.int (1 : Int32)), .val (.int p2), .val (.int p3), .val (.int (((p5.toUInt32 >>> ((1 : Int32) &&& 31).toUInt32).toInt32) &&& (7 : Int32))), .val (.int m26), .unset, .unset, .unset] [(.ref b31), (.ref b31)]))
    obtain ⟨_, _, ⟨T32, L32, k32, n32⟩, -, X32, ⟨Lc32, hQ32, l32, y32, z32⟩, st32⟩ := X31.specialBack hx (y := (⟨"com/example/anytime_arena/anytimearena/io/VariableTable", "<init>", "()V"⟩ : MethodName)) rfl hown (mvT hZ (hw _ (List.mem_of_getElem? (i := 4) rfl))) (mvT hZ (hw _ (List.mem_of_getElem? (i := 5) rfl))) (mvT hZ (hw _ (List.mem_of_getElem? (i := 6) rfl))) (by decide) (backOf (W := 1) (rm1 l Z a0 hw [] b31 .null .null .null .null .null .null sd h31 n0 Zz31 E_b31 F_names_b31 F_types_b31 F_owners_b31 F_slots_b31 F_low_b31 F_high_b31 S_DEFAULTCAPACITY_EMPTY_ELEMENTDATA g_b31) hZ (hw _ (List.mem_of_getElem? (i := 6) rfl)) (hw _ (List.mem_of_getElem? (i := 3) rfl)) (by decide) (by decide)) (g := (mkF m 130 #[.val (.int p0), .val (.int p1), .val (.int p2), .val (.int p3), .val (.int p4), .val (.int p5), .val (.ref b1), .val (.ref b2), .val (.int (1 : Int32)), .val (.int p2), .val (.int p3), .val (.int (((p5.toUInt32 >>> ((1 : Int32) &&& 31).toUInt32).toInt32) &&& (7 : Int32))), .val (.int m26), .unset, .unset, .unset] [(.ref b31), (.ref b31)])) rfl (by rw [hml]; rfl) (Steps.refl _) (a := b31) (argsL := []) (rest := [(.ref b31)]) (lenOf pd_0 rfl) rfl (by show 2 * 0 + _ ≤ _; exact Nat.le_of_eq rfl) (hb hby at_130) (fun _ _ => ⟨rfl, e31, (by decide : 3 + 6 ≤ _), (by decide : 10 + 17 ≤ _)⟩)
    dsimp only [Pt.U, Pt.locs, Pt.cells, Pt.slots] at X32 l32 y32 z32 st32 hQ32
    subst l32 y32 z32
    obtain ⟨rfl, Nq32, Kq32, Eq32, ⟨ul32, Fl32⟩, ⟨uh32, Fh32⟩⟩ := hQ32
    replace S_DEFAULTCAPACITY_EMPTY_ELEMENTDATA := own_sta_keep S_DEFAULTCAPACITY_EMPTY_ELEMENTDATA E_b31 Kq32
    replace E_b1 := E_b1.keep Kq32
    replace V_b1 := V_b1.keep Kq32 (ninS ne_b1_b31 nin0)
    replace E_b2 := E_b2.keep Kq32
    replace V_b2 := V_b2.keep Kq32 (ninS ne_b2_b31 nin0)
    replace E_b31 := E_b31.keep Kq32
    clear F_names_b31
    clear F_types_b31
    clear F_owners_b31
    clear F_slots_b31
    clear F_low_b31
    clear F_high_b31
    have Zz32 := Nat.le_trans Zz31 Kq32.1
    have Kk32 := Kk31.trans Kq32 (allS (Or.inr sz_b31) all0)
    have E_b31 := Eq32
    have F_low_b31 := Fl32
    have F_high_b31 := Fh32
    have N32 := Fr.app N6 Nq32
    refine go (fun t kt => st32.trans kt) ?_
    show Goes p.tables e below _ (T32.setTop (mkF m 133 #[.val (.int p0), .val (.int p1), .val (.int p2), .val (.int p3), .val (.int p4), .val (.int p5), .val (.ref b1), .val (.ref b2), .val (.int (1 : Int32)), .val (.int p2), .val (.int p3), .val (.int (((p5.toUInt32 >>> ((1 : Int32) &&& 31).toUInt32).toInt32) &&& (7 : Int32))), .val (.int m26), .unset, .unset, .unset] [(.ref b31)]))
    refine go (fun t kt => XS.astore X32.here hx rfl (hb hby at_133) rfl rfl (l' := #[.val (.int p0), .val (.int p1), .val (.int p2), .val (.int p3), .val (.int p4), .val (.int p5), .val (.ref b1), .val (.ref b2), .val (.int (1 : Int32)), .val (.int p2), .val (.int p3), .val (.int (((p5.toUInt32 >>> ((1 : Int32) &&& 31).toUInt32).toInt32) &&& (7 : Int32))), .val (.int m26), .val (.ref b31), .unset, .unset]) rfl kt) ?_
    show Goes p.tables e below _ (T32.setTop (mkF m 135 #[.val (.int p0), .val (.int p1), .val (.int p2), .val (.int p3), .val (.int p4), .val (.int p5), .val (.ref b1), .val (.ref b2), .val (.int (1 : Int32)), .val (.int p2), .val (.int p3), .val (.int (((p5.toUInt32 >>> ((1 : Int32) &&& 31).toUInt32).toInt32) &&& (7 : Int32))), .val (.int m26), .val (.ref b31), .unset, .unset] []))
    refine go (fun t kt => XS.aload X32.here hx rfl (hb hby at_135) rfl rfl kt) ?_
    show Goes p.tables e below _ (T32.setTop (mkF m 137 #[.val (.int p0), .val (.int p1), .val (.int p2), .val (.int p3), .val (.int p4), .val (.int p5), .val (.ref b1), .val (.ref b2), .val (.int (1 : Int32)), .val (.int p2), .val (.int p3), .val (.int (((p5.toUInt32 >>> ((1 : Int32) &&& 31).toUInt32).toInt32) &&& (7 : Int32))), .val (.int m26), .val (.ref b31), .unset, .unset] [(.ref b31)]))
    refine go (fun t kt => XS.aload X32.here hx rfl (hb hby at_137) rfl rfl kt) ?_
    show Goes p.tables e below _ (T32.setTop (mkF m 139 #[.val (.int p0), .val (.int p1), .val (.int p2), .val (.int p3), .val (.int p4), .val (.int p5), .val (.ref b1), .val (.ref b2), .val (.int (1 : Int32)), .val (.int p2), .val (.int p3), .val (.int (((p5.toUInt32 >>> ((1 : Int32) &&& 31).toUInt32).toInt32) &&& (7 : Int32))), .val (.int m26), .val (.ref b31), .unset, .unset] [(.ref b1), (.ref b31)]))
    refine go (fun t kt => XS.aload X32.here hx rfl (hb hby at_139) rfl rfl kt) ?_
    show Goes p.tables e below _ (T32.setTop (mkF m 141 #[.val (.int p0), .val (.int p1), .val (.int p2), .val (.int p3), .val (.int p4), .val (.int p5), .val (.ref b1), .val (.ref b2), .val (.int (1 : Int32)), .val (.int p2), .val (.int p3), .val (.int (((p5.toUInt32 >>> ((1 : Int32) &&& 31).toUInt32).toInt32) &&& (7 : Int32))), .val (.int m26), .val (.ref b31), .unset, .unset] [(.ref b2), (.ref b1), (.ref b31)]))
    obtain ⟨cq33, kq33, q33a, q33b, q33c⟩ := isOf hZ rfl E_b31
    obtain ⟨_, _, ⟨T33, L33, k33, n33⟩, -, X33, ⟨Lc33, hQ33, l33, y33, z33⟩, st33⟩ := X32.virtualBack hx (y := (⟨"com/example/anytime_arena/anytimearena/io/VariableTable", "setRanges", "([I[I)V"⟩ : MethodName)) (z := (⟨"com/example/anytime_arena/anytimearena/io/VariableTable", "setRanges", "([I[I)V"⟩ : MethodName)) hown (mvT hZ (hw _ (List.mem_of_getElem? (i := 62) rfl))) (mvT hZ (hw _ (List.mem_of_getElem? (i := 63) rfl))) (notFace_of_selects (args := #[]) (mvT hZ (hw _ (List.mem_of_getElem? (i := 65) rfl)))) (mvT hZ (hw _ (List.mem_of_getElem? (i := 65) rfl))) (mvT hZ (hw _ (List.mem_of_getElem? (i := 64) rfl))) (by decide) (backOf (W := 0) (rm8 l Z a0 hw [] b31 b1 b2 ul32 uh32 k1 (2 : Int32) [(.int p0), (.int p2)] k2 (2 : Int32) [(.int p1), (.int p3)] T32.heap n0 Zz32 E_b31 F_low_b31 F_high_b31 E_b1 V_b1 E_b2 V_b2 (Ne.symm ne_b1_b31) (Ne.symm ne_b2_b31) g_b31 (by decide) (by decide)) hZ (hw _ (List.mem_of_getElem? (i := 66) rfl)) (hw _ (List.mem_of_getElem? (i := 3) rfl)) (by decide) (by decide)) q33a q33c (g := (mkF m 141 #[.val (.int p0), .val (.int p1), .val (.int p2), .val (.int p3), .val (.int p4), .val (.int p5), .val (.ref b1), .val (.ref b2), .val (.int (1 : Int32)), .val (.int p2), .val (.int p3), .val (.int (((p5.toUInt32 >>> ((1 : Int32) &&& 31).toUInt32).toInt32) &&& (7 : Int32))), .val (.int m26), .val (.ref b31), .unset, .unset] [(.ref b2), (.ref b1), (.ref b31)])) rfl (by rw [hml]; rfl) (Steps.refl _) (argsL := [(.ref b1), (.ref b2)]) (rest := []) (lenOf pd_1 rfl) rfl (by show 2 * 0 + _ ≤ _; exact Nat.le_of_eq rfl) (hb hby at_141) (fun _ _ => ⟨rfl, rfl, (by decide : 9 + 2 ≤ _), (by decide : 27 + 4 ≤ _)⟩)
    dsimp only [Pt.U, Pt.locs, Pt.cells, Pt.slots] at X33 l33 y33 z33 st33 hQ33
    subst l33 y33 z33
    obtain ⟨rfl, Nq33, Kq33, Eq33, c33, d33, lc33, ld33, ne_c33_d33, Fl33, Fh33, Ec33, Vc33, Ed33, Vd33⟩ := hQ33
    have ne_b1_c33 : b1 ≠ c33 := Nat.ne_of_lt (Nat.lt_of_lt_of_le E_b1.lt lc33)
    have ne_b2_c33 : b2 ≠ c33 := Nat.ne_of_lt (Nat.lt_of_lt_of_le E_b2.lt lc33)
    have ne_b31_c33 : b31 ≠ c33 := Nat.ne_of_lt (Nat.lt_of_lt_of_le E_b31.lt lc33)
    have g_c33 : n0 ≤ c33 := Nat.le_trans Zz32 lc33
    have sz_c33 : h0.size ≤ c33 := Nat.le_trans Kk32.1 lc33
    have ne_b1_d33 : b1 ≠ d33 := Nat.ne_of_lt (Nat.lt_of_lt_of_le E_b1.lt ld33)
    have ne_b2_d33 : b2 ≠ d33 := Nat.ne_of_lt (Nat.lt_of_lt_of_le E_b2.lt ld33)
    have ne_b31_d33 : b31 ≠ d33 := Nat.ne_of_lt (Nat.lt_of_lt_of_le E_b31.lt ld33)
    have g_d33 : n0 ≤ d33 := Nat.le_trans Zz32 ld33
    have sz_d33 : h0.size ≤ d33 := Nat.le_trans Kk32.1 ld33
    replace S_DEFAULTCAPACITY_EMPTY_ELEMENTDATA := own_sta_keep S_DEFAULTCAPACITY_EMPTY_ELEMENTDATA E_b31 Kq33
    replace E_b1 := E_b1.keep Kq33
    replace V_b1 := V_b1.keep Kq33 (ninS ne_b1_b31 nin0)
    replace E_b2 := E_b2.keep Kq33
    replace V_b2 := V_b2.keep Kq33 (ninS ne_b2_b31 nin0)
    replace E_b31 := E_b31.keep Kq33
    clear F_low_b31
    clear F_high_b31
    have Zz33 := Nat.le_trans Zz32 Kq33.1
    have Kk33 := Kk32.trans Kq33 (allS (Or.inr sz_b31) all0)
    have E_b31 := Eq33
    have F_low_b31 := Fl33
    have F_high_b31 := Fh33
    have E_c33 := Ec33
    have V_c33 := Vc33
    have E_d33 := Ed33
    have V_d33 := Vd33
    have N33 := Fr.app N32 Nq33
    refine go (fun t kt => st33.trans kt) ?_
    show Goes p.tables e below _ (T33.setTop (mkF m 144 #[.val (.int p0), .val (.int p1), .val (.int p2), .val (.int p3), .val (.int p4), .val (.int p5), .val (.ref b1), .val (.ref b2), .val (.int (1 : Int32)), .val (.int p2), .val (.int p3), .val (.int (((p5.toUInt32 >>> ((1 : Int32) &&& 31).toUInt32).toInt32) &&& (7 : Int32))), .val (.int m26), .val (.ref b31), .unset, .unset] []))
    refine go (fun t kt => XS.aload X33.here hx rfl (hb hby at_144) rfl rfl kt) ?_
    show Goes p.tables e below _ (T33.setTop (mkF m 146 #[.val (.int p0), .val (.int p1), .val (.int p2), .val (.int p3), .val (.int p4), .val (.int p5), .val (.ref b1), .val (.ref b2), .val (.int (1 : Int32)), .val (.int p2), .val (.int p3), .val (.int (((p5.toUInt32 >>> ((1 : Int32) &&& 31).toUInt32).toInt32) &&& (7 : Int32))), .val (.int m26), .val (.ref b31), .unset, .unset] [(.ref b1)]))
    refine go (fun t kt => XS.iconst X33.here hx rfl (hb hby at_146) kt) ?_
    show Goes p.tables e below _ (T33.setTop (mkF m 147 #[.val (.int p0), .val (.int p1), .val (.int p2), .val (.int p3), .val (.int p4), .val (.int p5), .val (.ref b1), .val (.ref b2), .val (.int (1 : Int32)), .val (.int p2), .val (.int p3), .val (.int (((p5.toUInt32 >>> ((1 : Int32) &&& 31).toUInt32).toInt32) &&& (7 : Int32))), .val (.int m26), .val (.ref b31), .unset, .unset] [(.int (0 : Int32)), (.ref b1)]))
    refine go (X33.ldcInt hx hown (mvT hZ (hw _ (List.mem_of_getElem? (i := 76) rfl))) (g := (mkF m 147 #[.val (.int p0), .val (.int p1), .val (.int p2), .val (.int p3), .val (.int p4), .val (.int p5), .val (.ref b1), .val (.ref b2), .val (.int (1 : Int32)), .val (.int p2), .val (.int p3), .val (.int (((p5.toUInt32 >>> ((1 : Int32) &&& 31).toUInt32).toInt32) &&& (7 : Int32))), .val (.int m26), .val (.ref b31), .unset, .unset] [(.int (0 : Int32)), (.ref b1)])) rfl (hb hby at_147)) ?_
    show Goes p.tables e below _ (T33.setTop (mkF m 149 #[.val (.int p0), .val (.int p1), .val (.int p2), .val (.int p3), .val (.int p4), .val (.int p5), .val (.ref b1), .val (.ref b2), .val (.int (1 : Int32)), .val (.int p2), .val (.int p3), .val (.int (((p5.toUInt32 >>> ((1 : Int32) &&& 31).toUInt32).toInt32) &&& (7 : Int32))), .val (.int m26), .val (.ref b31), .unset, .unset] [(.int (-2147483648 : Int32)), (.int (0 : Int32)), (.ref b1)]))
    obtain ⟨cl34, Ar34, q34, S34, M34, H34, G34⟩ := V_b1
    have hin34 : ¬ ((0 : Int32) < 0 ∨ cl34.slots.size ≤ ((0 : Int32)).toNatClampNeg) := inb_of S34 ⟨by decide, by decide⟩
    obtain ⟨T34, h34, X34, e34, W34, st34⟩ := stI X33 hx hZ rfl Ar34 (j := (0 : Int32)) hin34 (g := (mkF m 149 #[.val (.int p0), .val (.int p1), .val (.int p2), .val (.int p3), .val (.int p4), .val (.int p5), .val (.ref b1), .val (.ref b2), .val (.int (1 : Int32)), .val (.int p2), .val (.int p3), .val (.int (((p5.toUInt32 >>> ((1 : Int32) &&& 31).toUInt32).toInt32) &&& (7 : Int32))), .val (.int m26), .val (.ref b31), .unset, .unset] [(.int (-2147483648 : Int32)), (.int (0 : Int32)), (.ref b1)])) rfl rfl (hb hby at_149)
    have V_b1 : Arv Z h34 b1 k1 .int (2 : Int32) [(.int (-2147483648 : Int32)), (.int p2)] (.int (0 : Int32)) := Arv.set Ar34 q34 S34 M34 H34 G34 rfl W34 0 rfl (Nat.le_of_ble_eq_true rfl)
    replace S_DEFAULTCAPACITY_EMPTY_ELEMENTDATA := S_DEFAULTCAPACITY_EMPTY_ELEMENTDATA.wr W34
    replace E_b1 := E_b1.wr W34
    replace E_b2 := E_b2.wr W34
    replace V_b2 := V_b2.other W34 (Ne.symm ne_b1_b2)
    replace E_b31 := E_b31.wr W34
    replace F_low_b31 := F_low_b31.other W34 (Or.inl (Ne.symm ne_b1_b31))
    replace F_high_b31 := F_high_b31.other W34 (Or.inl (Ne.symm ne_b1_b31))
    replace E_c33 := E_c33.wr W34
    replace V_c33 := V_c33.other W34 (Ne.symm ne_b1_c33)
    replace E_d33 := E_d33.wr W34
    replace V_d33 := V_d33.other W34 (Ne.symm ne_b1_d33)
    have Zz34 := Nat.le_trans Zz33 (Keep.of_wr W34).1
    have Kk34 := Kk33.wr W34 (Or.inr sz_b1)
    have N34 := Fr.snoc X34 N33 g_b1
    refine go st34 ?_
    show Goes p.tables e below _ (T34.setTop (mkF m 150 #[.val (.int p0), .val (.int p1), .val (.int p2), .val (.int p3), .val (.int p4), .val (.int p5), .val (.ref b1), .val (.ref b2), .val (.int (1 : Int32)), .val (.int p2), .val (.int p3), .val (.int (((p5.toUInt32 >>> ((1 : Int32) &&& 31).toUInt32).toInt32) &&& (7 : Int32))), .val (.int m26), .val (.ref b31), .unset, .unset] []))
    refine go (fun t kt => XS.aload X34.here hx rfl (hb hby at_150) rfl rfl kt) ?_
    show Goes p.tables e below _ (T34.setTop (mkF m 152 #[.val (.int p0), .val (.int p1), .val (.int p2), .val (.int p3), .val (.int p4), .val (.int p5), .val (.ref b1), .val (.ref b2), .val (.int (1 : Int32)), .val (.int p2), .val (.int p3), .val (.int (((p5.toUInt32 >>> ((1 : Int32) &&& 31).toUInt32).toInt32) &&& (7 : Int32))), .val (.int m26), .val (.ref b31), .unset, .unset] [(.ref b2)]))
    refine go (fun t kt => XS.iconst X34.here hx rfl (hb hby at_152) kt) ?_
    show Goes p.tables e below _ (T34.setTop (mkF m 153 #[.val (.int p0), .val (.int p1), .val (.int p2), .val (.int p3), .val (.int p4), .val (.int p5), .val (.ref b1), .val (.ref b2), .val (.int (1 : Int32)), .val (.int p2), .val (.int p3), .val (.int (((p5.toUInt32 >>> ((1 : Int32) &&& 31).toUInt32).toInt32) &&& (7 : Int32))), .val (.int m26), .val (.ref b31), .unset, .unset] [(.int (0 : Int32)), (.ref b2)]))
    refine go (X34.ldcInt hx hown (mvT hZ (hw _ (List.mem_of_getElem? (i := 77) rfl))) (g := (mkF m 153 #[.val (.int p0), .val (.int p1), .val (.int p2), .val (.int p3), .val (.int p4), .val (.int p5), .val (.ref b1), .val (.ref b2), .val (.int (1 : Int32)), .val (.int p2), .val (.int p3), .val (.int (((p5.toUInt32 >>> ((1 : Int32) &&& 31).toUInt32).toInt32) &&& (7 : Int32))), .val (.int m26), .val (.ref b31), .unset, .unset] [(.int (0 : Int32)), (.ref b2)])) rfl (hb hby at_153)) ?_
    show Goes p.tables e below _ (T34.setTop (mkF m 155 #[.val (.int p0), .val (.int p1), .val (.int p2), .val (.int p3), .val (.int p4), .val (.int p5), .val (.ref b1), .val (.ref b2), .val (.int (1 : Int32)), .val (.int p2), .val (.int p3), .val (.int (((p5.toUInt32 >>> ((1 : Int32) &&& 31).toUInt32).toInt32) &&& (7 : Int32))), .val (.int m26), .val (.ref b31), .unset, .unset] [(.int (2147483647 : Int32)), (.int (0 : Int32)), (.ref b2)]))
    obtain ⟨cl35, Ar35, q35, S35, M35, H35, G35⟩ := V_b2
    have hin35 : ¬ ((0 : Int32) < 0 ∨ cl35.slots.size ≤ ((0 : Int32)).toNatClampNeg) := inb_of S35 ⟨by decide, by decide⟩
    obtain ⟨T35, h35, X35, e35, W35, st35⟩ := stI X34 hx hZ e34 Ar35 (j := (0 : Int32)) hin35 (g := (mkF m 155 #[.val (.int p0), .val (.int p1), .val (.int p2), .val (.int p3), .val (.int p4), .val (.int p5), .val (.ref b1), .val (.ref b2), .val (.int (1 : Int32)), .val (.int p2), .val (.int p3), .val (.int (((p5.toUInt32 >>> ((1 : Int32) &&& 31).toUInt32).toInt32) &&& (7 : Int32))), .val (.int m26), .val (.ref b31), .unset, .unset] [(.int (2147483647 : Int32)), (.int (0 : Int32)), (.ref b2)])) rfl rfl (hb hby at_155)
    have V_b2 : Arv Z h35 b2 k2 .int (2 : Int32) [(.int (2147483647 : Int32)), (.int p3)] (.int (0 : Int32)) := Arv.set Ar35 q35 S35 M35 H35 G35 rfl W35 0 rfl (Nat.le_of_ble_eq_true rfl)
    replace S_DEFAULTCAPACITY_EMPTY_ELEMENTDATA := S_DEFAULTCAPACITY_EMPTY_ELEMENTDATA.wr W35
    replace E_b1 := E_b1.wr W35
    replace V_b1 := V_b1.other W35 ne_b1_b2
    replace E_b2 := E_b2.wr W35
    replace E_b31 := E_b31.wr W35
    replace F_low_b31 := F_low_b31.other W35 (Or.inl (Ne.symm ne_b2_b31))
    replace F_high_b31 := F_high_b31.other W35 (Or.inl (Ne.symm ne_b2_b31))
    replace E_c33 := E_c33.wr W35
    replace V_c33 := V_c33.other W35 (Ne.symm ne_b2_c33)
    replace E_d33 := E_d33.wr W35
    replace V_d33 := V_d33.other W35 (Ne.symm ne_b2_d33)
    have Zz35 := Nat.le_trans Zz34 (Keep.of_wr W35).1
    have Kk35 := Kk34.wr W35 (Or.inr sz_b2)
    have N35 := Fr.snoc X35 N34 g_b2
    refine go st35 ?_
    show Goes p.tables e below _ (T35.setTop (mkF m 156 #[.val (.int p0), .val (.int p1), .val (.int p2), .val (.int p3), .val (.int p4), .val (.int p5), .val (.ref b1), .val (.ref b2), .val (.int (1 : Int32)), .val (.int p2), .val (.int p3), .val (.int (((p5.toUInt32 >>> ((1 : Int32) &&& 31).toUInt32).toInt32) &&& (7 : Int32))), .val (.int m26), .val (.ref b31), .unset, .unset] []))
    refine go (fun t kt => XS.aload X35.here hx rfl (hb hby at_156) rfl rfl kt) ?_
    show Goes p.tables e below _ (T35.setTop (mkF m 158 #[.val (.int p0), .val (.int p1), .val (.int p2), .val (.int p3), .val (.int p4), .val (.int p5), .val (.ref b1), .val (.ref b2), .val (.int (1 : Int32)), .val (.int p2), .val (.int p3), .val (.int (((p5.toUInt32 >>> ((1 : Int32) &&& 31).toUInt32).toInt32) &&& (7 : Int32))), .val (.int m26), .val (.ref b31), .unset, .unset] [(.ref b1)]))
    refine go (fun t kt => XS.iconst X35.here hx rfl (hb hby at_158) kt) ?_
    show Goes p.tables e below _ (T35.setTop (mkF m 159 #[.val (.int p0), .val (.int p1), .val (.int p2), .val (.int p3), .val (.int p4), .val (.int p5), .val (.ref b1), .val (.ref b2), .val (.int (1 : Int32)), .val (.int p2), .val (.int p3), .val (.int (((p5.toUInt32 >>> ((1 : Int32) &&& 31).toUInt32).toInt32) &&& (7 : Int32))), .val (.int m26), .val (.ref b31), .unset, .unset] [(.int (1 : Int32)), (.ref b1)]))
    refine go (X35.ldcInt hx hown (mvT hZ (hw _ (List.mem_of_getElem? (i := 76) rfl))) (g := (mkF m 159 #[.val (.int p0), .val (.int p1), .val (.int p2), .val (.int p3), .val (.int p4), .val (.int p5), .val (.ref b1), .val (.ref b2), .val (.int (1 : Int32)), .val (.int p2), .val (.int p3), .val (.int (((p5.toUInt32 >>> ((1 : Int32) &&& 31).toUInt32).toInt32) &&& (7 : Int32))), .val (.int m26), .val (.ref b31), .unset, .unset] [(.int (1 : Int32)), (.ref b1)])) rfl (hb hby at_159)) ?_
    show Goes p.tables e below _ (T35.setTop (mkF m 161 #[.val (.int p0), .val (.int p1), .val (.int p2), .val (.int p3), .val (.int p4), .val (.int p5), .val (.ref b1), .val (.ref b2), .val (.int (1 : Int32)), .val (.int p2), .val (.int p3), .val (.int (((p5.toUInt32 >>> ((1 : Int32) &&& 31).toUInt32).toInt32) &&& (7 : Int32))), .val (.int m26), .val (.ref b31), .unset, .unset] [(.int (-2147483648 : Int32)), (.int (1 : Int32)), (.ref b1)]))
    obtain ⟨cl36, Ar36, q36, S36, M36, H36, G36⟩ := V_b1
    have hin36 : ¬ ((1 : Int32) < 0 ∨ cl36.slots.size ≤ ((1 : Int32)).toNatClampNeg) := inb_of S36 ⟨by decide, by decide⟩
    obtain ⟨T36, h36, X36, e36, W36, st36⟩ := stI X35 hx hZ e35 Ar36 (j := (1 : Int32)) hin36 (g := (mkF m 161 #[.val (.int p0), .val (.int p1), .val (.int p2), .val (.int p3), .val (.int p4), .val (.int p5), .val (.ref b1), .val (.ref b2), .val (.int (1 : Int32)), .val (.int p2), .val (.int p3), .val (.int (((p5.toUInt32 >>> ((1 : Int32) &&& 31).toUInt32).toInt32) &&& (7 : Int32))), .val (.int m26), .val (.ref b31), .unset, .unset] [(.int (-2147483648 : Int32)), (.int (1 : Int32)), (.ref b1)])) rfl rfl (hb hby at_161)
    have V_b1 : Arv Z h36 b1 k1 .int (2 : Int32) [(.int (-2147483648 : Int32)), (.int (-2147483648 : Int32))] (.int (0 : Int32)) := Arv.set Ar36 q36 S36 M36 H36 G36 rfl W36 1 rfl (Nat.le_of_ble_eq_true rfl)
    replace S_DEFAULTCAPACITY_EMPTY_ELEMENTDATA := S_DEFAULTCAPACITY_EMPTY_ELEMENTDATA.wr W36
    replace E_b1 := E_b1.wr W36
    replace E_b2 := E_b2.wr W36
    replace V_b2 := V_b2.other W36 (Ne.symm ne_b1_b2)
    replace E_b31 := E_b31.wr W36
    replace F_low_b31 := F_low_b31.other W36 (Or.inl (Ne.symm ne_b1_b31))
    replace F_high_b31 := F_high_b31.other W36 (Or.inl (Ne.symm ne_b1_b31))
    replace E_c33 := E_c33.wr W36
    replace V_c33 := V_c33.other W36 (Ne.symm ne_b1_c33)
    replace E_d33 := E_d33.wr W36
    replace V_d33 := V_d33.other W36 (Ne.symm ne_b1_d33)
    have Zz36 := Nat.le_trans Zz35 (Keep.of_wr W36).1
    have Kk36 := Kk35.wr W36 (Or.inr sz_b1)
    have N36 := Fr.snoc X36 N35 g_b1
    refine go st36 ?_
    show Goes p.tables e below _ (T36.setTop (mkF m 162 #[.val (.int p0), .val (.int p1), .val (.int p2), .val (.int p3), .val (.int p4), .val (.int p5), .val (.ref b1), .val (.ref b2), .val (.int (1 : Int32)), .val (.int p2), .val (.int p3), .val (.int (((p5.toUInt32 >>> ((1 : Int32) &&& 31).toUInt32).toInt32) &&& (7 : Int32))), .val (.int m26), .val (.ref b31), .unset, .unset] []))
    refine go (fun t kt => XS.aload X36.here hx rfl (hb hby at_162) rfl rfl kt) ?_
    show Goes p.tables e below _ (T36.setTop (mkF m 164 #[.val (.int p0), .val (.int p1), .val (.int p2), .val (.int p3), .val (.int p4), .val (.int p5), .val (.ref b1), .val (.ref b2), .val (.int (1 : Int32)), .val (.int p2), .val (.int p3), .val (.int (((p5.toUInt32 >>> ((1 : Int32) &&& 31).toUInt32).toInt32) &&& (7 : Int32))), .val (.int m26), .val (.ref b31), .unset, .unset] [(.ref b2)]))
    refine go (fun t kt => XS.iconst X36.here hx rfl (hb hby at_164) kt) ?_
    show Goes p.tables e below _ (T36.setTop (mkF m 165 #[.val (.int p0), .val (.int p1), .val (.int p2), .val (.int p3), .val (.int p4), .val (.int p5), .val (.ref b1), .val (.ref b2), .val (.int (1 : Int32)), .val (.int p2), .val (.int p3), .val (.int (((p5.toUInt32 >>> ((1 : Int32) &&& 31).toUInt32).toInt32) &&& (7 : Int32))), .val (.int m26), .val (.ref b31), .unset, .unset] [(.int (1 : Int32)), (.ref b2)]))
    refine go (X36.ldcInt hx hown (mvT hZ (hw _ (List.mem_of_getElem? (i := 77) rfl))) (g := (mkF m 165 #[.val (.int p0), .val (.int p1), .val (.int p2), .val (.int p3), .val (.int p4), .val (.int p5), .val (.ref b1), .val (.ref b2), .val (.int (1 : Int32)), .val (.int p2), .val (.int p3), .val (.int (((p5.toUInt32 >>> ((1 : Int32) &&& 31).toUInt32).toInt32) &&& (7 : Int32))), .val (.int m26), .val (.ref b31), .unset, .unset] [(.int (1 : Int32)), (.ref b2)])) rfl (hb hby at_165)) ?_
    show Goes p.tables e below _ (T36.setTop (mkF m 167 #[.val (.int p0), .val (.int p1), .val (.int p2), .val (.int p3), .val (.int p4), .val (.int p5), .val (.ref b1), .val (.ref b2), .val (.int (1 : Int32)), .val (.int p2), .val (.int p3), .val (.int (((p5.toUInt32 >>> ((1 : Int32) &&& 31).toUInt32).toInt32) &&& (7 : Int32))), .val (.int m26), .val (.ref b31), .unset, .unset] [(.int (2147483647 : Int32)), (.int (1 : Int32)), (.ref b2)]))
    obtain ⟨cl37, Ar37, q37, S37, M37, H37, G37⟩ := V_b2
    have hin37 : ¬ ((1 : Int32) < 0 ∨ cl37.slots.size ≤ ((1 : Int32)).toNatClampNeg) := inb_of S37 ⟨by decide, by decide⟩
    obtain ⟨T37, h37, X37, e37, W37, st37⟩ := stI X36 hx hZ e36 Ar37 (j := (1 : Int32)) hin37 (g := (mkF m 167 #[.val (.int p0), .val (.int p1), .val (.int p2), .val (.int p3), .val (.int p4), .val (.int p5), .val (.ref b1), .val (.ref b2), .val (.int (1 : Int32)), .val (.int p2), .val (.int p3), .val (.int (((p5.toUInt32 >>> ((1 : Int32) &&& 31).toUInt32).toInt32) &&& (7 : Int32))), .val (.int m26), .val (.ref b31), .unset, .unset] [(.int (2147483647 : Int32)), (.int (1 : Int32)), (.ref b2)])) rfl rfl (hb hby at_167)
    have V_b2 : Arv Z h37 b2 k2 .int (2 : Int32) [(.int (2147483647 : Int32)), (.int (2147483647 : Int32))] (.int (0 : Int32)) := Arv.set Ar37 q37 S37 M37 H37 G37 rfl W37 1 rfl (Nat.le_of_ble_eq_true rfl)
    replace S_DEFAULTCAPACITY_EMPTY_ELEMENTDATA := S_DEFAULTCAPACITY_EMPTY_ELEMENTDATA.wr W37
    replace E_b1 := E_b1.wr W37
    replace V_b1 := V_b1.other W37 ne_b1_b2
    replace E_b2 := E_b2.wr W37
    replace E_b31 := E_b31.wr W37
    replace F_low_b31 := F_low_b31.other W37 (Or.inl (Ne.symm ne_b2_b31))
    replace F_high_b31 := F_high_b31.other W37 (Or.inl (Ne.symm ne_b2_b31))
    replace E_c33 := E_c33.wr W37
    replace V_c33 := V_c33.other W37 (Ne.symm ne_b2_c33)
    replace E_d33 := E_d33.wr W37
    replace V_d33 := V_d33.other W37 (Ne.symm ne_b2_d33)
    have Zz37 := Nat.le_trans Zz36 (Keep.of_wr W37).1
    have Kk37 := Kk36.wr W37 (Or.inr sz_b2)
    have N37 := Fr.snoc X37 N36 g_b2
    refine go st37 ?_
    show Goes p.tables e below _ (T37.setTop (mkF m 168 #[.val (.int p0), .val (.int p1), .val (.int p2), .val (.int p3), .val (.int p4), .val (.int p5), .val (.ref b1), .val (.ref b2), .val (.int (1 : Int32)), .val (.int p2), .val (.int p3), .val (.int (((p5.toUInt32 >>> ((1 : Int32) &&& 31).toUInt32).toInt32) &&& (7 : Int32))), .val (.int m26), .val (.ref b31), .unset, .unset] []))
    refine go (fun t kt => XS.aload X37.here hx rfl (hb hby at_168) rfl rfl kt) ?_
    show Goes p.tables e below _ (T37.setTop (mkF m 170 #[.val (.int p0), .val (.int p1), .val (.int p2), .val (.int p3), .val (.int p4), .val (.int p5), .val (.ref b1), .val (.ref b2), .val (.int (1 : Int32)), .val (.int p2), .val (.int p3), .val (.int (((p5.toUInt32 >>> ((1 : Int32) &&& 31).toUInt32).toInt32) &&& (7 : Int32))), .val (.int m26), .val (.ref b31), .unset, .unset] [(.ref b31)]))
    refine go (fun t kt => XS.iload X37.here hx rfl (hb hby at_170) rfl kt) ?_
    show Goes p.tables e below _ (T37.setTop (mkF m 172 #[.val (.int p0), .val (.int p1), .val (.int p2), .val (.int p3), .val (.int p4), .val (.int p5), .val (.ref b1), .val (.ref b2), .val (.int (1 : Int32)), .val (.int p2), .val (.int p3), .val (.int (((p5.toUInt32 >>> ((1 : Int32) &&& 31).toUInt32).toInt32) &&& (7 : Int32))), .val (.int m26), .val (.ref b31), .unset, .unset] [(.int (1 : Int32)), (.ref b31)]))
    refine go (fun t kt => XS.iload X37.here hx rfl (hb hby at_172) rfl kt) ?_
    show Goes p.tables e below _ (T37.setTop (mkF m 174 #[.val (.int p0), .val (.int p1), .val (.int p2), .val (.int p3), .val (.int p4), .val (.int p5), .val (.ref b1), .val (.ref b2), .val (.int (1 : Int32)), .val (.int p2), .val (.int p3), .val (.int (((p5.toUInt32 >>> ((1 : Int32) &&& 31).toUInt32).toInt32) &&& (7 : Int32))), .val (.int m26), .val (.ref b31), .unset, .unset] [(.int m26), (.int (1 : Int32)), (.ref b31)]))
    obtain ⟨cq38, kq38, q38a, q38b, q38c⟩ := isOf hZ e37 E_b31
    obtain ⟨_, _, ⟨T38, L38, k38, n38⟩, -, X38, ⟨Lc38, hQ38, l38, y38, z38⟩, st38⟩ := X37.virtualBack hx (y := (⟨"com/example/anytime_arena/anytimearena/io/VariableTable", "inRange", "(II)Z"⟩ : MethodName)) (z := (⟨"com/example/anytime_arena/anytimearena/io/VariableTable", "inRange", "(II)Z"⟩ : MethodName)) hown (mvT hZ (hw _ (List.mem_of_getElem? (i := 78) rfl))) (mvT hZ (hw _ (List.mem_of_getElem? (i := 79) rfl))) (notFace_of_selects (args := #[]) (mvT hZ (hw _ (List.mem_of_getElem? (i := 81) rfl)))) (mvT hZ (hw _ (List.mem_of_getElem? (i := 81) rfl))) (mvT hZ (hw _ (List.mem_of_getElem? (i := 80) rfl))) (by decide) (backOf (W := 0) (rm9 l Z a0 hw [] b31 (1 : Int32) m26 c33 d33 k1 (2 : Int32) [(.int p0), (.int p2)] k2 (2 : Int32) [(.int p1), (.int p3)] p2 p3 h37 n0 Zz37 F_low_b31 F_high_b31 V_c33 V_d33 ⟨by decide, by decide⟩ ⟨by decide, by decide⟩ rfl rfl) hZ (hw _ (List.mem_of_getElem? (i := 82) rfl)) (hw _ (List.mem_of_getElem? (i := 3) rfl)) (by decide) (by decide)) q38a q38c (g := (mkF m 174 #[.val (.int p0), .val (.int p1), .val (.int p2), .val (.int p3), .val (.int p4), .val (.int p5), .val (.ref b1), .val (.ref b2), .val (.int (1 : Int32)), .val (.int p2), .val (.int p3), .val (.int (((p5.toUInt32 >>> ((1 : Int32) &&& 31).toUInt32).toInt32) &&& (7 : Int32))), .val (.int m26), .val (.ref b31), .unset, .unset] [(.int m26), (.int (1 : Int32)), (.ref b31)])) rfl (by rw [hml]; rfl) (Steps.refl _) (argsL := [(.int (1 : Int32)), (.int m26)]) (rest := []) (lenOf pd_2 rfl) rfl (by show 2 * 0 + _ ≤ _; exact Nat.le_of_eq rfl) (hb hby at_174) (fun _ _ => ⟨rfl, e37, (by decide : 11 + 0 ≤ _), (by decide : 31 + 0 ≤ _)⟩)
    dsimp only [Pt.U, Pt.locs, Pt.cells, Pt.slots] at X38 l38 y38 z38 st38 hQ38
    subst l38 y38 z38
    obtain ⟨rfl, Nq38, e38⟩ := hQ38
    have N38 := Fr.app N37 Nq38
    refine go (fun t kt => st38.trans kt) ?_
    show Goes p.tables e below _ (T38.setTop (mkF m 177 #[.val (.int p0), .val (.int p1), .val (.int p2), .val (.int p3), .val (.int p4), .val (.int p5), .val (.ref b1), .val (.ref b2), .val (.int (1 : Int32)), .val (.int p2), .val (.int p3), .val (.int (((p5.toUInt32 >>> ((1 : Int32) &&& 31).toUInt32).toInt32) &&& (7 : Int32))), .val (.int m26), .val (.ref b31), .unset, .unset] [(.int (own_inR m26 p2 p3))]))
    refine go (fun t kt => XS.istore X38.here hx rfl (hb hby at_177) rfl (l' := #[.val (.int p0), .val (.int p1), .val (.int p2), .val (.int p3), .val (.int p4), .val (.int p5), .val (.ref b1), .val (.ref b2), .val (.int (1 : Int32)), .val (.int p2), .val (.int p3), .val (.int (((p5.toUInt32 >>> ((1 : Int32) &&& 31).toUInt32).toInt32) &&& (7 : Int32))), .val (.int m26), .val (.ref b31), .val (.int (own_inR m26 p2 p3)), .unset]) rfl kt) ?_
    show Goes p.tables e below _ (T38.setTop (mkF m 179 #[.val (.int p0), .val (.int p1), .val (.int p2), .val (.int p3), .val (.int p4), .val (.int p5), .val (.ref b1), .val (.ref b2), .val (.int (1 : Int32)), .val (.int p2), .val (.int p3), .val (.int (((p5.toUInt32 >>> ((1 : Int32) &&& 31).toUInt32).toInt32) &&& (7 : Int32))), .val (.int m26), .val (.ref b31), .val (.int (own_inR m26 p2 p3)), .unset] []))
    refine go (fun t kt => XS.iload X38.here hx rfl (hb hby at_179) rfl kt) ?_
    show Goes p.tables e below _ (T38.setTop (mkF m 181 #[.val (.int p0), .val (.int p1), .val (.int p2), .val (.int p3), .val (.int p4), .val (.int p5), .val (.ref b1), .val (.ref b2), .val (.int (1 : Int32)), .val (.int p2), .val (.int p3), .val (.int (((p5.toUInt32 >>> ((1 : Int32) &&& 31).toUInt32).toInt32) &&& (7 : Int32))), .val (.int m26), .val (.ref b31), .val (.int (own_inR m26 p2 p3)), .unset] [(.int m26)]))
    refine go (fun t kt => XS.i2l X38.here hx rfl (hb hby at_181) rfl kt) ?_
    show Goes p.tables e below _ (T38.setTop (mkF m 182 #[.val (.int p0), .val (.int p1), .val (.int p2), .val (.int p3), .val (.int p4), .val (.int p5), .val (.ref b1), .val (.ref b2), .val (.int (1 : Int32)), .val (.int p2), .val (.int p3), .val (.int (((p5.toUInt32 >>> ((1 : Int32) &&& 31).toUInt32).toInt32) &&& (7 : Int32))), .val (.int m26), .val (.ref b31), .val (.int (own_inR m26 p2 p3)), .unset] [(.long (m26.toInt64))]))
    refine go (fun t kt => XS.iload X38.here hx rfl (hb hby at_182) rfl kt) ?_
    show Goes p.tables e below _ (T38.setTop (mkF m 184 #[.val (.int p0), .val (.int p1), .val (.int p2), .val (.int p3), .val (.int p4), .val (.int p5), .val (.ref b1), .val (.ref b2), .val (.int (1 : Int32)), .val (.int p2), .val (.int p3), .val (.int (((p5.toUInt32 >>> ((1 : Int32) &&& 31).toUInt32).toInt32) &&& (7 : Int32))), .val (.int m26), .val (.ref b31), .val (.int (own_inR m26 p2 p3)), .unset] [(.int p2), (.long (m26.toInt64))]))
    refine go (fun t kt => XS.i2l X38.here hx rfl (hb hby at_184) rfl kt) ?_
    show Goes p.tables e below _ (T38.setTop (mkF m 185 #[.val (.int p0), .val (.int p1), .val (.int p2), .val (.int p3), .val (.int p4), .val (.int p5), .val (.ref b1), .val (.ref b2), .val (.int (1 : Int32)), .val (.int p2), .val (.int p3), .val (.int (((p5.toUInt32 >>> ((1 : Int32) &&& 31).toUInt32).toInt32) &&& (7 : Int32))), .val (.int m26), .val (.ref b31), .val (.int (own_inR m26 p2 p3)), .unset] [(.long (p2.toInt64)), (.long (m26.toInt64))]))
    refine go (fun t kt => XS.lsub X38.here hx rfl (hb hby at_185) rfl kt) ?_
    show Goes p.tables e below _ (T38.setTop (mkF m 186 #[.val (.int p0), .val (.int p1), .val (.int p2), .val (.int p3), .val (.int p4), .val (.int p5), .val (.ref b1), .val (.ref b2), .val (.int (1 : Int32)), .val (.int p2), .val (.int p3), .val (.int (((p5.toUInt32 >>> ((1 : Int32) &&& 31).toUInt32).toInt32) &&& (7 : Int32))), .val (.int m26), .val (.ref b31), .val (.int (own_inR m26 p2 p3)), .unset] [(.long ((m26.toInt64) - (p2.toInt64)))]))
    refine go (fun t kt => XS.lconst X38.here hx rfl (hb hby at_186) kt) ?_
    show Goes p.tables e below _ (T38.setTop (mkF m 187 #[.val (.int p0), .val (.int p1), .val (.int p2), .val (.int p3), .val (.int p4), .val (.int p5), .val (.ref b1), .val (.ref b2), .val (.int (1 : Int32)), .val (.int p2), .val (.int p3), .val (.int (((p5.toUInt32 >>> ((1 : Int32) &&& 31).toUInt32).toInt32) &&& (7 : Int32))), .val (.int m26), .val (.ref b31), .val (.int (own_inR m26 p2 p3)), .unset] [(.long (0 : Int64)), (.long ((m26.toInt64) - (p2.toInt64)))]))
    refine go (fun t kt => XS.lcmp X38.here hx rfl (hb hby at_187) rfl kt) ?_
    show Goes p.tables e below _ (T38.setTop (mkF m 188 #[.val (.int p0), .val (.int p1), .val (.int p2), .val (.int p3), .val (.int p4), .val (.int p5), .val (.ref b1), .val (.ref b2), .val (.int (1 : Int32)), .val (.int p2), .val (.int p3), .val (.int (((p5.toUInt32 >>> ((1 : Int32) &&& 31).toUInt32).toInt32) &&& (7 : Int32))), .val (.int m26), .val (.ref b31), .val (.int (own_inR m26 p2 p3)), .unset] [(.int (lcmpW ((m26.toInt64) - (p2.toInt64)) (0 : Int64)))]))
    by_cases hc39 : ((m26.toInt64) - (p2.toInt64)) < (0 : Int64)
    ·
      refine go (fun t kt => XS.ifYes X38.here hx rfl (pc0 := 188) (pc' := 207) rfl (hb hby at_188) rfl ((if0 _ _).trans (tlt ((lw_lt ((m26.toInt64) - (p2.toInt64)) (0 : Int64)).mpr hc39)).1) (by decide) (by decide) kt) ?_
      show Goes p.tables e below _ (T38.setTop (mkF m 207 #[.val (.int p0), .val (.int p1), .val (.int p2), .val (.int p3), .val (.int p4), .val (.int p5), .val (.ref b1), .val (.ref b2), .val (.int (1 : Int32)), .val (.int p2), .val (.int p3), .val (.int (((p5.toUInt32 >>> ((1 : Int32) &&& 31).toUInt32).toInt32) &&& (7 : Int32))), .val (.int m26), .val (.ref b31), .val (.int (own_inR m26 p2 p3)), .unset] []))
      refine go (fun t kt => XS.iconst X38.here hx rfl (hb hby at_207) kt) ?_
      show Goes p.tables e below _ (T38.setTop (mkF m 208 #[.val (.int p0), .val (.int p1), .val (.int p2), .val (.int p3), .val (.int p4), .val (.int p5), .val (.ref b1), .val (.ref b2), .val (.int (1 : Int32)), .val (.int p2), .val (.int p3), .val (.int (((p5.toUInt32 >>> ((1 : Int32) &&& 31).toUInt32).toInt32) &&& (7 : Int32))), .val (.int m26), .val (.ref b31), .val (.int (own_inR m26 p2 p3)), .unset] [(.int (0 : Int32))]))
      refine go (fun t kt => XS.istore X38.here hx rfl (hb hby at_208) rfl (l' := #[.val (.int p0), .val (.int p1), .val (.int p2), .val (.int p3), .val (.int p4), .val (.int p5), .val (.ref b1), .val (.ref b2), .val (.int (1 : Int32)), .val (.int p2), .val (.int p3), .val (.int (((p5.toUInt32 >>> ((1 : Int32) &&& 31).toUInt32).toInt32) &&& (7 : Int32))), .val (.int m26), .val (.ref b31), .val (.int (own_inR m26 p2 p3)), .val (.int (0 : Int32))]) rfl kt) ?_
      show Goes p.tables e below _ (T38.setTop (mkF m 210 #[.val (.int p0), .val (.int p1), .val (.int p2), .val (.int p3), .val (.int p4), .val (.int p5), .val (.ref b1), .val (.ref b2), .val (.int (1 : Int32)), .val (.int p2), .val (.int p3), .val (.int (((p5.toUInt32 >>> ((1 : Int32) &&& 31).toUInt32).toInt32) &&& (7 : Int32))), .val (.int m26), .val (.ref b31), .val (.int (own_inR m26 p2 p3)), .val (.int (0 : Int32))] []))
      refine go (fun t kt => XS.iload X38.here hx rfl (hb hby at_210) rfl kt) ?_
      show Goes p.tables e below _ (T38.setTop (mkF m 212 #[.val (.int p0), .val (.int p1), .val (.int p2), .val (.int p3), .val (.int p4), .val (.int p5), .val (.ref b1), .val (.ref b2), .val (.int (1 : Int32)), .val (.int p2), .val (.int p3), .val (.int (((p5.toUInt32 >>> ((1 : Int32) &&& 31).toUInt32).toInt32) &&& (7 : Int32))), .val (.int m26), .val (.ref b31), .val (.int (own_inR m26 p2 p3)), .val (.int (0 : Int32))] [(.int (own_inR m26 p2 p3))]))
      refine go (fun t kt => XS.iload X38.here hx rfl (hb hby at_212) rfl kt) ?_
      show Goes p.tables e below _ (T38.setTop (mkF m 214 #[.val (.int p0), .val (.int p1), .val (.int p2), .val (.int p3), .val (.int p4), .val (.int p5), .val (.ref b1), .val (.ref b2), .val (.int (1 : Int32)), .val (.int p2), .val (.int p3), .val (.int (((p5.toUInt32 >>> ((1 : Int32) &&& 31).toUInt32).toInt32) &&& (7 : Int32))), .val (.int m26), .val (.ref b31), .val (.int (own_inR m26 p2 p3)), .val (.int (0 : Int32))] [(.int (0 : Int32)), (.int (own_inR m26 p2 p3))]))
      refine go (fun t kt => XS.icmpNo X38.here hx rfl (hb hby at_214) rfl (teq (own_r1 _ _ _ ((own_sb _ _).mp hc39))).2 kt) ?_
      show Goes p.tables e below _ (T38.setTop (mkF m 217 #[.val (.int p0), .val (.int p1), .val (.int p2), .val (.int p3), .val (.int p4), .val (.int p5), .val (.ref b1), .val (.ref b2), .val (.int (1 : Int32)), .val (.int p2), .val (.int p3), .val (.int (((p5.toUInt32 >>> ((1 : Int32) &&& 31).toUInt32).toInt32) &&& (7 : Int32))), .val (.int m26), .val (.ref b31), .val (.int (own_inR m26 p2 p3)), .val (.int (0 : Int32))] []))
      refine go (fun t kt => XS.iconst X38.here hx rfl (hb hby at_217) kt) ?_
      show Goes p.tables e below _ (T38.setTop (mkF m 218 #[.val (.int p0), .val (.int p1), .val (.int p2), .val (.int p3), .val (.int p4), .val (.int p5), .val (.ref b1), .val (.ref b2), .val (.int (1 : Int32)), .val (.int p2), .val (.int p3), .val (.int (((p5.toUInt32 >>> ((1 : Int32) &&& 31).toUInt32).toInt32) &&& (7 : Int32))), .val (.int m26), .val (.ref b31), .val (.int (own_inR m26 p2 p3)), .val (.int (0 : Int32))] [(.int (1 : Int32))]))
      refine go (fun t kt => XS.goto X38.here hx rfl (pc0 := 218) (pc' := 222) rfl (hb hby at_218) (by decide) (by decide) kt) ?_
      show Goes p.tables e below _ (T38.setTop (mkF m 222 #[.val (.int p0), .val (.int p1), .val (.int p2), .val (.int p3), .val (.int p4), .val (.int p5), .val (.ref b1), .val (.ref b2), .val (.int (1 : Int32)), .val (.int p2), .val (.int p3), .val (.int (((p5.toUInt32 >>> ((1 : Int32) &&& 31).toUInt32).toInt32) &&& (7 : Int32))), .val (.int m26), .val (.ref b31), .val (.int (own_inR m26 p2 p3)), .val (.int (0 : Int32))] [(.int (1 : Int32))]))
      obtain ⟨fs, hr, hrun, hended, hW, hsame⟩ := X38.leave (v := some (.int (1 : Int32))) (fun h => by rw [Bd.returns] at h; cases h)
      refine ⟨_, _, retN X38 hx (t := .boolean) Bd.returns (by simp) (hb hby at_222) hr, hrun, hended, _, _, rfl, ?_, ⟨_, rfl⟩, hW, hsame.mono (by decide) (by decide)⟩
      show Q0 Z p0 p1 p2 p3 p4 p5 sd h0 n0 _ T38.heap _
      rw [e38]
      exact ⟨rfl, N38⟩
    ·
      refine go (fun t kt => XS.ifNo X38.here hx rfl (hb hby at_188) rfl ((if0 _ _).trans (flt (fun q => hc39 ((lw_lt ((m26.toInt64) - (p2.toInt64)) (0 : Int64)).mp q))).1) kt) ?_
      show Goes p.tables e below _ (T38.setTop (mkF m 191 #[.val (.int p0), .val (.int p1), .val (.int p2), .val (.int p3), .val (.int p4), .val (.int p5), .val (.ref b1), .val (.ref b2), .val (.int (1 : Int32)), .val (.int p2), .val (.int p3), .val (.int (((p5.toUInt32 >>> ((1 : Int32) &&& 31).toUInt32).toInt32) &&& (7 : Int32))), .val (.int m26), .val (.ref b31), .val (.int (own_inR m26 p2 p3)), .unset] []))
      refine go (fun t kt => XS.iload X38.here hx rfl (hb hby at_191) rfl kt) ?_
      show Goes p.tables e below _ (T38.setTop (mkF m 193 #[.val (.int p0), .val (.int p1), .val (.int p2), .val (.int p3), .val (.int p4), .val (.int p5), .val (.ref b1), .val (.ref b2), .val (.int (1 : Int32)), .val (.int p2), .val (.int p3), .val (.int (((p5.toUInt32 >>> ((1 : Int32) &&& 31).toUInt32).toInt32) &&& (7 : Int32))), .val (.int m26), .val (.ref b31), .val (.int (own_inR m26 p2 p3)), .unset] [(.int p3)]))
      refine go (fun t kt => XS.i2l X38.here hx rfl (hb hby at_193) rfl kt) ?_
      show Goes p.tables e below _ (T38.setTop (mkF m 194 #[.val (.int p0), .val (.int p1), .val (.int p2), .val (.int p3), .val (.int p4), .val (.int p5), .val (.ref b1), .val (.ref b2), .val (.int (1 : Int32)), .val (.int p2), .val (.int p3), .val (.int (((p5.toUInt32 >>> ((1 : Int32) &&& 31).toUInt32).toInt32) &&& (7 : Int32))), .val (.int m26), .val (.ref b31), .val (.int (own_inR m26 p2 p3)), .unset] [(.long (p3.toInt64))]))
      refine go (fun t kt => XS.iload X38.here hx rfl (hb hby at_194) rfl kt) ?_
      show Goes p.tables e below _ (T38.setTop (mkF m 196 #[.val (.int p0), .val (.int p1), .val (.int p2), .val (.int p3), .val (.int p4), .val (.int p5), .val (.ref b1), .val (.ref b2), .val (.int (1 : Int32)), .val (.int p2), .val (.int p3), .val (.int (((p5.toUInt32 >>> ((1 : Int32) &&& 31).toUInt32).toInt32) &&& (7 : Int32))), .val (.int m26), .val (.ref b31), .val (.int (own_inR m26 p2 p3)), .unset] [(.int m26), (.long (p3.toInt64))]))
      refine go (fun t kt => XS.i2l X38.here hx rfl (hb hby at_196) rfl kt) ?_
      show Goes p.tables e below _ (T38.setTop (mkF m 197 #[.val (.int p0), .val (.int p1), .val (.int p2), .val (.int p3), .val (.int p4), .val (.int p5), .val (.ref b1), .val (.ref b2), .val (.int (1 : Int32)), .val (.int p2), .val (.int p3), .val (.int (((p5.toUInt32 >>> ((1 : Int32) &&& 31).toUInt32).toInt32) &&& (7 : Int32))), .val (.int m26), .val (.ref b31), .val (.int (own_inR m26 p2 p3)), .unset] [(.long (m26.toInt64)), (.long (p3.toInt64))]))
      refine go (fun t kt => XS.lsub X38.here hx rfl (hb hby at_197) rfl kt) ?_
      show Goes p.tables e below _ (T38.setTop (mkF m 198 #[.val (.int p0), .val (.int p1), .val (.int p2), .val (.int p3), .val (.int p4), .val (.int p5), .val (.ref b1), .val (.ref b2), .val (.int (1 : Int32)), .val (.int p2), .val (.int p3), .val (.int (((p5.toUInt32 >>> ((1 : Int32) &&& 31).toUInt32).toInt32) &&& (7 : Int32))), .val (.int m26), .val (.ref b31), .val (.int (own_inR m26 p2 p3)), .unset] [(.long ((p3.toInt64) - (m26.toInt64)))]))
      refine go (fun t kt => XS.lconst X38.here hx rfl (hb hby at_198) kt) ?_
      show Goes p.tables e below _ (T38.setTop (mkF m 199 #[.val (.int p0), .val (.int p1), .val (.int p2), .val (.int p3), .val (.int p4), .val (.int p5), .val (.ref b1), .val (.ref b2), .val (.int (1 : Int32)), .val (.int p2), .val (.int p3), .val (.int (((p5.toUInt32 >>> ((1 : Int32) &&& 31).toUInt32).toInt32) &&& (7 : Int32))), .val (.int m26), .val (.ref b31), .val (.int (own_inR m26 p2 p3)), .unset] [(.long (0 : Int64)), (.long ((p3.toInt64) - (m26.toInt64)))]))
      refine go (fun t kt => XS.lcmp X38.here hx rfl (hb hby at_199) rfl kt) ?_
      show Goes p.tables e below _ (T38.setTop (mkF m 200 #[.val (.int p0), .val (.int p1), .val (.int p2), .val (.int p3), .val (.int p4), .val (.int p5), .val (.ref b1), .val (.ref b2), .val (.int (1 : Int32)), .val (.int p2), .val (.int p3), .val (.int (((p5.toUInt32 >>> ((1 : Int32) &&& 31).toUInt32).toInt32) &&& (7 : Int32))), .val (.int m26), .val (.ref b31), .val (.int (own_inR m26 p2 p3)), .unset] [(.int (lcmpW ((p3.toInt64) - (m26.toInt64)) (0 : Int64)))]))
      by_cases hc41 : ((p3.toInt64) - (m26.toInt64)) < (0 : Int64)
      ·
        refine go (fun t kt => XS.ifYes X38.here hx rfl (pc0 := 200) (pc' := 207) rfl (hb hby at_200) rfl ((if0 _ _).trans (tlt ((lw_lt ((p3.toInt64) - (m26.toInt64)) (0 : Int64)).mpr hc41)).1) (by decide) (by decide) kt) ?_
        show Goes p.tables e below _ (T38.setTop (mkF m 207 #[.val (.int p0), .val (.int p1), .val (.int p2), .val (.int p3), .val (.int p4), .val (.int p5), .val (.ref b1), .val (.ref b2), .val (.int (1 : Int32)), .val (.int p2), .val (.int p3), .val (.int (((p5.toUInt32 >>> ((1 : Int32) &&& 31).toUInt32).toInt32) &&& (7 : Int32))), .val (.int m26), .val (.ref b31), .val (.int (own_inR m26 p2 p3)), .unset] []))
        refine go (fun t kt => XS.iconst X38.here hx rfl (hb hby at_207) kt) ?_
        show Goes p.tables e below _ (T38.setTop (mkF m 208 #[.val (.int p0), .val (.int p1), .val (.int p2), .val (.int p3), .val (.int p4), .val (.int p5), .val (.ref b1), .val (.ref b2), .val (.int (1 : Int32)), .val (.int p2), .val (.int p3), .val (.int (((p5.toUInt32 >>> ((1 : Int32) &&& 31).toUInt32).toInt32) &&& (7 : Int32))), .val (.int m26), .val (.ref b31), .val (.int (own_inR m26 p2 p3)), .unset] [(.int (0 : Int32))]))
        refine go (fun t kt => XS.istore X38.here hx rfl (hb hby at_208) rfl (l' := #[.val (.int p0), .val (.int p1), .val (.int p2), .val (.int p3), .val (.int p4), .val (.int p5), .val (.ref b1), .val (.ref b2), .val (.int (1 : Int32)), .val (.int p2), .val (.int p3), .val (.int (((p5.toUInt32 >>> ((1 : Int32) &&& 31).toUInt32).toInt32) &&& (7 : Int32))), .val (.int m26), .val (.ref b31), .val (.int (own_inR m26 p2 p3)), .val (.int (0 : Int32))]) rfl kt) ?_
        show Goes p.tables e below _ (T38.setTop (mkF m 210 #[.val (.int p0), .val (.int p1), .val (.int p2), .val (.int p3), .val (.int p4), .val (.int p5), .val (.ref b1), .val (.ref b2), .val (.int (1 : Int32)), .val (.int p2), .val (.int p3), .val (.int (((p5.toUInt32 >>> ((1 : Int32) &&& 31).toUInt32).toInt32) &&& (7 : Int32))), .val (.int m26), .val (.ref b31), .val (.int (own_inR m26 p2 p3)), .val (.int (0 : Int32))] []))
        refine go (fun t kt => XS.iload X38.here hx rfl (hb hby at_210) rfl kt) ?_
        show Goes p.tables e below _ (T38.setTop (mkF m 212 #[.val (.int p0), .val (.int p1), .val (.int p2), .val (.int p3), .val (.int p4), .val (.int p5), .val (.ref b1), .val (.ref b2), .val (.int (1 : Int32)), .val (.int p2), .val (.int p3), .val (.int (((p5.toUInt32 >>> ((1 : Int32) &&& 31).toUInt32).toInt32) &&& (7 : Int32))), .val (.int m26), .val (.ref b31), .val (.int (own_inR m26 p2 p3)), .val (.int (0 : Int32))] [(.int (own_inR m26 p2 p3))]))
        refine go (fun t kt => XS.iload X38.here hx rfl (hb hby at_212) rfl kt) ?_
        show Goes p.tables e below _ (T38.setTop (mkF m 214 #[.val (.int p0), .val (.int p1), .val (.int p2), .val (.int p3), .val (.int p4), .val (.int p5), .val (.ref b1), .val (.ref b2), .val (.int (1 : Int32)), .val (.int p2), .val (.int p3), .val (.int (((p5.toUInt32 >>> ((1 : Int32) &&& 31).toUInt32).toInt32) &&& (7 : Int32))), .val (.int m26), .val (.ref b31), .val (.int (own_inR m26 p2 p3)), .val (.int (0 : Int32))] [(.int (0 : Int32)), (.int (own_inR m26 p2 p3))]))
        refine go (fun t kt => XS.icmpNo X38.here hx rfl (hb hby at_214) rfl (teq (own_r2 _ _ _ (fun q => hc39 ((own_sb _ _).mpr q)) ((own_sb _ _).mp hc41))).2 kt) ?_
        show Goes p.tables e below _ (T38.setTop (mkF m 217 #[.val (.int p0), .val (.int p1), .val (.int p2), .val (.int p3), .val (.int p4), .val (.int p5), .val (.ref b1), .val (.ref b2), .val (.int (1 : Int32)), .val (.int p2), .val (.int p3), .val (.int (((p5.toUInt32 >>> ((1 : Int32) &&& 31).toUInt32).toInt32) &&& (7 : Int32))), .val (.int m26), .val (.ref b31), .val (.int (own_inR m26 p2 p3)), .val (.int (0 : Int32))] []))
        refine go (fun t kt => XS.iconst X38.here hx rfl (hb hby at_217) kt) ?_
        show Goes p.tables e below _ (T38.setTop (mkF m 218 #[.val (.int p0), .val (.int p1), .val (.int p2), .val (.int p3), .val (.int p4), .val (.int p5), .val (.ref b1), .val (.ref b2), .val (.int (1 : Int32)), .val (.int p2), .val (.int p3), .val (.int (((p5.toUInt32 >>> ((1 : Int32) &&& 31).toUInt32).toInt32) &&& (7 : Int32))), .val (.int m26), .val (.ref b31), .val (.int (own_inR m26 p2 p3)), .val (.int (0 : Int32))] [(.int (1 : Int32))]))
        refine go (fun t kt => XS.goto X38.here hx rfl (pc0 := 218) (pc' := 222) rfl (hb hby at_218) (by decide) (by decide) kt) ?_
        show Goes p.tables e below _ (T38.setTop (mkF m 222 #[.val (.int p0), .val (.int p1), .val (.int p2), .val (.int p3), .val (.int p4), .val (.int p5), .val (.ref b1), .val (.ref b2), .val (.int (1 : Int32)), .val (.int p2), .val (.int p3), .val (.int (((p5.toUInt32 >>> ((1 : Int32) &&& 31).toUInt32).toInt32) &&& (7 : Int32))), .val (.int m26), .val (.ref b31), .val (.int (own_inR m26 p2 p3)), .val (.int (0 : Int32))] [(.int (1 : Int32))]))
        obtain ⟨fs, hr, hrun, hended, hW, hsame⟩ := X38.leave (v := some (.int (1 : Int32))) (fun h => by rw [Bd.returns] at h; cases h)
        refine ⟨_, _, retN X38 hx (t := .boolean) Bd.returns (by simp) (hb hby at_222) hr, hrun, hended, _, _, rfl, ?_, ⟨_, rfl⟩, hW, hsame.mono (by decide) (by decide)⟩
        show Q0 Z p0 p1 p2 p3 p4 p5 sd h0 n0 _ T38.heap _
        rw [e38]
        exact ⟨rfl, N38⟩
      ·
        refine go (fun t kt => XS.ifNo X38.here hx rfl (hb hby at_200) rfl ((if0 _ _).trans (flt (fun q => hc41 ((lw_lt ((p3.toInt64) - (m26.toInt64)) (0 : Int64)).mp q))).1) kt) ?_
        show Goes p.tables e below _ (T38.setTop (mkF m 203 #[.val (.int p0), .val (.int p1), .val (.int p2), .val (.int p3), .val (.int p4), .val (.int p5), .val (.ref b1), .val (.ref b2), .val (.int (1 : Int32)), .val (.int p2), .val (.int p3), .val (.int (((p5.toUInt32 >>> ((1 : Int32) &&& 31).toUInt32).toInt32) &&& (7 : Int32))), .val (.int m26), .val (.ref b31), .val (.int (own_inR m26 p2 p3)), .unset] []))
        refine go (fun t kt => XS.iconst X38.here hx rfl (hb hby at_203) kt) ?_
        show Goes p.tables e below _ (T38.setTop (mkF m 204 #[.val (.int p0), .val (.int p1), .val (.int p2), .val (.int p3), .val (.int p4), .val (.int p5), .val (.ref b1), .val (.ref b2), .val (.int (1 : Int32)), .val (.int p2), .val (.int p3), .val (.int (((p5.toUInt32 >>> ((1 : Int32) &&& 31).toUInt32).toInt32) &&& (7 : Int32))), .val (.int m26), .val (.ref b31), .val (.int (own_inR m26 p2 p3)), .unset] [(.int (1 : Int32))]))
        refine go (fun t kt => XS.goto X38.here hx rfl (pc0 := 204) (pc' := 208) rfl (hb hby at_204) (by decide) (by decide) kt) ?_
        show Goes p.tables e below _ (T38.setTop (mkF m 208 #[.val (.int p0), .val (.int p1), .val (.int p2), .val (.int p3), .val (.int p4), .val (.int p5), .val (.ref b1), .val (.ref b2), .val (.int (1 : Int32)), .val (.int p2), .val (.int p3), .val (.int (((p5.toUInt32 >>> ((1 : Int32) &&& 31).toUInt32).toInt32) &&& (7 : Int32))), .val (.int m26), .val (.ref b31), .val (.int (own_inR m26 p2 p3)), .unset] [(.int (1 : Int32))]))
        refine go (fun t kt => XS.istore X38.here hx rfl (hb hby at_208) rfl (l' := #[.val (.int p0), .val (.int p1), .val (.int p2), .val (.int p3), .val (.int p4), .val (.int p5), .val (.ref b1), .val (.ref b2), .val (.int (1 : Int32)), .val (.int p2), .val (.int p3), .val (.int (((p5.toUInt32 >>> ((1 : Int32) &&& 31).toUInt32).toInt32) &&& (7 : Int32))), .val (.int m26), .val (.ref b31), .val (.int (own_inR m26 p2 p3)), .val (.int (1 : Int32))]) rfl kt) ?_
        show Goes p.tables e below _ (T38.setTop (mkF m 210 #[.val (.int p0), .val (.int p1), .val (.int p2), .val (.int p3), .val (.int p4), .val (.int p5), .val (.ref b1), .val (.ref b2), .val (.int (1 : Int32)), .val (.int p2), .val (.int p3), .val (.int (((p5.toUInt32 >>> ((1 : Int32) &&& 31).toUInt32).toInt32) &&& (7 : Int32))), .val (.int m26), .val (.ref b31), .val (.int (own_inR m26 p2 p3)), .val (.int (1 : Int32))] []))
        refine go (fun t kt => XS.iload X38.here hx rfl (hb hby at_210) rfl kt) ?_
        show Goes p.tables e below _ (T38.setTop (mkF m 212 #[.val (.int p0), .val (.int p1), .val (.int p2), .val (.int p3), .val (.int p4), .val (.int p5), .val (.ref b1), .val (.ref b2), .val (.int (1 : Int32)), .val (.int p2), .val (.int p3), .val (.int (((p5.toUInt32 >>> ((1 : Int32) &&& 31).toUInt32).toInt32) &&& (7 : Int32))), .val (.int m26), .val (.ref b31), .val (.int (own_inR m26 p2 p3)), .val (.int (1 : Int32))] [(.int (own_inR m26 p2 p3))]))
        refine go (fun t kt => XS.iload X38.here hx rfl (hb hby at_212) rfl kt) ?_
        show Goes p.tables e below _ (T38.setTop (mkF m 214 #[.val (.int p0), .val (.int p1), .val (.int p2), .val (.int p3), .val (.int p4), .val (.int p5), .val (.ref b1), .val (.ref b2), .val (.int (1 : Int32)), .val (.int p2), .val (.int p3), .val (.int (((p5.toUInt32 >>> ((1 : Int32) &&& 31).toUInt32).toInt32) &&& (7 : Int32))), .val (.int m26), .val (.ref b31), .val (.int (own_inR m26 p2 p3)), .val (.int (1 : Int32))] [(.int (1 : Int32)), (.int (own_inR m26 p2 p3))]))
        refine go (fun t kt => XS.icmpNo X38.here hx rfl (hb hby at_214) rfl (teq (own_r3 _ _ _ (fun q => hc39 ((own_sb _ _).mpr q)) (fun q => hc41 ((own_sb _ _).mpr q)))).2 kt) ?_
        show Goes p.tables e below _ (T38.setTop (mkF m 217 #[.val (.int p0), .val (.int p1), .val (.int p2), .val (.int p3), .val (.int p4), .val (.int p5), .val (.ref b1), .val (.ref b2), .val (.int (1 : Int32)), .val (.int p2), .val (.int p3), .val (.int (((p5.toUInt32 >>> ((1 : Int32) &&& 31).toUInt32).toInt32) &&& (7 : Int32))), .val (.int m26), .val (.ref b31), .val (.int (own_inR m26 p2 p3)), .val (.int (1 : Int32))] []))
        refine go (fun t kt => XS.iconst X38.here hx rfl (hb hby at_217) kt) ?_
        show Goes p.tables e below _ (T38.setTop (mkF m 218 #[.val (.int p0), .val (.int p1), .val (.int p2), .val (.int p3), .val (.int p4), .val (.int p5), .val (.ref b1), .val (.ref b2), .val (.int (1 : Int32)), .val (.int p2), .val (.int p3), .val (.int (((p5.toUInt32 >>> ((1 : Int32) &&& 31).toUInt32).toInt32) &&& (7 : Int32))), .val (.int m26), .val (.ref b31), .val (.int (own_inR m26 p2 p3)), .val (.int (1 : Int32))] [(.int (1 : Int32))]))
        refine go (fun t kt => XS.goto X38.here hx rfl (pc0 := 218) (pc' := 222) rfl (hb hby at_218) (by decide) (by decide) kt) ?_
        show Goes p.tables e below _ (T38.setTop (mkF m 222 #[.val (.int p0), .val (.int p1), .val (.int p2), .val (.int p3), .val (.int p4), .val (.int p5), .val (.ref b1), .val (.ref b2), .val (.int (1 : Int32)), .val (.int p2), .val (.int p3), .val (.int (((p5.toUInt32 >>> ((1 : Int32) &&& 31).toUInt32).toInt32) &&& (7 : Int32))), .val (.int m26), .val (.ref b31), .val (.int (own_inR m26 p2 p3)), .val (.int (1 : Int32))] [(.int (1 : Int32))]))
        obtain ⟨fs, hr, hrun, hended, hW, hsame⟩ := X38.leave (v := some (.int (1 : Int32))) (fun h => by rw [Bd.returns] at h; cases h)
        refine ⟨_, _, retN X38 hx (t := .boolean) Bd.returns (by simp) (hb hby at_222) hr, hrun, hended, _, _, rfl, ?_, ⟨_, rfl⟩, hW, hsame.mono (by decide) (by decide)⟩
        show Q0 Z p0 p1 p2 p3 p4 p5 sd h0 n0 _ T38.heap _
        rw [e38]
        exact ⟨rfl, N38⟩
set_option maxRecDepth 65536 in
set_option maxHeartbeats 40000000 in
theorem comes_1 {Post : Tables → Env → Array Value → State → Outcome → State → Prop} (hpost : ∀ tb e args s v u, (limb_1_1.after args s (.returned v) u = true ∧ limb_1_2.after args s (.returned v) u = true ∧ True) → FrameEnd s (.returned v) u (Jvm.fieldLocs frame_1_writes args s ++ Jvm.arrayLocs frame_1_arrays args s ++ Jvm.staticLocs frame_1_statics s) 32 128 → Post tb e args s (.returned v) u) :
    ArmFor flags0 classFile x code maxLocals ret World_1 tables_1 room_1 Calls_1 rest_1 Pre_1 Post := by
  intro l hfl _ _ p e ha hc hk s m args below hf hA hF happ hP
  obtain ⟨hcalls, hrest, hpre⟩ := hP
  obtain ⟨-, -, -, hnamed, -, -, -, hat⟩ := (Spec.applies_iff hf).mp happ
  obtain ⟨hg, hn⟩ := and_e (Cond.before_iff.mp (show (Jvm.Cond.and given_1 narrow_1).before args s = true from hpre))
  obtain ⟨u1, u2⟩ := and_e hg
  obtain ⟨u3, u4⟩ := and_e u2
  obtain ⟨u5, u6⟩ := and_e u4
  obtain ⟨u7, u8⟩ := and_e u6
  obtain ⟨u9, u10⟩ := and_e u8
  obtain ⟨u11, u12⟩ := and_e u10
  obtain ⟨w0, w1, w2, w3, w4, w5, rfl⟩ : ∃ w0 w1 w2 w3 w4 w5 : Value, args = #[w0, w1, w2, w3, w4, w5] := by
    have hs : args.size = 6 := by simpa [Cond.value, given_1] using u1
    obtain ⟨L⟩ := args
    match L, hs with
    | [w0, w1, w2, w3, w4, w5], _ => exact ⟨w0, w1, w2, w3, w4, w5, rfl⟩
  have hw := fun d (hd : d ∈ tables_1) => atoms_spec (ws := Jvm.Cond.code x code maxLocals ret :: tables_1) hat d (List.mem_cons_of_mem _ hd)
  obtain ⟨hsets, hown0⟩ := atoms_of _ (rest_1_c_eq ▸ (show rest_1_c.before _ s = true from hrest))
  obtain ⟨sd, esd⟩ := exa_v (Cond.before_iff.mp (hsets _ (List.mem_of_getElem? (i := 7) rfl)))
  have S0 : Sta s s.heap "java/util/ArrayList" "DEFAULTCAPACITY_EMPTY_ELEMENTDATA" "[Ljava/lang/Object;" (.ref sd) := Sta.start esd (Or.inr ⟨(hw _ (List.mem_of_getElem? (i := 12) rfl)), hsets _ (List.mem_of_getElem? (i := 2) rfl)⟩)
  obtain ⟨i0, ei0⟩ := is_v u3
  obtain rfl : w0 = (.int i0) := Option.some.inj ei0
  obtain ⟨i1, ei1⟩ := is_v u5
  obtain rfl : w1 = (.int i1) := Option.some.inj ei1
  obtain ⟨i2, ei2⟩ := is_v u7
  obtain rfl : w2 = (.int i2) := Option.some.inj ei2
  obtain ⟨i3, ei3⟩ := is_v u9
  obtain rfl : w3 = (.int i3) := Option.some.inj ei3
  obtain ⟨i4, ei4⟩ := is_v u11
  obtain rfl : w4 = (.int i4) := Option.some.inj ei4
  obtain ⟨i5, ei5⟩ := is_v u12
  obtain rfl : w5 = (.int i5) := Option.some.inj ei5
  obtain ⟨n, o, h1, h2, h3, _, L, rfl, ⟨rfl, N⟩, hq⟩ := rm0 l s _ hw tables_1 i0 i1 i2 i3 i4 i5 sd s.heap s.heap.size (Nat.le_refl _) S0 p e ha hc hk s m _ below hf ((Spec.applies_iff_loose hf).mp happ).1 ⟨rfl, State.Warmed39.refl s, rfl⟩ trivial
  refine ⟨n, _, h1, h2, h3, hpost _ _ _ _ _ _ ⟨Cond.after_iff.mpr rfl, Cond.after_iff.mpr (eq_i res_at (Term.int_eval (1)) rfl), trivial⟩ ⟨hq.1, hq.2.1, (hq.2.2.sift fun y hy => Or.inr (N y hy)).mono (by decide) (by decide)⟩⟩
theorem main_1_1 : Claimed_1_1 := comes_1 fun _ _ _ _ _ _ h hF => ⟨h.1, hF⟩
theorem main_1_2 : Claimed_1_2 := comes_1 fun _ _ _ _ _ _ h hF => ⟨h.2.1, hF⟩
end Jvm.Pilot.@@N@@
namespace Jvm.Pilot.@@N@@
open Jvm Jvm.ClassFile Sem Op Lib Jvm.Free Jvm.Stand Jvm.Pilot.@@N@@.Jvm.D
/-! MADE BY PROGRAM (witnessworld.py) out of the Statement's table words and the real class files: 21 classes; the members and pool entries that the words name. The judged class is class 1, her method 1. -/
namespace start1
open Jvm.ClassFile
def u (s : String) : CpInfo := .utf8 (stringToUtf16 s)
/-- a pool by its gaps: so many unusable entries, then the entry; so many at the end -/
def gap : Nat → List CpInfo → List CpInfo
  | 0, r => r
  | n + 1, r => .unusable :: gap n r
def poolList (es : List (Nat × CpInfo)) (last : Nat) : List CpInfo := es.foldr (fun e r => gap e.1 (e.2 :: r)) (gap last [])
def pool (es : List (Nat × CpInfo)) (last : Nat) : Array CpInfo := ⟨poolList es last⟩
def fileOf (pool : Array CpInfo) (this : Nat) (attrs : Array Attribute := #[]) (ms : Array MethodInfo := #[]) (fl : Nat := 33) (sup : Nat := 0) (ifs : Array Nat := #[]) (fds : Array FieldInfo := #[]) : ClassFile where
  minorVersion := 0
  majorVersion := 65
  constantPool := pool
  accessFlags := fl
  thisClass := this
  superClass := sup
  interfaces := ifs
  fields := fds
  methods := ms
  attributes := attrs
def plain (name : String) (sup : Option ClassId) : Class where
  name := name
  kind := .ordinary
  loader := none
  accessFlags := 33
  super := sup
  interfaces := #[]
  cf := none
  fields := #[]
  methods := #[]
  instanceTypes := #[]
  staticTypes := #[]
  resolved := #[]
  callSites := []
  init := .initialized
  statics := none
  mirror := none

def pool0 : Array CpInfo := pool [(5, u "<init>"), (0, u "()V"), (1, .class_ 10), (1, u "java/lang/Object"), (85, u "clone"), (0, u "()Ljava/lang/Object;")] 26

def k0c0 : Code := { maxStack := 0, maxLocals := 1, code := object_method_1_code, exceptionTable := #[], attributes := #[] }
def k0m0 : Method := { name := "<init>", desc := "()V", sig := { parameters := [], returnType := none }, accessFlags := 1, code := some k0c0 }
def k0m1 : Method := { name := "clone", desc := "()Ljava/lang/Object;", sig := { parameters := [], returnType := some (.object "java/lang/Object") }, accessFlags := 260, code := none }
/-- java/lang/Object -/
def k0 : Class := { plain "java/lang/Object" none with
  accessFlags := 33
  interfaces := #[]
  cf := some (fileOf pool0 8 #[] #[{ accessFlags := 1, nameIndex := 5, descriptorIndex := 6, attributes := #[] }, { accessFlags := 260, nameIndex := 96, descriptorIndex := 97, attributes := #[] }] 33 0 #[] #[])
  fields := #[]
  methods := #[k0m0, k0m1]
  instanceTypes := #[]
  staticTypes := #[]
  resolved := Array.replicate 124 none
  statics := none }

def pool1 : Array CpInfo := pool [(2, .class_ 4), (0, .nameAndType 5 6), (0, u "java/lang/Object"), (0, u "<init>"), (0, u "()V"), (0, .class_ 8), (0, u "com/example/anytime_arena/anytimearena/io/VariableTable"), (0, .methodref 7 3), (0, .methodref 7 11), (0, .nameAndType 12 13), (0, u "setRanges"), (0, u "([I[I)V"), (2, .integer 2147483648), (0, .integer 2147483647), (0, .methodref 7 19), (0, .nameAndType 20 21), (0, u "inRange"), (0, u "(II)Z"), (0, .class_ 23), (0, u "com/example/anytime_arena/anytimearena/io/VariableTableInRangePinLaw"), (2, u "law"), (0, u "(IIIIII)Z")] 5

def k1m0 : Method := { name := "<init>", desc := "()V", sig := { parameters := [], returnType := none }, accessFlags := 1, code := none }
def k1c1 : Code := { maxStack := 4, maxLocals := 16, code := code, exceptionTable := #[], attributes := #[] }
def k1m1 : Method := { name := "law", desc := "(IIIIII)Z", sig := { parameters := [.int, .int, .int, .int, .int, .int], returnType := some .boolean }, accessFlags := 9, code := some k1c1 }
/-- com/example/anytime_arena/anytimearena/io/VariableTableInRangePinLaw -/
def k1 : Class := { plain "com/example/anytime_arena/anytimearena/io/VariableTableInRangePinLaw" (some 0) with
  accessFlags := 49
  interfaces := #[]
  cf := some (fileOf pool1 22 #[] #[{ accessFlags := 1, nameIndex := 5, descriptorIndex := 6, attributes := #[] }, { accessFlags := 9, nameIndex := 26, descriptorIndex := 27, attributes := #[] }] 49 2 #[] #[])
  fields := #[]
  methods := #[k1m0, k1m1]
  instanceTypes := #[]
  staticTypes := #[]
  resolved := Array.replicate 33 none
  statics := none }

def pool2 : Array CpInfo := pool [(1, .methodref 2 3), (0, .class_ 4), (0, .nameAndType 5 6), (0, u "java/lang/Object"), (0, u "<init>"), (0, u "()V"), (0, .class_ 8), (0, u "java/util/ArrayList"), (0, .methodref 7 3), (0, .fieldref 11 12), (0, .class_ 13), (0, .nameAndType 14 15), (0, u "com/example/anytime_arena/anytimearena/io/VariableTable"), (0, u "names"), (0, u "Ljava/util/List;"), (0, .fieldref 11 17), (0, .nameAndType 18 15), (0, u "types"), (0, .fieldref 11 20), (0, .nameAndType 21 15), (0, u "owners"), (0, .class_ 23), (0, u "java/util/HashMap"), (0, .methodref 22 3), (0, .fieldref 11 26), (0, .nameAndType 27 28), (0, u "slots"), (0, u "Ljava/util/Map;"), (0, .fieldref 11 30), (0, .nameAndType 31 32), (0, u "low"), (0, u "[I"), (0, .fieldref 11 34), (0, .nameAndType 35 32), (0, u "high"), (22, .methodref 59 60), (0, .class_ 32), (0, .nameAndType 61 62), (0, u "clone"), (0, u "()Ljava/lang/Object;"), (56, u "GLOBAL"), (0, u "Ljava/lang/String;"), (8, u "setRanges"), (0, u "([I[I)V"), (8, u "inRange"), (0, u "(II)Z")] 24

def k2c0 : Code := { maxStack := 3, maxLocals := 1, code := prog_88_method_1_code, exceptionTable := #[], attributes := #[] }
def k2m0 : Method := { name := "<init>", desc := "()V", sig := { parameters := [], returnType := none }, accessFlags := 0, code := some k2c0 }
def k2c1 : Code := { maxStack := 2, maxLocals := 3, code := prog_88_method_3_code, exceptionTable := #[], attributes := #[] }
def k2m1 : Method := { name := "setRanges", desc := "([I[I)V", sig := { parameters := [(.array .int), (.array .int)], returnType := none }, accessFlags := 0, code := some k2c1 }
def k2c2 : Code := { maxStack := 3, maxLocals := 3, code := prog_88_method_11_code, exceptionTable := #[], attributes := #[] }
def k2m2 : Method := { name := "inRange", desc := "(II)Z", sig := { parameters := [.int, .int], returnType := some .boolean }, accessFlags := 0, code := some k2c2 }
/-- com/example/anytime_arena/anytimearena/io/VariableTable -/
def k2 : Class := { plain "com/example/anytime_arena/anytimearena/io/VariableTable" (some 0) with
  accessFlags := 48
  interfaces := #[]
  cf := some (fileOf pool2 11 #[] #[{ accessFlags := 0, nameIndex := 5, descriptorIndex := 6, attributes := #[] }, { accessFlags := 0, nameIndex := 129, descriptorIndex := 130, attributes := #[] }, { accessFlags := 0, nameIndex := 139, descriptorIndex := 140, attributes := #[] }] 48 2 #[] #[{ accessFlags := 24, nameIndex := 119, descriptorIndex := 120, attributes := #[] }, { accessFlags := 18, nameIndex := 14, descriptorIndex := 15, attributes := #[] }, { accessFlags := 18, nameIndex := 18, descriptorIndex := 15, attributes := #[] }, { accessFlags := 18, nameIndex := 21, descriptorIndex := 15, attributes := #[] }, { accessFlags := 18, nameIndex := 27, descriptorIndex := 28, attributes := #[] }, { accessFlags := 2, nameIndex := 31, descriptorIndex := 32, attributes := #[] }, { accessFlags := 2, nameIndex := 35, descriptorIndex := 32, attributes := #[] }])
  fields := #[{ name := "GLOBAL", type := (.object "java/lang/String"), accessFlags := 24, slot := 0, constantValue := 0 }, { name := "names", type := (.object "java/util/List"), accessFlags := 18, slot := 0, constantValue := 0 }, { name := "types", type := (.object "java/util/List"), accessFlags := 18, slot := 1, constantValue := 0 }, { name := "owners", type := (.object "java/util/List"), accessFlags := 18, slot := 2, constantValue := 0 }, { name := "slots", type := (.object "java/util/Map"), accessFlags := 18, slot := 3, constantValue := 0 }, { name := "low", type := (.array .int), accessFlags := 2, slot := 4, constantValue := 0 }, { name := "high", type := (.array .int), accessFlags := 2, slot := 5, constantValue := 0 }]
  methods := #[k2m0, k2m1, k2m2]
  instanceTypes := #[(.object "java/util/List"), (.object "java/util/List"), (.object "java/util/List"), (.object "java/util/Map"), (.array .int), (.array .int)]
  staticTypes := #[(.object "java/lang/String")]
  resolved := Array.replicate 165 none
  statics := none }

def pool3 : Array CpInfo := pool [(8, .class_ 10), (1, u "java/lang/Iterable"), (24, .class_ 36), (0, u "java/lang/Object")] 25

/-- java/lang/Iterable -/
def k3 : Class := { plain "java/lang/Iterable" (some 0) with
  accessFlags := 1537
  interfaces := #[]
  cf := some (fileOf pool3 8 #[] #[] 1537 35 #[] #[])
  fields := #[]
  methods := #[]
  instanceTypes := #[]
  staticTypes := #[]
  resolved := Array.replicate 62 none
  statics := none }

def pool4 : Array CpInfo := pool [(10, .class_ 12), (1, u "java/util/Collection"), (47, .class_ 61), (0, u "java/lang/Object"), (0, .class_ 63), (0, u "java/lang/Iterable")] 51

/-- java/util/Collection -/
def k4 : Class := { plain "java/util/Collection" (some 0) with
  accessFlags := 1537
  interfaces := #[3]
  cf := some (fileOf pool4 10 #[] #[] 1537 60 #[62] #[])
  fields := #[]
  methods := #[]
  instanceTypes := #[]
  staticTypes := #[]
  resolved := Array.replicate 115 none
  statics := none }

def pool5 : Array CpInfo := pool [(1, .methodref 2 3), (0, .class_ 4), (0, .nameAndType 5 6), (0, u "java/lang/Object"), (0, u "<init>"), (0, u "()V"), (1, .class_ 10), (1, u "java/util/AbstractCollection"), (66, .class_ 78), (0, u "java/util/Collection")] 81

def k5c0 : Code := { maxStack := 1, maxLocals := 1, code := jdk_22_method_1_code, exceptionTable := #[], attributes := #[] }
def k5m0 : Method := { name := "<init>", desc := "()V", sig := { parameters := [], returnType := none }, accessFlags := 4, code := some k5c0 }
/-- java/util/AbstractCollection -/
def k5 : Class := { plain "java/util/AbstractCollection" (some 0) with
  accessFlags := 1057
  interfaces := #[4]
  cf := some (fileOf pool5 8 #[] #[{ accessFlags := 4, nameIndex := 5, descriptorIndex := 6, attributes := #[] }] 1057 2 #[77] #[])
  fields := #[]
  methods := #[k5m0]
  instanceTypes := #[]
  staticTypes := #[]
  resolved := Array.replicate 160 none
  statics := none }

def pool6 : Array CpInfo := pool [(8, .class_ 10), (1, u "java/util/SequencedCollection"), (15, .class_ 27), (0, u "java/lang/Object"), (0, .class_ 29), (0, u "java/util/Collection")] 27

/-- java/util/SequencedCollection -/
def k6 : Class := { plain "java/util/SequencedCollection" (some 0) with
  accessFlags := 1537
  interfaces := #[4]
  cf := some (fileOf pool6 8 #[] #[] 1537 26 #[28] #[])
  fields := #[]
  methods := #[]
  instanceTypes := #[]
  staticTypes := #[]
  resolved := Array.replicate 57 none
  statics := none }

def pool7 : Array CpInfo := pool [(8, .class_ 10), (1, u "java/util/List"), (92, .class_ 104), (0, u "java/lang/Object"), (15, .class_ 121), (0, u "java/util/SequencedCollection")] 129

/-- java/util/List -/
def k7 : Class := { plain "java/util/List" (some 0) with
  accessFlags := 1537
  interfaces := #[6]
  cf := some (fileOf pool7 8 #[] #[] 1537 103 #[120] #[])
  fields := #[]
  methods := #[]
  instanceTypes := #[]
  staticTypes := #[]
  resolved := Array.replicate 251 none
  statics := none }

def pool8 : Array CpInfo := pool [(1, .methodref 2 3), (0, .class_ 4), (0, .nameAndType 5 6), (0, u "java/util/AbstractCollection"), (0, u "<init>"), (0, u "()V"), (0, .fieldref 8 9), (0, .class_ 10), (0, .nameAndType 11 12), (0, u "java/util/AbstractList"), (0, u "modCount"), (0, u "I"), (64, .class_ 78), (0, u "java/util/AbstractList$Itr"), (3, .class_ 83), (0, u "java/util/AbstractList$ListItr"), (9, .class_ 94), (0, u "java/util/AbstractList$RandomAccessSubList"), (3, .class_ 99), (0, u "java/util/AbstractList$SubList"), (33, .class_ 134), (0, u "java/util/List"), (73, .class_ 209), (0, u "java/util/AbstractList$SubList$1"), (0, .class_ 211), (0, u "java/util/AbstractList$RandomAccessSpliterator")] 6

def k8c0 : Code := { maxStack := 2, maxLocals := 1, code := jdk_39_method_1_code, exceptionTable := #[], attributes := #[] }
def k8m0 : Method := { name := "<init>", desc := "()V", sig := { parameters := [], returnType := none }, accessFlags := 4, code := some k8c0 }
/-- java/util/AbstractList -/
def k8 : Class := { plain "java/util/AbstractList" (some 5) with
  accessFlags := 1057
  interfaces := #[7]
  cf := some (fileOf pool8 8 #[.nestMembers #[93, 98, 208, 210, 82, 77]] #[{ accessFlags := 4, nameIndex := 5, descriptorIndex := 6, attributes := #[] }] 1057 2 #[133] #[{ accessFlags := 132, nameIndex := 11, descriptorIndex := 12, attributes := #[] }])
  fields := #[{ name := "modCount", type := .int, accessFlags := 132, slot := 0, constantValue := 0 }]
  methods := #[k8m0]
  instanceTypes := #[.int]
  staticTypes := #[]
  resolved := Array.replicate 218 none
  statics := none }

def pool9 : Array CpInfo := pool [(1, .class_ 2), (0, u "java/util/RandomAccess"), (0, .class_ 4), (0, u "java/lang/Object")] 2

/-- java/util/RandomAccess -/
def k9 : Class := { plain "java/util/RandomAccess" (some 0) with
  accessFlags := 1537
  interfaces := #[]
  cf := some (fileOf pool9 1 #[] #[] 1537 3 #[] #[])
  fields := #[]
  methods := #[]
  instanceTypes := #[]
  staticTypes := #[]
  resolved := Array.replicate 7 none
  statics := none }

def pool10 : Array CpInfo := pool [(1, .class_ 2), (0, u "java/lang/Cloneable"), (0, .class_ 4), (0, u "java/lang/Object")] 2

/-- java/lang/Cloneable -/
def k10 : Class := { plain "java/lang/Cloneable" (some 0) with
  accessFlags := 1537
  interfaces := #[]
  cf := some (fileOf pool10 1 #[] #[] 1537 3 #[] #[])
  fields := #[]
  methods := #[]
  instanceTypes := #[]
  staticTypes := #[]
  resolved := Array.replicate 7 none
  statics := none }

def pool11 : Array CpInfo := pool [(1, .class_ 2), (0, u "java/io/Serializable"), (0, .class_ 4), (0, u "java/lang/Object")] 2

/-- java/io/Serializable -/
def k11 : Class := { plain "java/io/Serializable" (some 0) with
  accessFlags := 1537
  interfaces := #[]
  cf := some (fileOf pool11 1 #[] #[] 1537 3 #[] #[])
  fields := #[]
  methods := #[]
  instanceTypes := #[]
  staticTypes := #[]
  resolved := Array.replicate 7 none
  statics := none }

def pool12 : Array CpInfo := pool [(1, .methodref 2 3), (0, .class_ 4), (0, .nameAndType 5 6), (0, u "java/util/AbstractList"), (0, u "<init>"), (0, u "()V"), (2, .fieldref 10 11), (0, .class_ 12), (0, .nameAndType 13 14), (0, u "java/util/ArrayList"), (0, u "elementData"), (0, u "[Ljava/lang/Object;"), (2, u "EMPTY_ELEMENTDATA"), (21, .fieldref 10 40), (0, .nameAndType 41 14), (0, u "DEFAULTCAPACITY_EMPTY_ELEMENTDATA"), (8, u "size"), (0, u "I"), (96, .class_ 149), (0, u "java/util/List"), (112, .class_ 263), (0, u "java/util/ArrayList$ListItr"), (3, .class_ 268), (0, u "java/util/ArrayList$Itr"), (7, .class_ 277), (0, u "java/util/ArrayList$SubList"), (12, .class_ 291), (0, u "java/util/ArrayList$ArrayListSpliterator"), (37, .class_ 330), (0, u "java/util/RandomAccess"), (0, .class_ 332), (0, u "java/lang/Cloneable"), (0, .class_ 334), (0, u "java/io/Serializable"), (0, u "serialVersionUID"), (0, u "J"), (3, u "DEFAULT_CAPACITY"), (159, .class_ 501), (0, u "java/util/ArrayList$SubList$2"), (0, .class_ 503), (0, u "java/util/ArrayList$SubList$1")] 5

def k12c0 : Code := { maxStack := 2, maxLocals := 1, code := jdk_38_method_2_code, exceptionTable := #[], attributes := #[] }
def k12m0 : Method := { name := "<init>", desc := "()V", sig := { parameters := [], returnType := none }, accessFlags := 1, code := some k12c0 }
/-- java/util/ArrayList -/
def k12 : Class := { plain "java/util/ArrayList" (some 8) with
  accessFlags := 33
  interfaces := #[7, 9, 10, 11]
  cf := some (fileOf pool12 10 #[.nestMembers #[290, 276, 500, 502, 262, 267]] #[{ accessFlags := 1, nameIndex := 5, descriptorIndex := 6, attributes := #[] }] 33 2 #[148, 329, 331, 333] #[{ accessFlags := 26, nameIndex := 335, descriptorIndex := 336, attributes := #[] }, { accessFlags := 26, nameIndex := 340, descriptorIndex := 51, attributes := #[] }, { accessFlags := 26, nameIndex := 17, descriptorIndex := 14, attributes := #[] }, { accessFlags := 26, nameIndex := 41, descriptorIndex := 14, attributes := #[] }, { accessFlags := 128, nameIndex := 13, descriptorIndex := 14, attributes := #[] }, { accessFlags := 2, nameIndex := 50, descriptorIndex := 51, attributes := #[] }])
  fields := #[{ name := "serialVersionUID", type := .long, accessFlags := 26, slot := 0, constantValue := 0 }, { name := "DEFAULT_CAPACITY", type := .int, accessFlags := 26, slot := 1, constantValue := 0 }, { name := "EMPTY_ELEMENTDATA", type := (.array (.object "java/lang/Object")), accessFlags := 26, slot := 2, constantValue := 0 }, { name := "DEFAULTCAPACITY_EMPTY_ELEMENTDATA", type := (.array (.object "java/lang/Object")), accessFlags := 26, slot := 3, constantValue := 0 }, { name := "elementData", type := (.array (.object "java/lang/Object")), accessFlags := 128, slot := 1, constantValue := 0 }, { name := "size", type := .int, accessFlags := 2, slot := 2, constantValue := 0 }]
  methods := #[k12m0]
  instanceTypes := #[.int, (.array (.object "java/lang/Object")), .int]
  staticTypes := #[.long, .int, (.array (.object "java/lang/Object")), (.array (.object "java/lang/Object"))]
  resolved := Array.replicate 509 none
  statics := some 0 }

def pool13 : Array CpInfo := pool [(2, .class_ 4), (1, u "java/util/Map"), (31, .class_ 37), (0, u "java/util/Map$Entry"), (55, .class_ 94), (0, u "java/lang/Object")] 168

/-- java/util/Map -/
def k13 : Class := { plain "java/util/Map" (some 0) with
  accessFlags := 1537
  interfaces := #[]
  cf := some (fileOf pool13 2 #[.nestMembers #[36]] #[] 1537 93 #[] #[])
  fields := #[]
  methods := #[]
  instanceTypes := #[]
  staticTypes := #[]
  resolved := Array.replicate 263 none
  statics := none }

def pool14 : Array CpInfo := pool [(1, .methodref 2 3), (0, .class_ 4), (0, .nameAndType 5 6), (0, u "java/lang/Object"), (0, u "<init>"), (0, u "()V"), (1, .class_ 10), (1, u "java/util/AbstractMap"), (42, .class_ 54), (0, u "java/util/Map"), (9, u "keySet"), (0, u "Ljava/util/Set;"), (0, .class_ 67), (0, u "java/util/AbstractMap$1"), (5, u "values"), (0, u "Ljava/util/Collection;"), (0, .class_ 76), (0, u "java/util/AbstractMap$2"), (104, .class_ 182), (0, u "java/util/AbstractMap$ViewCollection"), (0, .class_ 184), (0, u "java/util/AbstractMap$SimpleImmutableEntry"), (0, .class_ 186), (0, u "java/util/AbstractMap$SimpleEntry"), (0, .class_ 188), (0, u "java/util/AbstractMap$2$1"), (0, .class_ 190), (0, u "java/util/AbstractMap$1$1")] 5

def k14c0 : Code := { maxStack := 1, maxLocals := 1, code := jdk_71_method_1_code, exceptionTable := #[], attributes := #[] }
def k14m0 : Method := { name := "<init>", desc := "()V", sig := { parameters := [], returnType := none }, accessFlags := 4, code := some k14c0 }
/-- java/util/AbstractMap -/
def k14 : Class := { plain "java/util/AbstractMap" (some 0) with
  accessFlags := 1057
  interfaces := #[13]
  cf := some (fileOf pool14 8 #[.nestMembers #[181, 183, 185, 75, 187, 66, 189]] #[{ accessFlags := 4, nameIndex := 5, descriptorIndex := 6, attributes := #[] }] 1057 2 #[53] #[{ accessFlags := 128, nameIndex := 64, descriptorIndex := 65, attributes := #[] }, { accessFlags := 128, nameIndex := 73, descriptorIndex := 74, attributes := #[] }])
  fields := #[{ name := "keySet", type := (.object "java/util/Set"), accessFlags := 128, slot := 0, constantValue := 0 }, { name := "values", type := (.object "java/util/Collection"), accessFlags := 128, slot := 1, constantValue := 0 }]
  methods := #[k14m0]
  instanceTypes := #[(.object "java/util/Set"), (.object "java/util/Collection")]
  staticTypes := #[]
  resolved := Array.replicate 196 none
  statics := none }

def pool15 : Array CpInfo := pool [(40, .class_ 41), (0, u "java/util/HashMap"), (1, .methodref 44 45), (0, .class_ 46), (0, .nameAndType 47 48), (0, u "java/util/AbstractMap"), (0, u "<init>"), (0, u "()V"), (32, .fieldref 40 82), (0, .nameAndType 83 84), (0, u "loadFactor"), (0, u "F"), (5, u "threshold"), (0, u "I"), (0, .float 1061158912), (8, .class_ 103), (1, u "java/util/Map"), (0, u "size"), (2, u "table"), (0, u "[Ljava/util/HashMap$Node;"), (14, u "entrySet"), (39, .class_ 165), (1, u "java/util/HashMap$Node"), (14, .class_ 181), (0, u "java/util/HashMap$TreeNode"), (22, u "modCount"), (37, u "Ljava/util/Set;"), (0, .class_ 244), (0, u "java/util/HashMap$KeySet"), (18, .class_ 264), (0, u "java/util/HashMap$Values"), (3, .class_ 269), (0, u "java/util/HashMap$EntrySet"), (76, .class_ 348), (1, u "java/util/HashMap$UnsafeHolder"), (43, .class_ 393), (0, u "java/lang/Cloneable"), (0, .class_ 395), (0, u "java/io/Serializable"), (0, u "serialVersionUID"), (0, u "J"), (3, u "DEFAULT_INITIAL_CAPACITY"), (1, u "MAXIMUM_CAPACITY"), (0, u "DEFAULT_LOAD_FACTOR"), (0, u "TREEIFY_THRESHOLD"), (1, u "UNTREEIFY_THRESHOLD"), (1, u "MIN_TREEIFY_CAPACITY"), (186, .class_ 597), (0, u "java/util/HashMap$EntrySpliterator"), (0, .class_ 599), (0, u "java/util/HashMap$ValueSpliterator"), (0, .class_ 601), (0, u "java/util/HashMap$KeySpliterator"), (0, .class_ 603), (0, u "java/util/HashMap$HashMapSpliterator"), (0, .class_ 605), (0, u "java/util/HashMap$EntryIterator"), (0, .class_ 607), (0, u "java/util/HashMap$ValueIterator"), (0, .class_ 609), (0, u "java/util/HashMap$KeyIterator"), (0, .class_ 611), (0, u "java/util/HashMap$HashIterator")] 17

def k15c0 : Code := { maxStack := 2, maxLocals := 1, code := jdk_69_method_7_code, exceptionTable := #[], attributes := #[] }
def k15m0 : Method := { name := "<init>", desc := "()V", sig := { parameters := [], returnType := none }, accessFlags := 1, code := some k15c0 }
/-- java/util/HashMap -/
def k15 : Class := { plain "java/util/HashMap" (some 14) with
  accessFlags := 33
  interfaces := #[13, 10, 11]
  cf := some (fileOf pool15 40 #[.nestMembers #[180, 596, 598, 600, 602, 604, 606, 608, 610, 346, 268, 263, 243, 163]] #[{ accessFlags := 1, nameIndex := 47, descriptorIndex := 48, attributes := #[] }] 33 44 #[101, 392, 394] #[{ accessFlags := 26, nameIndex := 396, descriptorIndex := 397, attributes := #[] }, { accessFlags := 24, nameIndex := 401, descriptorIndex := 91, attributes := #[] }, { accessFlags := 24, nameIndex := 403, descriptorIndex := 91, attributes := #[] }, { accessFlags := 24, nameIndex := 404, descriptorIndex := 84, attributes := #[] }, { accessFlags := 24, nameIndex := 405, descriptorIndex := 91, attributes := #[] }, { accessFlags := 24, nameIndex := 407, descriptorIndex := 91, attributes := #[] }, { accessFlags := 24, nameIndex := 409, descriptorIndex := 91, attributes := #[] }, { accessFlags := 128, nameIndex := 107, descriptorIndex := 108, attributes := #[] }, { accessFlags := 128, nameIndex := 123, descriptorIndex := 242, attributes := #[] }, { accessFlags := 128, nameIndex := 104, descriptorIndex := 91, attributes := #[] }, { accessFlags := 128, nameIndex := 204, descriptorIndex := 91, attributes := #[] }, { accessFlags := 0, nameIndex := 90, descriptorIndex := 91, attributes := #[] }, { accessFlags := 16, nameIndex := 83, descriptorIndex := 84, attributes := #[] }])
  fields := #[{ name := "serialVersionUID", type := .long, accessFlags := 26, slot := 0, constantValue := 0 }, { name := "DEFAULT_INITIAL_CAPACITY", type := .int, accessFlags := 24, slot := 1, constantValue := 0 }, { name := "MAXIMUM_CAPACITY", type := .int, accessFlags := 24, slot := 2, constantValue := 0 }, { name := "DEFAULT_LOAD_FACTOR", type := .float, accessFlags := 24, slot := 3, constantValue := 0 }, { name := "TREEIFY_THRESHOLD", type := .int, accessFlags := 24, slot := 4, constantValue := 0 }, { name := "UNTREEIFY_THRESHOLD", type := .int, accessFlags := 24, slot := 5, constantValue := 0 }, { name := "MIN_TREEIFY_CAPACITY", type := .int, accessFlags := 24, slot := 6, constantValue := 0 }, { name := "table", type := (.array (.object "java/util/HashMap$Node")), accessFlags := 128, slot := 2, constantValue := 0 }, { name := "entrySet", type := (.object "java/util/Set"), accessFlags := 128, slot := 3, constantValue := 0 }, { name := "size", type := .int, accessFlags := 128, slot := 4, constantValue := 0 }, { name := "modCount", type := .int, accessFlags := 128, slot := 5, constantValue := 0 }, { name := "threshold", type := .int, accessFlags := 0, slot := 6, constantValue := 0 }, { name := "loadFactor", type := .float, accessFlags := 16, slot := 7, constantValue := 0 }]
  methods := #[k15m0]
  instanceTypes := #[(.object "java/util/Set"), (.object "java/util/Collection"), (.array (.object "java/util/HashMap$Node")), (.object "java/util/Set"), .int, .int, .int, .float]
  staticTypes := #[.long, .int, .int, .float, .int, .int, .int]
  resolved := Array.replicate 629 none
  statics := none }

/-- the primitive byte -/
def k16 : Class := { plain "byte" none with kind := .primitive 'B', accessFlags := 0x411 }
/-- [B -/
def k17 : Class := { plain "[B" (some 0) with kind := .array 16 .byte, interfaces := #[10, 11], accessFlags := 1041 }

/-- the primitive int -/
def k18 : Class := { plain "int" none with kind := .primitive 'I', accessFlags := 0x411 }
/-- [I -/
def k19 : Class := { plain "[I" (some 0) with kind := .array 18 .int, interfaces := #[10, 11], accessFlags := 1041 }

/-- [Ljava/lang/Object; -/
def k20 : Class := { plain "[Ljava/lang/Object;" (some 0) with kind := .array 0 (.object "java/lang/Object"), interfaces := #[10, 11], accessFlags := 1041 }

def heap : Heap := #[{ cls := 12, slots := #[.long 0, .int 0, .ref 1, .ref 2], vm := .statics 12 },
  { cls := 20, slots := #[], vm := .none },
  { cls := 20, slots := #[], vm := .none }]
def classes : Array Class := #[k0, k1, k2, k3, k4, k5, k6, k7, k8, k9, k10, k11, k12, k13, k14, k15, k16, k17, k18, k19, k20]
def interned : List (Array UInt16 × Addr) := []
def slotsUsed : Nat := 4
def theMethod : MethodId := ⟨1, 1⟩
def args0 : Array Value := #[.int 5, .int 7, .int 6, .int 1, .int 2, .int 3]
def aboutOver (below : List Frame) : State where
  vm := { classes := classes, interned := interned.toArray }
  heap := heap
  slotsUsed := slotsUsed
  threads := #[{ frames := .invoking theMethod args0 :: below }]
def below0 : List Frame := [.native { method := ⟨0, 0⟩, args := #[] }]
def about1 : State := aboutOver below0
def p0 : Program := .bare "" "" ""
def e0 : Env := launch0.env 0 0 0
theorem w_frames : about1.frames = Frame.invoking theMethod args0 :: below0 := rfl
set_option maxRecDepth 65536 in
theorem w_args : argsFit about1.vm theMethod args0 = true := by decide +kernel
set_option maxRecDepth 65536 in
theorem w_heap : heapFits about1 = true := by decide +kernel
set_option maxRecDepth 65536 in
theorem w_runnable : about1.curStatus? = some .runnable := by decide +kernel
set_option maxRecDepth 65536 in
theorem w_alone : about1.alone = true := by decide +kernel
set_option maxRecDepth 65536 in
theorem w_named : about1.methodNamed? x = some theMethod := by decide +kernel
set_option maxRecDepth 65536 in
theorem w_hears : about1.hears theMethod below0 = true := by decide +kernel
set_option maxRecDepth 65536 in
theorem w_ripe : about1.ripe theMethod args0 below0 = true := by decide +kernel
theorem w_running : about1.status = .running := rfl
set_option maxRecDepth 65536 in
theorem w_room : about1.hasRoom e0.platform room_1 = true :=
  launch0.hasRoom_least _ room_1 (by decide +kernel) (by decide +kernel) (by decide +kernel) (by decide +kernel) (by decide +kernel) (by decide +kernel)
theorem allAtoms_all (ts : List Jvm.Cond) (a : Array Jvm.Value) (st : Jvm.State) : (allAtoms ts).before a st = ts.all (fun c => c.before a st) := by
  induction ts with
  | nil => rfl
  | cons c t ih =>
    show (Jvm.Cond.and c (allAtoms t)).before a st = _
    rw [Jvm.Cond.before_and, ih, List.all_cons]
def words1 : List Jvm.Cond := Jvm.Cond.code x code maxLocals ret :: tables_1
/-- a 'code' word, met by the world's own term for the bytes: nothing is compared byte by byte -/
theorem code_word {y : MethodName} {bytes : ByteArray} {mx : Nat} {rt : Option FieldType} {a : Array Value} {s : State} {m : MethodId} {meth : Method} {c : Code} (h1 : s.methodNamed? y = some m) (h2 : s.vm.method? m = some meth) (h3 : meth.code = some c) (h4 : c.code = bytes)
    (h5 : (c.maxLocals == mx && c.exceptionTable.isEmpty && decide (c.maxStack ≤ mostOperands) && decide (meth.sig.returnType = rt) && !meth.locks && decide (parseMethodDescriptor y.desc = some meth.sig)) = true) : (Jvm.Cond.code y bytes mx rt).before a s = true := by
  simp only [Bool.and_eq_true, beq_iff_eq, Bool.not_eq_true', decide_eq_true_eq] at h5
  obtain ⟨⟨⟨⟨⟨g1, g2⟩, g3⟩, g4⟩, g5⟩, g6⟩ := h5
  simp [Cond.before, Cond.holds, Cond.value, h1, h2, h3, h4, g1, g2, g3, g4, g5, g6]
def isCode : Jvm.Cond → Bool
  | .code _ _ _ _ => true
  | _ => false
theorem all_split {L : List Jvm.Cond} {P : Jvm.Cond → Bool} (h1 : L.all (fun c => isCode c || P c) = true) (h2 : ∀ c ∈ L.filter isCode, P c = true) : L.all P = true := by
  refine List.all_eq_true.mpr fun c hc => ?_
  have h := List.all_eq_true.mp h1 c hc
  rcases Bool.eq_false_or_eq_true (isCode c) with hi | hi
  · exact h2 c (List.mem_filter.mpr ⟨hc, hi⟩)
  · simpa [hi] using h
set_option maxRecDepth 65536 in
theorem w_c0 : (Jvm.Cond.code x code maxLocals ret).before args0 about1 = true := code_word (m := ⟨1, 1⟩) (meth := k1m1) (c := k1c1) (by decide +kernel) rfl rfl rfl (by decide +kernel)
set_option maxRecDepth 65536 in
theorem w_c1 : (Jvm.Cond.code ({ cls := "com/example/anytime_arena/anytimearena/io/VariableTable", name := "<init>", desc := "()V" } : Jvm.MethodName) prog_88_method_1_code (1 : Nat) (Option.none : Option Jvm.ClassFile.FieldType)).before args0 about1 = true := code_word (m := ⟨2, 0⟩) (meth := k2m0) (c := k2c0) (by decide +kernel) rfl rfl rfl (by decide +kernel)
set_option maxRecDepth 65536 in
theorem w_c2 : (Jvm.Cond.code ({ cls := "java/lang/Object", name := "<init>", desc := "()V" } : Jvm.MethodName) object_method_1_code (1 : Nat) (Option.none : Option Jvm.ClassFile.FieldType)).before args0 about1 = true := code_word (m := ⟨0, 0⟩) (meth := k0m0) (c := k0c0) (by decide +kernel) rfl rfl rfl (by decide +kernel)
set_option maxRecDepth 65536 in
theorem w_c3 : (Jvm.Cond.code ({ cls := "java/util/ArrayList", name := "<init>", desc := "()V" } : Jvm.MethodName) jdk_38_method_2_code (1 : Nat) (Option.none : Option Jvm.ClassFile.FieldType)).before args0 about1 = true := code_word (m := ⟨12, 0⟩) (meth := k12m0) (c := k12c0) (by decide +kernel) rfl rfl rfl (by decide +kernel)
set_option maxRecDepth 65536 in
theorem w_c4 : (Jvm.Cond.code ({ cls := "java/util/AbstractList", name := "<init>", desc := "()V" } : Jvm.MethodName) jdk_39_method_1_code (1 : Nat) (Option.none : Option Jvm.ClassFile.FieldType)).before args0 about1 = true := code_word (m := ⟨8, 0⟩) (meth := k8m0) (c := k8c0) (by decide +kernel) rfl rfl rfl (by decide +kernel)
set_option maxRecDepth 65536 in
theorem w_c5 : (Jvm.Cond.code ({ cls := "java/util/AbstractCollection", name := "<init>", desc := "()V" } : Jvm.MethodName) jdk_22_method_1_code (1 : Nat) (Option.none : Option Jvm.ClassFile.FieldType)).before args0 about1 = true := code_word (m := ⟨5, 0⟩) (meth := k5m0) (c := k5c0) (by decide +kernel) rfl rfl rfl (by decide +kernel)
set_option maxRecDepth 65536 in
theorem w_c6 : (Jvm.Cond.code ({ cls := "java/util/HashMap", name := "<init>", desc := "()V" } : Jvm.MethodName) jdk_69_method_7_code (1 : Nat) (Option.none : Option Jvm.ClassFile.FieldType)).before args0 about1 = true := code_word (m := ⟨15, 0⟩) (meth := k15m0) (c := k15c0) (by decide +kernel) rfl rfl rfl (by decide +kernel)
set_option maxRecDepth 65536 in
theorem w_c7 : (Jvm.Cond.code ({ cls := "java/util/AbstractMap", name := "<init>", desc := "()V" } : Jvm.MethodName) jdk_71_method_1_code (1 : Nat) (Option.none : Option Jvm.ClassFile.FieldType)).before args0 about1 = true := code_word (m := ⟨14, 0⟩) (meth := k14m0) (c := k14c0) (by decide +kernel) rfl rfl rfl (by decide +kernel)
set_option maxRecDepth 65536 in
theorem w_c8 : (Jvm.Cond.code ({ cls := "com/example/anytime_arena/anytimearena/io/VariableTable", name := "setRanges", desc := "([I[I)V" } : Jvm.MethodName) prog_88_method_3_code (3 : Nat) (Option.none : Option Jvm.ClassFile.FieldType)).before args0 about1 = true := code_word (m := ⟨2, 1⟩) (meth := k2m1) (c := k2c1) (by decide +kernel) rfl rfl rfl (by decide +kernel)
set_option maxRecDepth 65536 in
theorem w_c9 : (Jvm.Cond.code ({ cls := "com/example/anytime_arena/anytimearena/io/VariableTable", name := "inRange", desc := "(II)Z" } : Jvm.MethodName) prog_88_method_11_code (3 : Nat) (Option.some Jvm.ClassFile.FieldType.boolean)).before args0 about1 = true := code_word (m := ⟨2, 2⟩) (meth := k2m2) (c := k2c2) (by decide +kernel) rfl rfl rfl (by decide +kernel)
def codes1 : List Jvm.Cond := [Jvm.Cond.code x code maxLocals ret, Jvm.Cond.code ({ cls := "com/example/anytime_arena/anytimearena/io/VariableTable", name := "<init>", desc := "()V" } : Jvm.MethodName) prog_88_method_1_code (1 : Nat) (Option.none : Option Jvm.ClassFile.FieldType), Jvm.Cond.code ({ cls := "java/lang/Object", name := "<init>", desc := "()V" } : Jvm.MethodName) object_method_1_code (1 : Nat) (Option.none : Option Jvm.ClassFile.FieldType), Jvm.Cond.code ({ cls := "java/util/ArrayList", name := "<init>", desc := "()V" } : Jvm.MethodName) jdk_38_method_2_code (1 : Nat) (Option.none : Option Jvm.ClassFile.FieldType), Jvm.Cond.code ({ cls := "java/util/AbstractList", name := "<init>", desc := "()V" } : Jvm.MethodName) jdk_39_method_1_code (1 : Nat) (Option.none : Option Jvm.ClassFile.FieldType), Jvm.Cond.code ({ cls := "java/util/AbstractCollection", name := "<init>", desc := "()V" } : Jvm.MethodName) jdk_22_method_1_code (1 : Nat) (Option.none : Option Jvm.ClassFile.FieldType), Jvm.Cond.code ({ cls := "java/util/HashMap", name := "<init>", desc := "()V" } : Jvm.MethodName) jdk_69_method_7_code (1 : Nat) (Option.none : Option Jvm.ClassFile.FieldType), Jvm.Cond.code ({ cls := "java/util/AbstractMap", name := "<init>", desc := "()V" } : Jvm.MethodName) jdk_71_method_1_code (1 : Nat) (Option.none : Option Jvm.ClassFile.FieldType), Jvm.Cond.code ({ cls := "com/example/anytime_arena/anytimearena/io/VariableTable", name := "setRanges", desc := "([I[I)V" } : Jvm.MethodName) prog_88_method_3_code (3 : Nat) (Option.none : Option Jvm.ClassFile.FieldType), Jvm.Cond.code ({ cls := "com/example/anytime_arena/anytimearena/io/VariableTable", name := "inRange", desc := "(II)Z" } : Jvm.MethodName) prog_88_method_11_code (3 : Nat) (Option.some Jvm.ClassFile.FieldType.boolean)]
set_option maxRecDepth 65536 in
theorem codes_eq : words1.filter isCode = codes1 := rfl
theorem w_codes : ∀ c ∈ words1.filter isCode, c.before args0 about1 = true := by
  rw [codes_eq]
  intro c hc
  simp only [codes1, List.mem_cons, List.not_mem_nil, or_false] at hc
  rcases hc with rfl | rfl | rfl | rfl | rfl | rfl | rfl | rfl | rfl | rfl
  · exact w_c0
  · exact w_c1
  · exact w_c2
  · exact w_c3
  · exact w_c4
  · exact w_c5
  · exact w_c6
  · exact w_c7
  · exact w_c8
  · exact w_c9
set_option maxRecDepth 65536 in
theorem w_t1 : (words1.take 24).all (fun c => isCode c || c.before args0 about1) = true := by decide +kernel
set_option maxRecDepth 65536 in
theorem w_t2 : ((words1.drop 24).take 24).all (fun c => isCode c || c.before args0 about1) = true := by decide +kernel
set_option maxRecDepth 65536 in
theorem w_t3 : (((words1.drop 24).drop 24).take 24).all (fun c => isCode c || c.before args0 about1) = true := by decide +kernel
set_option maxRecDepth 65536 in
theorem w_t4 : (((words1.drop 24).drop 24).drop 24).all (fun c => isCode c || c.before args0 about1) = true := by decide +kernel
theorem w_tables : (allAtoms (Jvm.Cond.code x code maxLocals ret :: tables_1)).before args0 about1 = true := by
  rw [allAtoms_all]
  show words1.all (fun c => c.before args0 about1) = true
  refine all_split ?_ w_codes
  rw [← List.take_append_drop 24 words1, List.all_append, w_t1, ← List.take_append_drop 24 (words1.drop 24), List.all_append, w_t2, ← List.take_append_drop 24 ((words1.drop 24).drop 24), List.all_append, w_t3, w_t4]
  rfl
set_option maxRecDepth 65536 in
theorem w_rest : rest_1_c.before args0 about1 = true := by decide +kernel
set_option maxRecDepth 65536 in
theorem w_case : (Jvm.Cond.and given_1 narrow_1).before args0 about1 = true := by decide +kernel
theorem w_applies : (headSpec (Jvm.Cond.code x code maxLocals ret :: tables_1) room_1).applies x e0.platform about1 = true :=
  (Spec.applies_iff w_frames).mpr ⟨w_running, w_runnable, w_alone, w_named, w_hears, w_ripe, w_room, w_tables⟩
theorem atStart : AtStart classFile x code maxLocals ret World_1 tables_1 room_1 Calls_1 rest_1 Pre_1 launch0 p0 e0 about1 theMethod args0 below0 :=
  ⟨lists_1, trivial, launch0.admits_env _ _ _, launch0.least_env, fairChoices_fair.cas, fairChoices_fair.clock, w_frames, w_args, w_heap, w_applies, trivial, w_rest, w_case⟩
end start1
theorem witness_1 : WitnessClaimed_1 := ⟨start1.p0, start1.e0, start1.about1, start1.theMethod, start1.args0, start1.below0, start1.atStart⟩
end Jvm.Pilot.@@N@@

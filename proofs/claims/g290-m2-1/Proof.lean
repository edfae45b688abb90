import JvmDerived
import JvmDerived.Pilot.@@N@@Statement
import JvmDerived.Pilot.@@N@@Code
set_option linter.unusedVariables false
set_option linter.unusedSimpArgs false
@@BLOCK:NumsL.lean.txt@@
namespace Jvm.Pilot.@@N@@
open Jvm Jvm.ClassFile Sem Op Lib Jvm.Free Jvm.Stand Jvm.LawKit Jvm.RoadKit Bundle Jvm.Pilot.@@N@@.Jvm.D
def Goes (tb : Tables) (e : Env) (below : List Frame) (G : State → Outcome → Prop) (A : State) : Prop := ∃ s₂ o, Steps tb e below A s₂ ∧ s₂.status = .running ∧ Ended s₂ below o ∧ G s₂ o
theorem go {tb : Tables} {e : Env} {below : List Frame} {G : State → Outcome → Prop} {A B : State} (h : ∀ t, Steps tb e below B t → Steps tb e below A t) (k : Goes tb e below G B) : Goes tb e below G A := by
  obtain ⟨s₂, o, h1, h2⟩ := k; exact ⟨s₂, o, h _ h1, h2⟩
theorem goEnd {tb : Tables} {e : Env} {below : List Frame} {G : State → Outcome → Prop} {A B : State} (h : ∀ t, Steps tb e below B t → Steps tb e below A t) (k : Goes tb e below G B) : ∃ s₂ o, Steps tb e below A s₂ ∧ s₂.status = .running ∧ Ended s₂ below o ∧ G s₂ o := go h k
theorem own_sta_keep {Z : State} {h h' : Heap} {C n d K : String} {v : Value} {a : Addr} (S : Sta Z h C n d v) (E : Exa Z h a K) (Kp : Keep h h' [a]) : Sta Z h' C n d v := by
  obtain ⟨cf, i, k, f, st, cell, h1, h2, h3, h4, h5, h6, h7⟩ := S
  obtain ⟨c', k', e1, -, -, e4, -⟩ := E
  refine ⟨cf, i, k, f, st, cell, h1, h2, h3, h4, Kp.2.1 st cell h5 (fun q => ?_), h6, h7⟩
  have q' : st = a := by simpa using q
  subst q'
  cases h5.symm.trans e1
  rw [e4] at h6; cases h6
abbrev iv (x : Int32) : Slot := .val (.int x)
abbrev jv (x : Int64) : Slot := .val (.long x)
abbrev rv (x : Addr) : Slot := .val (.ref x)
abbrev Go (p : Program) (e : Env) (below : List Frame) (G : State → Outcome → Prop) (m : MethodId) (T : State) (pc : Nat) (L : Array Slot) (S : List Value) : Prop := Goes p.tables e below G (T.setTop (mkF m pc L S))
theorem own_msk (x : Int64) : 0 ≤ (x &&& 1152921504606846975).toInt ∧ (x &&& 1152921504606846975).toInt < 1152921504606846976 := by
  rw [Jvm.Kit.i64_mask x 1152921504606846975 (k := 60) (by decide) (by decide)]
  omega
theorem own_split (y : Int64) : (y &&& 7) + (y &&& -8) = y := by
  apply Int64.toBitVec_inj.mp
  show (y.toBitVec &&& (7 : Int64).toBitVec) + (y.toBitVec &&& (-8 : Int64).toBitVec) = y.toBitVec
  generalize y.toBitVec = b
  rw [BitVec.add_eq_or_of_and_eq_zero]
  · rw [← BitVec.and_or_distrib_left, show ((7 : Int64).toBitVec ||| (-8 : Int64).toBitVec) = BitVec.allOnes 64 by decide, BitVec.and_allOnes]
  · have e : (7 : Int64).toBitVec &&& (-8 : Int64).toBitVec = 0 := by decide
    calc (b &&& (7 : Int64).toBitVec) &&& (b &&& (-8 : Int64).toBitVec) = (b &&& b) &&& ((7 : Int64).toBitVec &&& (-8 : Int64).toBitVec) := by ac_rfl
      _ = 0 := by rw [e]; exact BitVec.and_zero
theorem own_round (e : Int64) (h0 : 0 ≤ e.toInt) (h1 : e.toInt < 1152921504606846976) : ((e + 7) &&& -8).toInt = (e.toInt + 7) / 8 * 8 := by
  have e7 : (7 : Int64).toInt = 7 := rfl
  have a : (e + 7).toInt = e.toInt + 7 := by rw [Jvm.Kit.i64_add (by omega) (by omega), e7]
  have b := Jvm.Kit.i64_mask (e + 7) 7 (k := 3) (by decide) (by decide)
  have c : ((e + 7) &&& -8) = (e + 7) - ((e + 7) &&& 7) := by
    have h := own_split (e + 7)
    generalize (e + 7) &&& 7 = u at *
    generalize (e + 7) &&& -8 = v at *
    rw [← h, Int64.add_comm u v, Int64.add_sub_cancel]
  rw [c, Jvm.Kit.i64_sub (by omega) (by omega), b, a]
  omega
theorem own_a (x : Int64) (h : (x &&& 1152921504606846975) - ((x &&& 1152921504606846975) / 8) * 8 = 0) : 16 + (((x &&& 1152921504606846975) + 7) &&& -8) = 16 + (x &&& 1152921504606846975) := by
  obtain ⟨h0, h1⟩ := own_msk x
  generalize (x &&& 1152921504606846975) = e at *
  congr 1
  have r : (e - (e / 8) * 8).toInt = e.toInt % 8 := Jvm.Kit.i64_rem_nonneg h0
  rw [h] at r
  have z : (0 : Int64).toInt = 0 := rfl
  rw [← Int64.toInt_inj, own_round e h0 h1]; omega
theorem own_b (x : Int64) (h : ¬ (x &&& 1152921504606846975) - ((x &&& 1152921504606846975) / 8) * 8 = 0) : 16 + (((x &&& 1152921504606846975) + 7) &&& -8) = 16 + ((x &&& 1152921504606846975) / 8 + 1) * 8 := by
  obtain ⟨h0, h1⟩ := own_msk x
  generalize (x &&& 1152921504606846975) = e at *
  congr 1
  have r : (e - (e / 8) * 8).toInt = e.toInt % 8 := Jvm.Kit.i64_rem_nonneg h0
  have z : (0 : Int64).toInt = 0 := rfl
  have z1 : (1 : Int64).toInt = 1 := rfl
  have z8 : (8 : Int64).toInt = 8 := rfl
  have d : (e / 8).toInt = e.toInt / 8 := by rw [Jvm.Kit.i64_div (by omega), z8, Int.tdiv_eq_ediv_of_nonneg h0]
  have d1 : (e / 8 + 1).toInt = e.toInt / 8 + 1 := by rw [Jvm.Kit.i64_add (by omega) (by omega), d, z1]
  have d2 : ((e / 8 + 1) * 8).toInt = (e.toInt / 8 + 1) * 8 := by rw [Jvm.Kit.i64_mul (by rw [d1, z8]; omega) (by rw [d1, z8]; omega), d1, z8]
  rw [← Int64.toInt_inj] at h
  rw [← Int64.toInt_inj, own_round e h0 h1, d2]; omega

theorem d1_0 : decode prog_3_method_2_code 0 = .ok (.ldc2_w 9, 3) := by decide +kernel
theorem d1_3 : decode prog_3_method_2_code 3 = .ok (.lload_n 0, 1) := by decide +kernel
theorem d1_4 : decode prog_3_method_2_code 4 = .ok (.ldc2_w 11, 3) := by decide +kernel
theorem d1_7 : decode prog_3_method_2_code 7 = .ok (.ladd, 1) := by decide +kernel
theorem d1_8 : decode prog_3_method_2_code 8 = .ok (.ldc2_w 13, 3) := by decide +kernel
theorem d1_11 : decode prog_3_method_2_code 11 = .ok (.land, 1) := by decide +kernel
theorem d1_12 : decode prog_3_method_2_code 12 = .ok (.ladd, 1) := by decide +kernel
theorem d1_13 : decode prog_3_method_2_code 13 = .ok (.lreturn, 1) := by decide +kernel
theorem pn_1 : plainName "com/example/sumbit/sumbit/data/Footprints" = true := by first | (simp [plainName, overriddenIn]; done) | decide +kernel
theorem ef_1 (m : MethodId) (q0 : Int64) : entryFrame m #[(.long q0)] 2 = mkF m 0 #[.val (.long q0), .second] [] := by first | (simp [entryFrame, mkF, argsToLocals, Value.category]; done) | rfl
def Q1 (Z : State) (q0 : Int64) (h0 : Heap) (n0 : Nat) (v : Option Value) (h : Heap) (L : List Loc) : Prop := v = some (.long (16 + ((q0 + 7) &&& -8))) ∧ Fr n0 L ∧ h = h0
set_option maxRecDepth 65536 in
set_option maxHeartbeats 40000000 in
theorem rm1 (l : Launch) (Z : State) (a0 : Array Value) (hw : ∀ d ∈ tables_1, d.before a0 Z = true) (ws : List Jvm.Cond) (q0 : Int64) (h0 : Heap) (n0 : Nat) (Z0 : n0 ≤ h0.size)  :
    MetFree l (⟨"com/example/sumbit/sumbit/data/Footprints", "array", "(J)J"⟩ : MethodName) (head1 (Jvm.Cond.code (⟨"com/example/sumbit/sumbit/data/Footprints", "array", "(J)J"⟩ : MethodName) prog_3_method_2_code 2 (some .long) :: ws) ({ frames := 0, cells := 0, slots := 0, locals := 0 } : Room)) (fun a U => a = #[(.long q0)] ∧ Z.Warmed39 U.vm ∧ U.heap = h0) (fun _ _ _ _ _ => True) (fun _ U o U' => ∃ v L, o = .returned v ∧ Q1 Z q0 h0 n0 v U'.heap L ∧ FrameEnd U o U' L ({ frames := 0, cells := 0, slots := 0, locals := 0 } : Room).cells ({ frames := 0, cells := 0, slots := 0, locals := 0 } : Room).slots) := by
  refine MetFree.of_bodySF (plainFor_of_name pn_1) hisR ?_
  intro p e s m args below meth c s₁ Bd hml0 hP hK
  obtain ⟨rfl, hZ, hh⟩ := hP
  have hx := Bd.exec
  have hby := Bd.bytes
  have hml : c.maxLocals = 2 := hml0
  have hown : s.vm.findClass "com/example/sumbit/sumbit/data/Footprints" = some m.cls := findClass_of_methodNamed Bd.named
  have hnm := (name_of_methodNamed Bd.named Bd.method).1
  have X0 : Stand p l e ({ frames := 0, cells := 0, slots := 0, locals := 0 } : Room) s m #[(.long q0)] below meth c s₁ [] 0 0 := Stand.of_body Bd
  have e0 : s₁.heap = h0 := by rw [← hh, Bd.state]; rfl
  have N0 := Fr.nil n0
  have K0 := Keep.refl h0 []
  suffices hgo : Goes p.tables e below (fun s₂ o => ∃ v L, o = .returned v ∧ Q1 Z q0 h0 n0 v s₂.heap L ∧ FrameEnd s o s₂ L ({ frames := 0, cells := 0, slots := 0, locals := 0 } : Room).cells ({ frames := 0, cells := 0, slots := 0, locals := 0 } : Room).slots) (s₁.setTop (mkF m 0 #[.val (.long q0), .second] [])) from goEnd (fun t k => castTop (ef_1 m q0) k) hgo
  refine go (X0.ldc2Long hx hown (mvT hZ (hw _ (List.mem_of_getElem? (i := 7) rfl))) (g := (mkF m 0 #[.val (.long q0), .second] [])) rfl (hb hby d1_0)) ?_
  show Goes p.tables e below _ (s₁.setTop (mkF m 3 #[.val (.long q0), .second] [(.long (16 : Int64))]))
  refine go (fun t kt => XS.lloadN X0.here hx rfl (hb hby d1_3) rfl kt) ?_
  show Goes p.tables e below _ (s₁.setTop (mkF m 4 #[.val (.long q0), .second] [(.long q0), (.long (16 : Int64))]))
  refine go (X0.ldc2Long hx hown (mvT hZ (hw _ (List.mem_of_getElem? (i := 8) rfl))) (g := (mkF m 4 #[.val (.long q0), .second] [(.long q0), (.long (16 : Int64))])) rfl (hb hby d1_4)) ?_
  show Goes p.tables e below _ (s₁.setTop (mkF m 7 #[.val (.long q0), .second] [(.long (7 : Int64)), (.long q0), (.long (16 : Int64))]))
  refine go (fun t kt => XS.ladd X0.here hx rfl (hb hby d1_7) rfl kt) ?_
  show Goes p.tables e below _ (s₁.setTop (mkF m 8 #[.val (.long q0), .second] [(.long (q0 + (7 : Int64))), (.long (16 : Int64))]))
  refine go (X0.ldc2Long hx hown (mvT hZ (hw _ (List.mem_of_getElem? (i := 9) rfl))) (g := (mkF m 8 #[.val (.long q0), .second] [(.long (q0 + (7 : Int64))), (.long (16 : Int64))])) rfl (hb hby d1_8)) ?_
  show Goes p.tables e below _ (s₁.setTop (mkF m 11 #[.val (.long q0), .second] [(.long (-8 : Int64)), (.long (q0 + (7 : Int64))), (.long (16 : Int64))]))
  refine go (fun t kt => XS.land X0.here hx rfl (hb hby d1_11) rfl kt) ?_
  show Goes p.tables e below _ (s₁.setTop (mkF m 12 #[.val (.long q0), .second] [(.long ((q0 + (7 : Int64)) &&& (-8 : Int64))), (.long (16 : Int64))]))
  refine go (fun t kt => XS.ladd X0.here hx rfl (hb hby d1_12) rfl kt) ?_
  show Goes p.tables e below _ (s₁.setTop (mkF m 13 #[.val (.long q0), .second] [(.long ((16 : Int64) + ((q0 + (7 : Int64)) &&& (-8 : Int64))))]))
  obtain ⟨fs, hr, hrun, hended, hW, hsame⟩ := X0.leave (v := some (.long ((16 : Int64) + ((q0 + (7 : Int64)) &&& (-8 : Int64))))) (fun h => by rw [Bd.returns] at h; cases h)
  refine ⟨_, _, retOut X0 hx (i := .lreturn) Bd.returns rfl (Or.inr (Or.inl ⟨rfl, rfl, _, rfl⟩)) (hb hby d1_13) hr, hrun, hended, _, _, rfl, ?_, ⟨_, rfl⟩, hW, hsame.mono (by decide) (by decide)⟩
  show Q1 Z q0 h0 n0 _ s₁.heap _
  rw [e0]
  exact ⟨rfl, N0, rfl⟩
theorem pd_0 : parseMethodDescriptor "(J)J" = some ⟨[.long], some .long⟩ := by decide +kernel
theorem pn_0 : plainName "com/example/sumbit/sumbit/data/FootprintsArrayPinLaw" = true := by first | (simp [plainName, overriddenIn]; done) | decide +kernel
theorem ef_0 (m : MethodId) (q0 : Int64) : entryFrame m #[(.long q0)] maxLocals = mkF m 0 #[.val (.long q0), .second, .unset, .unset, .unset, .unset, .unset, .unset, .unset, .unset, .unset, .unset] [] := by first | (simp [entryFrame, mkF, argsToLocals, Value.category, maxLocals]; done) | rfl
def Q0 (Z : State) (q0 : Int64) (h0 : Heap) (n0 : Nat) (v : Option Value) (h : Heap) (L : List Loc) : Prop := v = some (.int (1 : Int32)) ∧ Fr n0 L
set_option maxRecDepth 65536 in
set_option maxHeartbeats 40000000 in
theorem rm0 (l : Launch) (Z : State) (a0 : Array Value) (hw : ∀ d ∈ tables_1, d.before a0 Z = true) (ws : List Jvm.Cond) (q0 : Int64) (h0 : Heap) (n0 : Nat) (Z0 : n0 ≤ h0.size)  :
    MetFree l x (head1 (Jvm.Cond.code x code maxLocals ret :: ws) room_1) (fun a U => a = #[(.long q0)] ∧ Z.Warmed39 U.vm ∧ U.heap = h0) (fun _ _ _ _ _ => True) (fun _ U o U' => ∃ v L, o = .returned v ∧ Q0 Z q0 h0 n0 v U'.heap L ∧ FrameEnd U o U' L 0 0) := by
  refine MetFree.of_bodySF (plainFor_of_name pn_0) hisR ?_
  intro p e s m args below meth c s₁ Bd hml0 hP hK
  obtain ⟨rfl, hZ, hh⟩ := hP
  have hx := Bd.exec
  have hby := Bd.bytes
  have hml : c.maxLocals = 12 := hml0
  have hown : s.vm.findClass "com/example/sumbit/sumbit/data/FootprintsArrayPinLaw" = some m.cls := findClass_of_methodNamed Bd.named
  have hnm := (name_of_methodNamed Bd.named Bd.method).1
  have X0 : Stand p l e room_1 s m #[(.long q0)] below meth c s₁ [] 0 0 := Stand.of_body Bd
  have e0 : s₁.heap = h0 := by rw [← hh, Bd.state]; rfl
  have N0 := Fr.nil n0
  have K0 := Keep.refl h0 []
  suffices hgo : Goes p.tables e below (fun s₂ o => ∃ v L, o = .returned v ∧ Q0 Z q0 h0 n0 v s₂.heap L ∧ FrameEnd s o s₂ L 0 0) (s₁.setTop (mkF m 0 #[.val (.long q0), .second, .unset, .unset, .unset, .unset, .unset, .unset, .unset, .unset, .unset, .unset] [])) from goEnd (fun t k => castTop (ef_0 m q0) k) hgo
  refine go (fun t kt => XS.lloadN X0.here hx rfl (hb hby at_0) rfl kt) ?_
  show Goes p.tables e below _ (s₁.setTop (mkF m 1 #[.val (.long q0), .second, .unset, .unset, .unset, .unset, .unset, .unset, .unset, .unset, .unset, .unset] [(.long q0)]))
  refine go (X0.ldc2Long hx hown (mvT hZ (hw _ (List.mem_of_getElem? (i := 0) rfl))) (g := (mkF m 1 #[.val (.long q0), .second, .unset, .unset, .unset, .unset, .unset, .unset, .unset, .unset, .unset, .unset] [(.long q0)])) rfl (hb hby at_1)) ?_
  show Goes p.tables e below _ (s₁.setTop (mkF m 4 #[.val (.long q0), .second, .unset, .unset, .unset, .unset, .unset, .unset, .unset, .unset, .unset, .unset] [(.long (1152921504606846975 : Int64)), (.long q0)]))
  refine go (fun t kt => XS.land X0.here hx rfl (hb hby at_4) rfl kt) ?_
  show Goes p.tables e below _ (s₁.setTop (mkF m 5 #[.val (.long q0), .second, .unset, .unset, .unset, .unset, .unset, .unset, .unset, .unset, .unset, .unset] [(.long (q0 &&& (1152921504606846975 : Int64)))]))
  refine go (fun t kt => XS.lstoreN X0.here hx rfl (hb hby at_5) rfl (l' := #[.val (.long q0), .second, .val (.long (q0 &&& (1152921504606846975 : Int64))), .second, .unset, .unset, .unset, .unset, .unset, .unset, .unset, .unset]) rfl kt) ?_
  show Goes p.tables e below _ (s₁.setTop (mkF m 6 #[.val (.long q0), .second, .val (.long (q0 &&& (1152921504606846975 : Int64))), .second, .unset, .unset, .unset, .unset, .unset, .unset, .unset, .unset] []))
  refine go (fun t kt => XS.lloadN X0.here hx rfl (hb hby at_6) rfl kt) ?_
  show Goes p.tables e below _ (s₁.setTop (mkF m 7 #[.val (.long q0), .second, .val (.long (q0 &&& (1152921504606846975 : Int64))), .second, .unset, .unset, .unset, .unset, .unset, .unset, .unset, .unset] [(.long (q0 &&& (1152921504606846975 : Int64)))]))
  refine go (X0.ldc2Long hx hown (mvT hZ (hw _ (List.mem_of_getElem? (i := 1) rfl))) (g := (mkF m 7 #[.val (.long q0), .second, .val (.long (q0 &&& (1152921504606846975 : Int64))), .second, .unset, .unset, .unset, .unset, .unset, .unset, .unset, .unset] [(.long (q0 &&& (1152921504606846975 : Int64)))])) rfl (hb hby at_7)) ?_
  show Goes p.tables e below _ (s₁.setTop (mkF m 10 #[.val (.long q0), .second, .val (.long (q0 &&& (1152921504606846975 : Int64))), .second, .unset, .unset, .unset, .unset, .unset, .unset, .unset, .unset] [(.long (8 : Int64)), (.long (q0 &&& (1152921504606846975 : Int64)))]))
  refine go (fun t kt => XS.ldiv X0.here hx rfl (hb hby at_10) rfl (by decide) kt) ?_
  show Goes p.tables e below _ (s₁.setTop (mkF m 11 #[.val (.long q0), .second, .val (.long (q0 &&& (1152921504606846975 : Int64))), .second, .unset, .unset, .unset, .unset, .unset, .unset, .unset, .unset] [(.long ((q0 &&& (1152921504606846975 : Int64)) / (8 : Int64)))]))
  refine go (fun t kt => XS.lstore X0.here hx rfl (hb hby at_11) rfl (l' := #[.val (.long q0), .second, .val (.long (q0 &&& (1152921504606846975 : Int64))), .second, .val (.long ((q0 &&& (1152921504606846975 : Int64)) / (8 : Int64))), .second, .unset, .unset, .unset, .unset, .unset, .unset]) rfl kt) ?_
  show Goes p.tables e below _ (s₁.setTop (mkF m 13 #[.val (.long q0), .second, .val (.long (q0 &&& (1152921504606846975 : Int64))), .second, .val (.long ((q0 &&& (1152921504606846975 : Int64)) / (8 : Int64))), .second, .unset, .unset, .unset, .unset, .unset, .unset] []))
  refine go (fun t kt => XS.lloadN X0.here hx rfl (hb hby at_13) rfl kt) ?_
  show Goes p.tables e below _ (s₁.setTop (mkF m 14 #[.val (.long q0), .second, .val (.long (q0 &&& (1152921504606846975 : Int64))), .second, .val (.long ((q0 &&& (1152921504606846975 : Int64)) / (8 : Int64))), .second, .unset, .unset, .unset, .unset, .unset, .unset] [(.long (q0 &&& (1152921504606846975 : Int64)))]))
  refine go (X0.ldc2Long hx hown (mvT hZ (hw _ (List.mem_of_getElem? (i := 1) rfl))) (g := (mkF m 14 #[.val (.long q0), .second, .val (.long (q0 &&& (1152921504606846975 : Int64))), .second, .val (.long ((q0 &&& (1152921504606846975 : Int64)) / (8 : Int64))), .second, .unset, .unset, .unset, .unset, .unset, .unset] [(.long (q0 &&& (1152921504606846975 : Int64)))])) rfl (hb hby at_14)) ?_
  show Goes p.tables e below _ (s₁.setTop (mkF m 17 #[.val (.long q0), .second, .val (.long (q0 &&& (1152921504606846975 : Int64))), .second, .val (.long ((q0 &&& (1152921504606846975 : Int64)) / (8 : Int64))), .second, .unset, .unset, .unset, .unset, .unset, .unset] [(.long (8 : Int64)), (.long (q0 &&& (1152921504606846975 : Int64)))]))
  refine go (fun t kt => XS.lrem X0.here hx rfl (hb hby at_17) rfl (by decide) kt) ?_
  show Goes p.tables e below _ (s₁.setTop (mkF m 18 #[.val (.long q0), .second, .val (.long (q0 &&& (1152921504606846975 : Int64))), .second, .val (.long ((q0 &&& (1152921504606846975 : Int64)) / (8 : Int64))), .second, .unset, .unset, .unset, .unset, .unset, .unset] [(.long ((q0 &&& (1152921504606846975 : Int64)) - ((q0 &&& (1152921504606846975 : Int64)) / (8 : Int64)) * (8 : Int64)))]))
  refine go (fun t kt => XS.lstore X0.here hx rfl (hb hby at_18) rfl (l' := #[.val (.long q0), .second, .val (.long (q0 &&& (1152921504606846975 : Int64))), .second, .val (.long ((q0 &&& (1152921504606846975 : Int64)) / (8 : Int64))), .second, .val (.long ((q0 &&& (1152921504606846975 : Int64)) - ((q0 &&& (1152921504606846975 : Int64)) / (8 : Int64)) * (8 : Int64))), .second, .unset, .unset, .unset, .unset]) rfl kt) ?_
  show Goes p.tables e below _ (s₁.setTop (mkF m 20 #[.val (.long q0), .second, .val (.long (q0 &&& (1152921504606846975 : Int64))), .second, .val (.long ((q0 &&& (1152921504606846975 : Int64)) / (8 : Int64))), .second, .val (.long ((q0 &&& (1152921504606846975 : Int64)) - ((q0 &&& (1152921504606846975 : Int64)) / (8 : Int64)) * (8 : Int64))), .second, .unset, .unset, .unset, .unset] []))
  refine go (fun t kt => XS.lload X0.here hx rfl (hb hby at_20) rfl kt) ?_
  show Goes p.tables e below _ (s₁.setTop (mkF m 22 #[.val (.long q0), .second, .val (.long (q0 &&& (1152921504606846975 : Int64))), .second, .val (.long ((q0 &&& (1152921504606846975 : Int64)) / (8 : Int64))), .second, .val (.long ((q0 &&& (1152921504606846975 : Int64)) - ((q0 &&& (1152921504606846975 : Int64)) / (8 : Int64)) * (8 : Int64))), .second, .unset, .unset, .unset, .unset] [(.long ((q0 &&& (1152921504606846975 : Int64)) - ((q0 &&& (1152921504606846975 : Int64)) / (8 : Int64)) * (8 : Int64)))]))
  refine go (fun t kt => XS.lconst X0.here hx rfl (hb hby at_22) kt) ?_
  show Goes p.tables e below _ (s₁.setTop (mkF m 23 #[.val (.long q0), .second, .val (.long (q0 &&& (1152921504606846975 : Int64))), .second, .val (.long ((q0 &&& (1152921504606846975 : Int64)) / (8 : Int64))), .second, .val (.long ((q0 &&& (1152921504606846975 : Int64)) - ((q0 &&& (1152921504606846975 : Int64)) / (8 : Int64)) * (8 : Int64))), .second, .unset, .unset, .unset, .unset] [(.long (0 : Int64)), (.long ((q0 &&& (1152921504606846975 : Int64)) - ((q0 &&& (1152921504606846975 : Int64)) / (8 : Int64)) * (8 : Int64)))]))
  refine go (fun t kt => XS.lcmp X0.here hx rfl (hb hby at_23) rfl kt) ?_
  show Goes p.tables e below _ (s₁.setTop (mkF m 24 #[.val (.long q0), .second, .val (.long (q0 &&& (1152921504606846975 : Int64))), .second, .val (.long ((q0 &&& (1152921504606846975 : Int64)) / (8 : Int64))), .second, .val (.long ((q0 &&& (1152921504606846975 : Int64)) - ((q0 &&& (1152921504606846975 : Int64)) / (8 : Int64)) * (8 : Int64))), .second, .unset, .unset, .unset, .unset] [(.int (lcmpW ((q0 &&& (1152921504606846975 : Int64)) - ((q0 &&& (1152921504606846975 : Int64)) / (8 : Int64)) * (8 : Int64)) (0 : Int64)))]))
  by_cases hc1 : ((q0 &&& (1152921504606846975 : Int64)) - ((q0 &&& (1152921504606846975 : Int64)) / (8 : Int64)) * (8 : Int64)) = (0 : Int64)
  ·
    refine go (fun t kt => XS.ifNo X0.here hx rfl (hb hby at_24) rfl ((if0 _ _).trans (teq ((lw_eq ((q0 &&& (1152921504606846975 : Int64)) - ((q0 &&& (1152921504606846975 : Int64)) / (8 : Int64)) * (8 : Int64)) (0 : Int64)).mpr hc1)).2) kt) ?_
    show Goes p.tables e below _ (s₁.setTop (mkF m 27 #[.val (.long q0), .second, .val (.long (q0 &&& (1152921504606846975 : Int64))), .second, .val (.long ((q0 &&& (1152921504606846975 : Int64)) / (8 : Int64))), .second, .val (.long ((q0 &&& (1152921504606846975 : Int64)) - ((q0 &&& (1152921504606846975 : Int64)) / (8 : Int64)) * (8 : Int64))), .second, .unset, .unset, .unset, .unset] []))
    refine go (fun t kt => XS.lloadN X0.here hx rfl (hb hby at_27) rfl kt) ?_
    show Goes p.tables e below _ (s₁.setTop (mkF m 28 #[.val (.long q0), .second, .val (.long (q0 &&& (1152921504606846975 : Int64))), .second, .val (.long ((q0 &&& (1152921504606846975 : Int64)) / (8 : Int64))), .second, .val (.long ((q0 &&& (1152921504606846975 : Int64)) - ((q0 &&& (1152921504606846975 : Int64)) / (8 : Int64)) * (8 : Int64))), .second, .unset, .unset, .unset, .unset] [(.long (q0 &&& (1152921504606846975 : Int64)))]))
    refine go (fun t kt => XS.lstore X0.here hx rfl (hb hby at_28) rfl (l' := #[.val (.long q0), .second, .val (.long (q0 &&& (1152921504606846975 : Int64))), .second, .val (.long ((q0 &&& (1152921504606846975 : Int64)) / (8 : Int64))), .second, .val (.long ((q0 &&& (1152921504606846975 : Int64)) - ((q0 &&& (1152921504606846975 : Int64)) / (8 : Int64)) * (8 : Int64))), .second, .val (.long (q0 &&& (1152921504606846975 : Int64))), .second, .unset, .unset]) rfl kt) ?_
    show Goes p.tables e below _ (s₁.setTop (mkF m 30 #[.val (.long q0), .second, .val (.long (q0 &&& (1152921504606846975 : Int64))), .second, .val (.long ((q0 &&& (1152921504606846975 : Int64)) / (8 : Int64))), .second, .val (.long ((q0 &&& (1152921504606846975 : Int64)) - ((q0 &&& (1152921504606846975 : Int64)) / (8 : Int64)) * (8 : Int64))), .second, .val (.long (q0 &&& (1152921504606846975 : Int64))), .second, .unset, .unset] []))
    refine go (fun t kt => XS.goto X0.here hx rfl (pc0 := 30) (pc' := 43) rfl (hb hby at_30) (by decide) (by decide) kt) ?_
    show Goes p.tables e below _ (s₁.setTop (mkF m 43 #[.val (.long q0), .second, .val (.long (q0 &&& (1152921504606846975 : Int64))), .second, .val (.long ((q0 &&& (1152921504606846975 : Int64)) / (8 : Int64))), .second, .val (.long ((q0 &&& (1152921504606846975 : Int64)) - ((q0 &&& (1152921504606846975 : Int64)) / (8 : Int64)) * (8 : Int64))), .second, .val (.long (q0 &&& (1152921504606846975 : Int64))), .second, .unset, .unset] []))
    refine go (X0.ldc2Long hx hown (mvT hZ (hw _ (List.mem_of_getElem? (i := 2) rfl))) (g := (mkF m 43 #[.val (.long q0), .second, .val (.long (q0 &&& (1152921504606846975 : Int64))), .second, .val (.long ((q0 &&& (1152921504606846975 : Int64)) / (8 : Int64))), .second, .val (.long ((q0 &&& (1152921504606846975 : Int64)) - ((q0 &&& (1152921504606846975 : Int64)) / (8 : Int64)) * (8 : Int64))), .second, .val (.long (q0 &&& (1152921504606846975 : Int64))), .second, .unset, .unset] [])) rfl (hb hby at_43)) ?_
    show Goes p.tables e below _ (s₁.setTop (mkF m 46 #[.val (.long q0), .second, .val (.long (q0 &&& (1152921504606846975 : Int64))), .second, .val (.long ((q0 &&& (1152921504606846975 : Int64)) / (8 : Int64))), .second, .val (.long ((q0 &&& (1152921504606846975 : Int64)) - ((q0 &&& (1152921504606846975 : Int64)) / (8 : Int64)) * (8 : Int64))), .second, .val (.long (q0 &&& (1152921504606846975 : Int64))), .second, .unset, .unset] [(.long (16 : Int64))]))
    refine go (fun t kt => XS.lload X0.here hx rfl (hb hby at_46) rfl kt) ?_
    show Goes p.tables e below _ (s₁.setTop (mkF m 48 #[.val (.long q0), .second, .val (.long (q0 &&& (1152921504606846975 : Int64))), .second, .val (.long ((q0 &&& (1152921504606846975 : Int64)) / (8 : Int64))), .second, .val (.long ((q0 &&& (1152921504606846975 : Int64)) - ((q0 &&& (1152921504606846975 : Int64)) / (8 : Int64)) * (8 : Int64))), .second, .val (.long (q0 &&& (1152921504606846975 : Int64))), .second, .unset, .unset] [(.long (q0 &&& (1152921504606846975 : Int64))), (.long (16 : Int64))]))
    refine go (fun t kt => XS.ladd X0.here hx rfl (hb hby at_48) rfl kt) ?_
    show Goes p.tables e below _ (s₁.setTop (mkF m 49 #[.val (.long q0), .second, .val (.long (q0 &&& (1152921504606846975 : Int64))), .second, .val (.long ((q0 &&& (1152921504606846975 : Int64)) / (8 : Int64))), .second, .val (.long ((q0 &&& (1152921504606846975 : Int64)) - ((q0 &&& (1152921504606846975 : Int64)) / (8 : Int64)) * (8 : Int64))), .second, .val (.long (q0 &&& (1152921504606846975 : Int64))), .second, .unset, .unset] [(.long ((16 : Int64) + (q0 &&& (1152921504606846975 : Int64))))]))
    refine go (fun t kt => XS.lstore X0.here hx rfl (hb hby at_49) rfl (l' := #[.val (.long q0), .second, .val (.long (q0 &&& (1152921504606846975 : Int64))), .second, .val (.long ((q0 &&& (1152921504606846975 : Int64)) / (8 : Int64))), .second, .val (.long ((q0 &&& (1152921504606846975 : Int64)) - ((q0 &&& (1152921504606846975 : Int64)) / (8 : Int64)) * (8 : Int64))), .second, .val (.long (q0 &&& (1152921504606846975 : Int64))), .second, .val (.long ((16 : Int64) + (q0 &&& (1152921504606846975 : Int64)))), .second]) rfl kt) ?_
    show Goes p.tables e below _ (s₁.setTop (mkF m 51 #[.val (.long q0), .second, .val (.long (q0 &&& (1152921504606846975 : Int64))), .second, .val (.long ((q0 &&& (1152921504606846975 : Int64)) / (8 : Int64))), .second, .val (.long ((q0 &&& (1152921504606846975 : Int64)) - ((q0 &&& (1152921504606846975 : Int64)) / (8 : Int64)) * (8 : Int64))), .second, .val (.long (q0 &&& (1152921504606846975 : Int64))), .second, .val (.long ((16 : Int64) + (q0 &&& (1152921504606846975 : Int64)))), .second] []))
    refine go (fun t kt => XS.lloadN X0.here hx rfl (hb hby at_51) rfl kt) ?_
    show Goes p.tables e below _ (s₁.setTop (mkF m 52 #[.val (.long q0), .second, .val (.long (q0 &&& (1152921504606846975 : Int64))), .second, .val (.long ((q0 &&& (1152921504606846975 : Int64)) / (8 : Int64))), .second, .val (.long ((q0 &&& (1152921504606846975 : Int64)) - ((q0 &&& (1152921504606846975 : Int64)) / (8 : Int64)) * (8 : Int64))), .second, .val (.long (q0 &&& (1152921504606846975 : Int64))), .second, .val (.long ((16 : Int64) + (q0 &&& (1152921504606846975 : Int64)))), .second] [(.long (q0 &&& (1152921504606846975 : Int64)))]))
    obtain ⟨_, _, ⟨T2, L2, k2, n2⟩, -, X2, ⟨Lc2, hQ2, l2, y2, z2⟩, st2⟩ := Jvm.LawKit.callS X0 hx (y := (⟨"com/example/sumbit/sumbit/data/Footprints", "array", "(J)J"⟩ : MethodName)) hown (mvT hZ (hw _ (List.mem_of_getElem? (i := 3) rfl))) (mvT hZ (hw _ (List.mem_of_getElem? (i := 4) rfl))) (mvT hZ (hw _ (List.mem_of_getElem? (i := 5) rfl))) (mvT hZ (hw _ (List.mem_of_getElem? (i := 6) rfl))) (by decide) (backOf (W := 0) (rm1 l Z a0 hw [] (q0 &&& (1152921504606846975 : Int64)) h0 n0 Z0 ) hZ (hw _ (List.mem_of_getElem? (i := 6) rfl)) (hw _ (List.mem_of_getElem? (i := 5) rfl)) (by decide) (by decide)) (g := (mkF m 52 #[.val (.long q0), .second, .val (.long (q0 &&& (1152921504606846975 : Int64))), .second, .val (.long ((q0 &&& (1152921504606846975 : Int64)) / (8 : Int64))), .second, .val (.long ((q0 &&& (1152921504606846975 : Int64)) - ((q0 &&& (1152921504606846975 : Int64)) / (8 : Int64)) * (8 : Int64))), .second, .val (.long (q0 &&& (1152921504606846975 : Int64))), .second, .val (.long ((16 : Int64) + (q0 &&& (1152921504606846975 : Int64)))), .second] [(.long (q0 &&& (1152921504606846975 : Int64)))])) rfl (by rw [hml]; rfl) (argsL := [(.long (q0 &&& (1152921504606846975 : Int64)))]) (rest := []) (lenOf pd_0 rfl) rfl (by show 2 * 0 + _ ≤ _; exact Nat.le_of_eq rfl) (hb hby at_52) (fun _ _ => ⟨rfl, e0, (by decide : 0 + 0 ≤ _), (by decide : 0 + 0 ≤ _)⟩)
    dsimp only [Pt.U, Pt.locs, Pt.cells, Pt.slots] at X2 l2 y2 z2 st2 hQ2
    subst l2 y2 z2
    obtain ⟨rfl, Nq2, e2⟩ := hQ2
    have N2 := Fr.app N0 Nq2
    refine go st2 ?_
    show Goes p.tables e below _ (T2.setTop (mkF m 55 #[.val (.long q0), .second, .val (.long (q0 &&& (1152921504606846975 : Int64))), .second, .val (.long ((q0 &&& (1152921504606846975 : Int64)) / (8 : Int64))), .second, .val (.long ((q0 &&& (1152921504606846975 : Int64)) - ((q0 &&& (1152921504606846975 : Int64)) / (8 : Int64)) * (8 : Int64))), .second, .val (.long (q0 &&& (1152921504606846975 : Int64))), .second, .val (.long ((16 : Int64) + (q0 &&& (1152921504606846975 : Int64)))), .second] [(.long (16 + (((q0 &&& (1152921504606846975 : Int64)) + 7) &&& -8)))]))
    refine go (fun t kt => XS.lload X2.here hx rfl (hb hby at_55) rfl kt) ?_
    show Goes p.tables e below _ (T2.setTop (mkF m 57 #[.val (.long q0), .second, .val (.long (q0 &&& (1152921504606846975 : Int64))), .second, .val (.long ((q0 &&& (1152921504606846975 : Int64)) / (8 : Int64))), .second, .val (.long ((q0 &&& (1152921504606846975 : Int64)) - ((q0 &&& (1152921504606846975 : Int64)) / (8 : Int64)) * (8 : Int64))), .second, .val (.long (q0 &&& (1152921504606846975 : Int64))), .second, .val (.long ((16 : Int64) + (q0 &&& (1152921504606846975 : Int64)))), .second] [(.long ((16 : Int64) + (q0 &&& (1152921504606846975 : Int64)))), (.long (16 + (((q0 &&& (1152921504606846975 : Int64)) + 7) &&& -8)))]))
    refine go (fun t kt => XS.lcmp X2.here hx rfl (hb hby at_57) rfl kt) ?_
    show Goes p.tables e below _ (T2.setTop (mkF m 58 #[.val (.long q0), .second, .val (.long (q0 &&& (1152921504606846975 : Int64))), .second, .val (.long ((q0 &&& (1152921504606846975 : Int64)) / (8 : Int64))), .second, .val (.long ((q0 &&& (1152921504606846975 : Int64)) - ((q0 &&& (1152921504606846975 : Int64)) / (8 : Int64)) * (8 : Int64))), .second, .val (.long (q0 &&& (1152921504606846975 : Int64))), .second, .val (.long ((16 : Int64) + (q0 &&& (1152921504606846975 : Int64)))), .second] [(.int (lcmpW (16 + (((q0 &&& (1152921504606846975 : Int64)) + 7) &&& -8)) ((16 : Int64) + (q0 &&& (1152921504606846975 : Int64)))))]))
    refine go (fun t kt => XS.ifNo X2.here hx rfl (hb hby at_58) rfl ((if0 _ _).trans (teq ((lw_eq (16 + (((q0 &&& (1152921504606846975 : Int64)) + 7) &&& -8)) ((16 : Int64) + (q0 &&& (1152921504606846975 : Int64)))).mpr (own_a q0 hc1))).2) kt) ?_
    show Goes p.tables e below _ (T2.setTop (mkF m 61 #[.val (.long q0), .second, .val (.long (q0 &&& (1152921504606846975 : Int64))), .second, .val (.long ((q0 &&& (1152921504606846975 : Int64)) / (8 : Int64))), .second, .val (.long ((q0 &&& (1152921504606846975 : Int64)) - ((q0 &&& (1152921504606846975 : Int64)) / (8 : Int64)) * (8 : Int64))), .second, .val (.long (q0 &&& (1152921504606846975 : Int64))), .second, .val (.long ((16 : Int64) + (q0 &&& (1152921504606846975 : Int64)))), .second] []))
    refine go (fun t kt => XS.iconst X2.here hx rfl (hb hby at_61) kt) ?_
    show Goes p.tables e below _ (T2.setTop (mkF m 62 #[.val (.long q0), .second, .val (.long (q0 &&& (1152921504606846975 : Int64))), .second, .val (.long ((q0 &&& (1152921504606846975 : Int64)) / (8 : Int64))), .second, .val (.long ((q0 &&& (1152921504606846975 : Int64)) - ((q0 &&& (1152921504606846975 : Int64)) / (8 : Int64)) * (8 : Int64))), .second, .val (.long (q0 &&& (1152921504606846975 : Int64))), .second, .val (.long ((16 : Int64) + (q0 &&& (1152921504606846975 : Int64)))), .second] [(.int (1 : Int32))]))
    refine go (fun t kt => XS.goto X2.here hx rfl (pc0 := 62) (pc' := 66) rfl (hb hby at_62) (by decide) (by decide) kt) ?_
    show Goes p.tables e below _ (T2.setTop (mkF m 66 #[.val (.long q0), .second, .val (.long (q0 &&& (1152921504606846975 : Int64))), .second, .val (.long ((q0 &&& (1152921504606846975 : Int64)) / (8 : Int64))), .second, .val (.long ((q0 &&& (1152921504606846975 : Int64)) - ((q0 &&& (1152921504606846975 : Int64)) / (8 : Int64)) * (8 : Int64))), .second, .val (.long (q0 &&& (1152921504606846975 : Int64))), .second, .val (.long ((16 : Int64) + (q0 &&& (1152921504606846975 : Int64)))), .second] [(.int (1 : Int32))]))
    obtain ⟨fs, hr, hrun, hended, hW, hsame⟩ := X2.leave (v := some (.int (1 : Int32))) (fun h => by rw [Bd.returns] at h; cases h)
    refine ⟨_, _, retN X2 hx (t := .boolean) Bd.returns (by simp) (hb hby at_66) hr, hrun, hended, _, _, rfl, ?_, ⟨_, rfl⟩, hW, hsame.mono (by decide) (by decide)⟩
    show Q0 Z q0 h0 n0 _ T2.heap _
    rw [e2]
    exact ⟨rfl, N2⟩
  ·
    refine go (fun t kt => XS.ifYes X0.here hx rfl (pc0 := 24) (pc' := 33) rfl (hb hby at_24) rfl ((if0 _ _).trans (feq (fun q => hc1 ((lw_eq ((q0 &&& (1152921504606846975 : Int64)) - ((q0 &&& (1152921504606846975 : Int64)) / (8 : Int64)) * (8 : Int64)) (0 : Int64)).mp q))).2) (by decide) (by decide) kt) ?_
    show Goes p.tables e below _ (s₁.setTop (mkF m 33 #[.val (.long q0), .second, .val (.long (q0 &&& (1152921504606846975 : Int64))), .second, .val (.long ((q0 &&& (1152921504606846975 : Int64)) / (8 : Int64))), .second, .val (.long ((q0 &&& (1152921504606846975 : Int64)) - ((q0 &&& (1152921504606846975 : Int64)) / (8 : Int64)) * (8 : Int64))), .second, .unset, .unset, .unset, .unset] []))
    refine go (fun t kt => XS.lload X0.here hx rfl (hb hby at_33) rfl kt) ?_
    show Goes p.tables e below _ (s₁.setTop (mkF m 35 #[.val (.long q0), .second, .val (.long (q0 &&& (1152921504606846975 : Int64))), .second, .val (.long ((q0 &&& (1152921504606846975 : Int64)) / (8 : Int64))), .second, .val (.long ((q0 &&& (1152921504606846975 : Int64)) - ((q0 &&& (1152921504606846975 : Int64)) / (8 : Int64)) * (8 : Int64))), .second, .unset, .unset, .unset, .unset] [(.long ((q0 &&& (1152921504606846975 : Int64)) / (8 : Int64)))]))
    refine go (fun t kt => XS.lconst X0.here hx rfl (hb hby at_35) kt) ?_
    show Goes p.tables e below _ (s₁.setTop (mkF m 36 #[.val (.long q0), .second, .val (.long (q0 &&& (1152921504606846975 : Int64))), .second, .val (.long ((q0 &&& (1152921504606846975 : Int64)) / (8 : Int64))), .second, .val (.long ((q0 &&& (1152921504606846975 : Int64)) - ((q0 &&& (1152921504606846975 : Int64)) / (8 : Int64)) * (8 : Int64))), .second, .unset, .unset, .unset, .unset] [(.long (1 : Int64)), (.long ((q0 &&& (1152921504606846975 : Int64)) / (8 : Int64)))]))
    refine go (fun t kt => XS.ladd X0.here hx rfl (hb hby at_36) rfl kt) ?_
    show Goes p.tables e below _ (s₁.setTop (mkF m 37 #[.val (.long q0), .second, .val (.long (q0 &&& (1152921504606846975 : Int64))), .second, .val (.long ((q0 &&& (1152921504606846975 : Int64)) / (8 : Int64))), .second, .val (.long ((q0 &&& (1152921504606846975 : Int64)) - ((q0 &&& (1152921504606846975 : Int64)) / (8 : Int64)) * (8 : Int64))), .second, .unset, .unset, .unset, .unset] [(.long (((q0 &&& (1152921504606846975 : Int64)) / (8 : Int64)) + (1 : Int64)))]))
    refine go (X0.ldc2Long hx hown (mvT hZ (hw _ (List.mem_of_getElem? (i := 1) rfl))) (g := (mkF m 37 #[.val (.long q0), .second, .val (.long (q0 &&& (1152921504606846975 : Int64))), .second, .val (.long ((q0 &&& (1152921504606846975 : Int64)) / (8 : Int64))), .second, .val (.long ((q0 &&& (1152921504606846975 : Int64)) - ((q0 &&& (1152921504606846975 : Int64)) / (8 : Int64)) * (8 : Int64))), .second, .unset, .unset, .unset, .unset] [(.long (((q0 &&& (1152921504606846975 : Int64)) / (8 : Int64)) + (1 : Int64)))])) rfl (hb hby at_37)) ?_
    show Goes p.tables e below _ (s₁.setTop (mkF m 40 #[.val (.long q0), .second, .val (.long (q0 &&& (1152921504606846975 : Int64))), .second, .val (.long ((q0 &&& (1152921504606846975 : Int64)) / (8 : Int64))), .second, .val (.long ((q0 &&& (1152921504606846975 : Int64)) - ((q0 &&& (1152921504606846975 : Int64)) / (8 : Int64)) * (8 : Int64))), .second, .unset, .unset, .unset, .unset] [(.long (8 : Int64)), (.long (((q0 &&& (1152921504606846975 : Int64)) / (8 : Int64)) + (1 : Int64)))]))
    refine go (fun t kt => XS.lmul X0.here hx rfl (hb hby at_40) rfl kt) ?_
    show Goes p.tables e below _ (s₁.setTop (mkF m 41 #[.val (.long q0), .second, .val (.long (q0 &&& (1152921504606846975 : Int64))), .second, .val (.long ((q0 &&& (1152921504606846975 : Int64)) / (8 : Int64))), .second, .val (.long ((q0 &&& (1152921504606846975 : Int64)) - ((q0 &&& (1152921504606846975 : Int64)) / (8 : Int64)) * (8 : Int64))), .second, .unset, .unset, .unset, .unset] [(.long ((((q0 &&& (1152921504606846975 : Int64)) / (8 : Int64)) + (1 : Int64)) * (8 : Int64)))]))
    refine go (fun t kt => XS.lstore X0.here hx rfl (hb hby at_41) rfl (l' := #[.val (.long q0), .second, .val (.long (q0 &&& (1152921504606846975 : Int64))), .second, .val (.long ((q0 &&& (1152921504606846975 : Int64)) / (8 : Int64))), .second, .val (.long ((q0 &&& (1152921504606846975 : Int64)) - ((q0 &&& (1152921504606846975 : Int64)) / (8 : Int64)) * (8 : Int64))), .second, .val (.long ((((q0 &&& (1152921504606846975 : Int64)) / (8 : Int64)) + (1 : Int64)) * (8 : Int64))), .second, .unset, .unset]) rfl kt) ?_
    show Goes p.tables e below _ (s₁.setTop (mkF m 43 #[.val (.long q0), .second, .val (.long (q0 &&& (1152921504606846975 : Int64))), .second, .val (.long ((q0 &&& (1152921504606846975 : Int64)) / (8 : Int64))), .second, .val (.long ((q0 &&& (1152921504606846975 : Int64)) - ((q0 &&& (1152921504606846975 : Int64)) / (8 : Int64)) * (8 : Int64))), .second, .val (.long ((((q0 &&& (1152921504606846975 : Int64)) / (8 : Int64)) + (1 : Int64)) * (8 : Int64))), .second, .unset, .unset] []))
    refine go (X0.ldc2Long hx hown (mvT hZ (hw _ (List.mem_of_getElem? (i := 2) rfl))) (g := (mkF m 43 #[.val (.long q0), .second, .val (.long (q0 &&& (1152921504606846975 : Int64))), .second, .val (.long ((q0 &&& (1152921504606846975 : Int64)) / (8 : Int64))), .second, .val (.long ((q0 &&& (1152921504606846975 : Int64)) - ((q0 &&& (1152921504606846975 : Int64)) / (8 : Int64)) * (8 : Int64))), .second, .val (.long ((((q0 &&& (1152921504606846975 : Int64)) / (8 : Int64)) + (1 : Int64)) * (8 : Int64))), .second, .unset, .unset] [])) rfl (hb hby at_43)) ?_
    show Goes p.tables e below _ (s₁.setTop (mkF m 46 #[.val (.long q0), .second, .val (.long (q0 &&& (1152921504606846975 : Int64))), .second, .val (.long ((q0 &&& (1152921504606846975 : Int64)) / (8 : Int64))), .second, .val (.long ((q0 &&& (1152921504606846975 : Int64)) - ((q0 &&& (1152921504606846975 : Int64)) / (8 : Int64)) * (8 : Int64))), .second, .val (.long ((((q0 &&& (1152921504606846975 : Int64)) / (8 : Int64)) + (1 : Int64)) * (8 : Int64))), .second, .unset, .unset] [(.long (16 : Int64))]))
    refine go (fun t kt => XS.lload X0.here hx rfl (hb hby at_46) rfl kt) ?_
    show Goes p.tables e below _ (s₁.setTop (mkF m 48 #[.val (.long q0), .second, .val (.long (q0 &&& (1152921504606846975 : Int64))), .second, .val (.long ((q0 &&& (1152921504606846975 : Int64)) / (8 : Int64))), .second, .val (.long ((q0 &&& (1152921504606846975 : Int64)) - ((q0 &&& (1152921504606846975 : Int64)) / (8 : Int64)) * (8 : Int64))), .second, .val (.long ((((q0 &&& (1152921504606846975 : Int64)) / (8 : Int64)) + (1 : Int64)) * (8 : Int64))), .second, .unset, .unset] [(.long ((((q0 &&& (1152921504606846975 : Int64)) / (8 : Int64)) + (1 : Int64)) * (8 : Int64))), (.long (16 : Int64))]))
    refine go (fun t kt => XS.ladd X0.here hx rfl (hb hby at_48) rfl kt) ?_
    show Goes p.tables e below _ (s₁.setTop (mkF m 49 #[.val (.long q0), .second, .val (.long (q0 &&& (1152921504606846975 : Int64))), .second, .val (.long ((q0 &&& (1152921504606846975 : Int64)) / (8 : Int64))), .second, .val (.long ((q0 &&& (1152921504606846975 : Int64)) - ((q0 &&& (1152921504606846975 : Int64)) / (8 : Int64)) * (8 : Int64))), .second, .val (.long ((((q0 &&& (1152921504606846975 : Int64)) / (8 : Int64)) + (1 : Int64)) * (8 : Int64))), .second, .unset, .unset] [(.long ((16 : Int64) + ((((q0 &&& (1152921504606846975 : Int64)) / (8 : Int64)) + (1 : Int64)) * (8 : Int64))))]))
    refine go (fun t kt => XS.lstore X0.here hx rfl (hb hby at_49) rfl (l' := #[.val (.long q0), .second, .val (.long (q0 &&& (1152921504606846975 : Int64))), .second, .val (.long ((q0 &&& (1152921504606846975 : Int64)) / (8 : Int64))), .second, .val (.long ((q0 &&& (1152921504606846975 : Int64)) - ((q0 &&& (1152921504606846975 : Int64)) / (8 : Int64)) * (8 : Int64))), .second, .val (.long ((((q0 &&& (1152921504606846975 : Int64)) / (8 : Int64)) + (1 : Int64)) * (8 : Int64))), .second, .val (.long ((16 : Int64) + ((((q0 &&& (1152921504606846975 : Int64)) / (8 : Int64)) + (1 : Int64)) * (8 : Int64)))), .second]) rfl kt) ?_
    show Goes p.tables e below _ (s₁.setTop (mkF m 51 #[.val (.long q0), .second, .val (.long (q0 &&& (1152921504606846975 : Int64))), .second, .val (.long ((q0 &&& (1152921504606846975 : Int64)) / (8 : Int64))), .second, .val (.long ((q0 &&& (1152921504606846975 : Int64)) - ((q0 &&& (1152921504606846975 : Int64)) / (8 : Int64)) * (8 : Int64))), .second, .val (.long ((((q0 &&& (1152921504606846975 : Int64)) / (8 : Int64)) + (1 : Int64)) * (8 : Int64))), .second, .val (.long ((16 : Int64) + ((((q0 &&& (1152921504606846975 : Int64)) / (8 : Int64)) + (1 : Int64)) * (8 : Int64)))), .second] []))
    refine go (fun t kt => XS.lloadN X0.here hx rfl (hb hby at_51) rfl kt) ?_
    show Goes p.tables e below _ (s₁.setTop (mkF m 52 #[.val (.long q0), .second, .val (.long (q0 &&& (1152921504606846975 : Int64))), .second, .val (.long ((q0 &&& (1152921504606846975 : Int64)) / (8 : Int64))), .second, .val (.long ((q0 &&& (1152921504606846975 : Int64)) - ((q0 &&& (1152921504606846975 : Int64)) / (8 : Int64)) * (8 : Int64))), .second, .val (.long ((((q0 &&& (1152921504606846975 : Int64)) / (8 : Int64)) + (1 : Int64)) * (8 : Int64))), .second, .val (.long ((16 : Int64) + ((((q0 &&& (1152921504606846975 : Int64)) / (8 : Int64)) + (1 : Int64)) * (8 : Int64)))), .second] [(.long (q0 &&& (1152921504606846975 : Int64)))]))
    obtain ⟨_, _, ⟨T4, L4, k4, n4⟩, -, X4, ⟨Lc4, hQ4, l4, y4, z4⟩, st4⟩ := Jvm.LawKit.callS X0 hx (y := (⟨"com/example/sumbit/sumbit/data/Footprints", "array", "(J)J"⟩ : MethodName)) hown (mvT hZ (hw _ (List.mem_of_getElem? (i := 3) rfl))) (mvT hZ (hw _ (List.mem_of_getElem? (i := 4) rfl))) (mvT hZ (hw _ (List.mem_of_getElem? (i := 5) rfl))) (mvT hZ (hw _ (List.mem_of_getElem? (i := 6) rfl))) (by decide) (backOf (W := 0) (rm1 l Z a0 hw [] (q0 &&& (1152921504606846975 : Int64)) h0 n0 Z0 ) hZ (hw _ (List.mem_of_getElem? (i := 6) rfl)) (hw _ (List.mem_of_getElem? (i := 5) rfl)) (by decide) (by decide)) (g := (mkF m 52 #[.val (.long q0), .second, .val (.long (q0 &&& (1152921504606846975 : Int64))), .second, .val (.long ((q0 &&& (1152921504606846975 : Int64)) / (8 : Int64))), .second, .val (.long ((q0 &&& (1152921504606846975 : Int64)) - ((q0 &&& (1152921504606846975 : Int64)) / (8 : Int64)) * (8 : Int64))), .second, .val (.long ((((q0 &&& (1152921504606846975 : Int64)) / (8 : Int64)) + (1 : Int64)) * (8 : Int64))), .second, .val (.long ((16 : Int64) + ((((q0 &&& (1152921504606846975 : Int64)) / (8 : Int64)) + (1 : Int64)) * (8 : Int64)))), .second] [(.long (q0 &&& (1152921504606846975 : Int64)))])) rfl (by rw [hml]; rfl) (argsL := [(.long (q0 &&& (1152921504606846975 : Int64)))]) (rest := []) (lenOf pd_0 rfl) rfl (by show 2 * 0 + _ ≤ _; exact Nat.le_of_eq rfl) (hb hby at_52) (fun _ _ => ⟨rfl, e0, (by decide : 0 + 0 ≤ _), (by decide : 0 + 0 ≤ _)⟩)
    dsimp only [Pt.U, Pt.locs, Pt.cells, Pt.slots] at X4 l4 y4 z4 st4 hQ4
    subst l4 y4 z4
    obtain ⟨rfl, Nq4, e4⟩ := hQ4
    have N4 := Fr.app N0 Nq4
    refine go st4 ?_
    show Goes p.tables e below _ (T4.setTop (mkF m 55 #[.val (.long q0), .second, .val (.long (q0 &&& (1152921504606846975 : Int64))), .second, .val (.long ((q0 &&& (1152921504606846975 : Int64)) / (8 : Int64))), .second, .val (.long ((q0 &&& (1152921504606846975 : Int64)) - ((q0 &&& (1152921504606846975 : Int64)) / (8 : Int64)) * (8 : Int64))), .second, .val (.long ((((q0 &&& (1152921504606846975 : Int64)) / (8 : Int64)) + (1 : Int64)) * (8 : Int64))), .second, .val (.long ((16 : Int64) + ((((q0 &&& (1152921504606846975 : Int64)) / (8 : Int64)) + (1 : Int64)) * (8 : Int64)))), .second] [(.long (16 + (((q0 &&& (1152921504606846975 : Int64)) + 7) &&& -8)))]))
    refine go (fun t kt => XS.lload X4.here hx rfl (hb hby at_55) rfl kt) ?_
    show Goes p.tables e below _ (T4.setTop (mkF m 57 #[.val (.long q0), .second, .val (.long (q0 &&& (1152921504606846975 : Int64))), .second, .val (.long ((q0 &&& (1152921504606846975 : Int64)) / (8 : Int64))), .second, .val (.long ((q0 &&& (1152921504606846975 : Int64)) - ((q0 &&& (1152921504606846975 : Int64)) / (8 : Int64)) * (8 : Int64))), .second, .val (.long ((((q0 &&& (1152921504606846975 : Int64)) / (8 : Int64)) + (1 : Int64)) * (8 : Int64))), .second, .val (.long ((16 : Int64) + ((((q0 &&& (1152921504606846975 : Int64)) / (8 : Int64)) + (1 : Int64)) * (8 : Int64)))), .second] [(.long ((16 : Int64) + ((((q0 &&& (1152921504606846975 : Int64)) / (8 : Int64)) + (1 : Int64)) * (8 : Int64)))), (.long (16 + (((q0 &&& (1152921504606846975 : Int64)) + 7) &&& -8)))]))
    refine go (fun t kt => XS.lcmp X4.here hx rfl (hb hby at_57) rfl kt) ?_
    show Goes p.tables e below _ (T4.setTop (mkF m 58 #[.val (.long q0), .second, .val (.long (q0 &&& (1152921504606846975 : Int64))), .second, .val (.long ((q0 &&& (1152921504606846975 : Int64)) / (8 : Int64))), .second, .val (.long ((q0 &&& (1152921504606846975 : Int64)) - ((q0 &&& (1152921504606846975 : Int64)) / (8 : Int64)) * (8 : Int64))), .second, .val (.long ((((q0 &&& (1152921504606846975 : Int64)) / (8 : Int64)) + (1 : Int64)) * (8 : Int64))), .second, .val (.long ((16 : Int64) + ((((q0 &&& (1152921504606846975 : Int64)) / (8 : Int64)) + (1 : Int64)) * (8 : Int64)))), .second] [(.int (lcmpW (16 + (((q0 &&& (1152921504606846975 : Int64)) + 7) &&& -8)) ((16 : Int64) + ((((q0 &&& (1152921504606846975 : Int64)) / (8 : Int64)) + (1 : Int64)) * (8 : Int64)))))]))
    refine go (fun t kt => XS.ifNo X4.here hx rfl (hb hby at_58) rfl ((if0 _ _).trans (teq ((lw_eq (16 + (((q0 &&& (1152921504606846975 : Int64)) + 7) &&& -8)) ((16 : Int64) + ((((q0 &&& (1152921504606846975 : Int64)) / (8 : Int64)) + (1 : Int64)) * (8 : Int64)))).mpr (own_b q0 hc1))).2) kt) ?_
    show Goes p.tables e below _ (T4.setTop (mkF m 61 #[.val (.long q0), .second, .val (.long (q0 &&& (1152921504606846975 : Int64))), .second, .val (.long ((q0 &&& (1152921504606846975 : Int64)) / (8 : Int64))), .second, .val (.long ((q0 &&& (1152921504606846975 : Int64)) - ((q0 &&& (1152921504606846975 : Int64)) / (8 : Int64)) * (8 : Int64))), .second, .val (.long ((((q0 &&& (1152921504606846975 : Int64)) / (8 : Int64)) + (1 : Int64)) * (8 : Int64))), .second, .val (.long ((16 : Int64) + ((((q0 &&& (1152921504606846975 : Int64)) / (8 : Int64)) + (1 : Int64)) * (8 : Int64)))), .second] []))
    refine go (fun t kt => XS.iconst X4.here hx rfl (hb hby at_61) kt) ?_
    show Goes p.tables e below _ (T4.setTop (mkF m 62 #[.val (.long q0), .second, .val (.long (q0 &&& (1152921504606846975 : Int64))), .second, .val (.long ((q0 &&& (1152921504606846975 : Int64)) / (8 : Int64))), .second, .val (.long ((q0 &&& (1152921504606846975 : Int64)) - ((q0 &&& (1152921504606846975 : Int64)) / (8 : Int64)) * (8 : Int64))), .second, .val (.long ((((q0 &&& (1152921504606846975 : Int64)) / (8 : Int64)) + (1 : Int64)) * (8 : Int64))), .second, .val (.long ((16 : Int64) + ((((q0 &&& (1152921504606846975 : Int64)) / (8 : Int64)) + (1 : Int64)) * (8 : Int64)))), .second] [(.int (1 : Int32))]))
    refine go (fun t kt => XS.goto X4.here hx rfl (pc0 := 62) (pc' := 66) rfl (hb hby at_62) (by decide) (by decide) kt) ?_
    show Goes p.tables e below _ (T4.setTop (mkF m 66 #[.val (.long q0), .second, .val (.long (q0 &&& (1152921504606846975 : Int64))), .second, .val (.long ((q0 &&& (1152921504606846975 : Int64)) / (8 : Int64))), .second, .val (.long ((q0 &&& (1152921504606846975 : Int64)) - ((q0 &&& (1152921504606846975 : Int64)) / (8 : Int64)) * (8 : Int64))), .second, .val (.long ((((q0 &&& (1152921504606846975 : Int64)) / (8 : Int64)) + (1 : Int64)) * (8 : Int64))), .second, .val (.long ((16 : Int64) + ((((q0 &&& (1152921504606846975 : Int64)) / (8 : Int64)) + (1 : Int64)) * (8 : Int64)))), .second] [(.int (1 : Int32))]))
    obtain ⟨fs, hr, hrun, hended, hW, hsame⟩ := X4.leave (v := some (.int (1 : Int32))) (fun h => by rw [Bd.returns] at h; cases h)
    refine ⟨_, _, retN X4 hx (t := .boolean) Bd.returns (by simp) (hb hby at_66) hr, hrun, hended, _, _, rfl, ?_, ⟨_, rfl⟩, hW, hsame.mono (by decide) (by decide)⟩
    show Q0 Z q0 h0 n0 _ T4.heap _
    rw [e4]
    exact ⟨rfl, N4⟩
set_option maxRecDepth 65536 in
set_option maxHeartbeats 40000000 in
theorem comes_1 {Post : Tables → Env → Array Value → State → Outcome → State → Prop} (hpost : ∀ tb e args s v u, (limb_1_1.after args s (.returned v) u = true ∧ limb_1_2.after args s (.returned v) u = true ∧ True) → FrameEnd s (.returned v) u (Jvm.fieldLocs frame_1_writes args s ++ Jvm.arrayLocs frame_1_arrays args s ++ Jvm.staticLocs frame_1_statics s) 0 0 → Post tb e args s (.returned v) u) :
    ArmFor flags0 classFile x code maxLocals ret World_1 tables_1 room_1 Calls_1 rest_1 Pre_1 Post := by
  intro l hfl _ _ p e ha hc hk s m args below hf hA hF happ hP
  obtain ⟨hcalls, hrest, hpre⟩ := hP
  obtain ⟨-, -, -, hnamed, -, -, -, hat⟩ := (Spec.applies_iff hf).mp happ
  obtain ⟨hg, hn⟩ := and_e (Cond.before_iff.mp (show (Jvm.Cond.and given_1 narrow_1).before args s = true from hpre))
  obtain ⟨u1, u2⟩ := and_e hg
  obtain ⟨w0, rfl⟩ : ∃ w0 : Value, args = #[w0] := by
    have hs : args.size = 1 := by simpa [Cond.value, given_1] using u1
    obtain ⟨L⟩ := args
    match L, hs with
    | [w0], _ => exact ⟨w0, rfl⟩
  have hw := fun d (hd : d ∈ tables_1) => atoms_spec (ws := Jvm.Cond.code x code maxLocals ret :: tables_1) hat d (List.mem_cons_of_mem _ hd)
  obtain ⟨i0, ei0⟩ := isL_v u2
  obtain rfl : w0 = (.long i0) := Option.some.inj ei0
  obtain ⟨n, o, h1, h2, h3, _, L, rfl, ⟨rfl, N⟩, hq⟩ := rm0 l s _ hw tables_1 i0  s.heap s.heap.size (Nat.le_refl _)  p e ha hc hk s m _ below hf ((Spec.applies_iff_loose hf).mp happ).1 ⟨rfl, State.Warmed39.refl s, rfl⟩ trivial
  refine ⟨n, _, h1, h2, h3, hpost _ _ _ _ _ _ ⟨Cond.after_iff.mpr rfl, Cond.after_iff.mpr (eq_i res_at (Term.int_eval (1)) rfl), trivial⟩ ⟨hq.1, hq.2.1, (hq.2.2.sift fun y hy => Or.inr (N y hy)).mono (by decide) (by decide)⟩⟩
theorem main_1_1 : Claimed_1_1 := comes_1 fun _ _ _ _ _ _ h hF => ⟨h.1, hF⟩
theorem main_1_2 : Claimed_1_2 := comes_1 fun _ _ _ _ _ _ h hF => ⟨h.2.1, hF⟩
end Jvm.Pilot.@@N@@
namespace Jvm.Pilot.@@N@@
open Jvm Jvm.ClassFile Sem Op Lib Jvm.Free Jvm.Stand Jvm.Pilot.@@N@@.Jvm.D
/-! MADE BY PROGRAM (witnessworld.py) out of the Statement's table words and the real class files: 9 classes; the members and pool entries that the words name. The judged class is class 1, her method 1. -/
namespace start1
open Jvm.ClassFile
def u (s : String) : CpInfo := .utf8 (stringToUtf16 s)
/-- a pool by its gaps: so many unusable entries, then the entry; so many at the end -/
def gap : Nat → List CpInfo → List CpInfo
  | 0, r => r
  | n + 1, r => .unusable :: gap n r
def poolList (es : List (Nat × CpInfo)) (last : Nat) : List CpInfo := es.foldr (fun e r => gap e.1 (e.2 :: r)) (gap last [])
def pool (es : List (Nat × CpInfo)) (last : Nat) : Array CpInfo := ⟨poolList es last⟩
def fileOf (pool : Array CpInfo) (this : Nat) (attrs : Array Attribute := #[]) (ms : Array MethodInfo := #[]) (fl : Nat := 33) (sup : Nat := 0) (ifs : Array Nat := #[]) (fds : Array FieldInfo := #[]) : ClassFile where
  minorVersion := 0
  majorVersion := 65
  constantPool := pool
  accessFlags := fl
  thisClass := this
  superClass := sup
  interfaces := ifs
  fields := fds
  methods := ms
  attributes := attrs
def plain (name : String) (sup : Option ClassId) : Class where
  name := name
  kind := .ordinary
  loader := none
  accessFlags := 33
  super := sup
  interfaces := #[]
  cf := none
  fields := #[]
  methods := #[]
  instanceTypes := #[]
  staticTypes := #[]
  resolved := #[]
  callSites := []
  init := .initialized
  statics := none
  mirror := none

def pool0 : Array CpInfo := pool [(5, u "<init>"), (0, u "()V"), (1, .class_ 10), (1, u "java/lang/Object")] 113

def k0m0 : Method := { name := "<init>", desc := "()V", sig := { parameters := [], returnType := none }, accessFlags := 1, code := none }
/-- java/lang/Object -/
def k0 : Class := { plain "java/lang/Object" none with
  accessFlags := 33
  interfaces := #[]
  cf := some (fileOf pool0 8 #[] #[{ accessFlags := 1, nameIndex := 5, descriptorIndex := 6, attributes := #[] }] 33 0 #[] #[])
  fields := #[]
  methods := #[k0m0]
  instanceTypes := #[]
  staticTypes := #[]
  resolved := Array.replicate 124 none
  statics := none }

def pool1 : Array CpInfo := pool [(2, .class_ 4), (1, u "java/lang/Object"), (0, u "<init>"), (0, u "()V"), (0, .long 1152921504606846975), (1, .long 8), (1, .long 16), (1, .methodref 14 15), (0, .class_ 16), (0, .nameAndType 17 18), (0, u "com/example/sumbit/sumbit/data/Footprints"), (0, u "array"), (0, u "(J)J"), (0, .class_ 20), (0, u "com/example/sumbit/sumbit/data/FootprintsArrayPinLaw"), (2, u "law"), (0, u "(J)Z")] 3

def k1m0 : Method := { name := "<init>", desc := "()V", sig := { parameters := [], returnType := none }, accessFlags := 2, code := none }
def k1c1 : Code := { maxStack := 4, maxLocals := 12, code := code, exceptionTable := #[], attributes := #[] }
def k1m1 : Method := { name := "law", desc := "(J)Z", sig := { parameters := [.long], returnType := some .boolean }, accessFlags := 9, code := some k1c1 }
/-- com/example/sumbit/sumbit/data/FootprintsArrayPinLaw -/
def k1 : Class := { plain "com/example/sumbit/sumbit/data/FootprintsArrayPinLaw" (some 0) with
  accessFlags := 49
  interfaces := #[]
  cf := some (fileOf pool1 19 #[] #[{ accessFlags := 2, nameIndex := 5, descriptorIndex := 6, attributes := #[] }, { accessFlags := 9, nameIndex := 23, descriptorIndex := 24, attributes := #[] }] 49 2 #[] #[])
  fields := #[]
  methods := #[k1m0, k1m1]
  instanceTypes := #[]
  staticTypes := #[]
  resolved := Array.replicate 28 none
  statics := none }

def pool2 : Array CpInfo := pool [(2, .class_ 4), (1, u "java/lang/Object"), (0, u "<init>"), (0, u "()V"), (0, .class_ 8), (0, u "com/example/sumbit/sumbit/data/Footprints"), (0, .long 16), (1, .long 7), (1, .long 18446744073709551608), (1, u "ARRAY_HEADER"), (0, u "I"), (4, u "array"), (0, u "(J)J")] 2

def k2m0 : Method := { name := "<init>", desc := "()V", sig := { parameters := [], returnType := none }, accessFlags := 2, code := none }
def k2c1 : Code := { maxStack := 6, maxLocals := 2, code := prog_3_method_2_code, exceptionTable := #[], attributes := #[] }
def k2m1 : Method := { name := "array", desc := "(J)J", sig := { parameters := [.long], returnType := some .long }, accessFlags := 8, code := some k2c1 }
/-- com/example/sumbit/sumbit/data/Footprints -/
def k2 : Class := { plain "com/example/sumbit/sumbit/data/Footprints" (some 0) with
  accessFlags := 48
  interfaces := #[]
  cf := some (fileOf pool2 7 #[] #[{ accessFlags := 2, nameIndex := 5, descriptorIndex := 6, attributes := #[] }, { accessFlags := 8, nameIndex := 21, descriptorIndex := 22, attributes := #[] }] 48 2 #[] #[{ accessFlags := 26, nameIndex := 15, descriptorIndex := 16, attributes := #[] }])
  fields := #[{ name := "ARRAY_HEADER", type := .int, accessFlags := 26, slot := 0, constantValue := 0 }]
  methods := #[k2m0, k2m1]
  instanceTypes := #[]
  staticTypes := #[.int]
  resolved := Array.replicate 25 none
  statics := none }

def pool3 : Array CpInfo := pool [(1, u "java/lang/Cloneable"), (0, .class_ 1), (0, u "java/lang/Object"), (0, .class_ 3)] 3

/-- java/lang/Cloneable -/
def k3 : Class := { plain "java/lang/Cloneable" (some 0) with
  accessFlags := 1537
  interfaces := #[]
  cf := some (fileOf pool3 2 #[] #[] 1537 4 #[] #[])
  fields := #[]
  methods := #[]
  instanceTypes := #[]
  staticTypes := #[]
  resolved := Array.replicate 8 none
  statics := none }

def pool4 : Array CpInfo := pool [(1, u "java/io/Serializable"), (0, .class_ 1), (0, u "java/lang/Object"), (0, .class_ 3)] 3

/-- java/io/Serializable -/
def k4 : Class := { plain "java/io/Serializable" (some 0) with
  accessFlags := 1537
  interfaces := #[]
  cf := some (fileOf pool4 2 #[] #[] 1537 4 #[] #[])
  fields := #[]
  methods := #[]
  instanceTypes := #[]
  staticTypes := #[]
  resolved := Array.replicate 8 none
  statics := none }

/-- the primitive byte -/
def k5 : Class := { plain "byte" none with kind := .primitive 'B', accessFlags := 0x411 }
/-- [B -/
def k6 : Class := { plain "[B" (some 0) with kind := .array 5 .byte, interfaces := #[3, 4], accessFlags := 1041 }

/-- the primitive int -/
def k7 : Class := { plain "int" none with kind := .primitive 'I', accessFlags := 0x411 }
/-- [I -/
def k8 : Class := { plain "[I" (some 0) with kind := .array 7 .int, interfaces := #[3, 4], accessFlags := 1041 }

def heap : Heap := #[]
def classes : Array Class := #[k0, k1, k2, k3, k4, k5, k6, k7, k8]
def interned : List (Array UInt16 × Addr) := []
def slotsUsed : Nat := 0
def theMethod : MethodId := ⟨1, 1⟩
def args0 : Array Value := #[.long 5]
def aboutOver (below : List Frame) : State where
  vm := { classes := classes, interned := interned.toArray }
  heap := heap
  slotsUsed := slotsUsed
  threads := #[{ frames := .invoking theMethod args0 :: below }]
def below0 : List Frame := [.native { method := ⟨0, 0⟩, args := #[] }]
def about1 : State := aboutOver below0
def p0 : Program := .bare "" "" ""
def e0 : Env := launch0.env 0 0 0
theorem w_frames : about1.frames = Frame.invoking theMethod args0 :: below0 := rfl
set_option maxRecDepth 65536 in
theorem w_args : argsFit about1.vm theMethod args0 = true := by decide +kernel
set_option maxRecDepth 65536 in
theorem w_heap : heapFits about1 = true := by decide +kernel
set_option maxRecDepth 65536 in
theorem w_runnable : about1.curStatus? = some .runnable := by decide +kernel
set_option maxRecDepth 65536 in
theorem w_alone : about1.alone = true := by decide +kernel
set_option maxRecDepth 65536 in
theorem w_named : about1.methodNamed? x = some theMethod := by decide +kernel
set_option maxRecDepth 65536 in
theorem w_hears : about1.hears theMethod below0 = true := by decide +kernel
set_option maxRecDepth 65536 in
theorem w_ripe : about1.ripe theMethod args0 below0 = true := by decide +kernel
theorem w_running : about1.status = .running := rfl
set_option maxRecDepth 65536 in
theorem w_room : about1.hasRoom e0.platform room_1 = true :=
  launch0.hasRoom_least _ room_1 (by decide +kernel) (by decide +kernel) (by decide +kernel) (by decide +kernel) (by decide +kernel) (by decide +kernel)
theorem allAtoms_all (ts : List Jvm.Cond) (a : Array Jvm.Value) (st : Jvm.State) : (allAtoms ts).before a st = ts.all (fun c => c.before a st) := by
  induction ts with
  | nil => rfl
  | cons c t ih =>
    show (Jvm.Cond.and c (allAtoms t)).before a st = _
    rw [Jvm.Cond.before_and, ih, List.all_cons]
def words1 : List Jvm.Cond := Jvm.Cond.code x code maxLocals ret :: tables_1
/-- a 'code' word, met by the world's own term for the bytes: nothing is compared byte by byte -/
theorem code_word {y : MethodName} {bytes : ByteArray} {mx : Nat} {rt : Option FieldType} {a : Array Value} {s : State} {m : MethodId} {meth : Method} {c : Code} (h1 : s.methodNamed? y = some m) (h2 : s.vm.method? m = some meth) (h3 : meth.code = some c) (h4 : c.code = bytes)
    (h5 : (c.maxLocals == mx && c.exceptionTable.isEmpty && decide (c.maxStack ≤ mostOperands) && decide (meth.sig.returnType = rt) && !meth.locks && decide (parseMethodDescriptor y.desc = some meth.sig)) = true) : (Jvm.Cond.code y bytes mx rt).before a s = true := by
  simp only [Bool.and_eq_true, beq_iff_eq, Bool.not_eq_true', decide_eq_true_eq] at h5
  obtain ⟨⟨⟨⟨⟨g1, g2⟩, g3⟩, g4⟩, g5⟩, g6⟩ := h5
  simp [Cond.before, Cond.holds, Cond.value, h1, h2, h3, h4, g1, g2, g3, g4, g5, g6]
def isCode : Jvm.Cond → Bool
  | .code _ _ _ _ => true
  | _ => false
theorem all_split {L : List Jvm.Cond} {P : Jvm.Cond → Bool} (h1 : L.all (fun c => isCode c || P c) = true) (h2 : ∀ c ∈ L.filter isCode, P c = true) : L.all P = true := by
  refine List.all_eq_true.mpr fun c hc => ?_
  have h := List.all_eq_true.mp h1 c hc
  rcases Bool.eq_false_or_eq_true (isCode c) with hi | hi
  · exact h2 c (List.mem_filter.mpr ⟨hc, hi⟩)
  · simpa [hi] using h
set_option maxRecDepth 65536 in
theorem w_c0 : (Jvm.Cond.code x code maxLocals ret).before args0 about1 = true := code_word (m := ⟨1, 1⟩) (meth := k1m1) (c := k1c1) (by decide +kernel) rfl rfl rfl (by decide +kernel)
set_option maxRecDepth 65536 in
theorem w_c1 : (Jvm.Cond.code ({ cls := "com/example/sumbit/sumbit/data/Footprints", name := "array", desc := "(J)J" } : Jvm.MethodName) prog_3_method_2_code (2 : Nat) (Option.some Jvm.ClassFile.FieldType.long)).before args0 about1 = true := code_word (m := ⟨2, 1⟩) (meth := k2m1) (c := k2c1) (by decide +kernel) rfl rfl rfl (by decide +kernel)
def codes1 : List Jvm.Cond := [Jvm.Cond.code x code maxLocals ret, Jvm.Cond.code ({ cls := "com/example/sumbit/sumbit/data/Footprints", name := "array", desc := "(J)J" } : Jvm.MethodName) prog_3_method_2_code (2 : Nat) (Option.some Jvm.ClassFile.FieldType.long)]
set_option maxRecDepth 65536 in
theorem codes_eq : words1.filter isCode = codes1 := rfl
theorem w_codes : ∀ c ∈ words1.filter isCode, c.before args0 about1 = true := by
  rw [codes_eq]
  intro c hc
  simp only [codes1, List.mem_cons, List.not_mem_nil, or_false] at hc
  rcases hc with rfl | rfl
  · exact w_c0
  · exact w_c1
set_option maxRecDepth 65536 in
theorem w_t1 : words1.all (fun c => isCode c || c.before args0 about1) = true := by decide +kernel
theorem w_tables : (allAtoms (Jvm.Cond.code x code maxLocals ret :: tables_1)).before args0 about1 = true := by
  rw [allAtoms_all]
  show words1.all (fun c => c.before args0 about1) = true
  refine all_split ?_ w_codes
  rw [w_t1]
set_option maxRecDepth 65536 in
theorem w_case : (Jvm.Cond.and given_1 narrow_1).before args0 about1 = true := by decide +kernel
theorem w_applies : (headSpec (Jvm.Cond.code x code maxLocals ret :: tables_1) room_1).applies x e0.platform about1 = true :=
  (Spec.applies_iff w_frames).mpr ⟨w_running, w_runnable, w_alone, w_named, w_hears, w_ripe, w_room, w_tables⟩
theorem atStart : AtStart classFile x code maxLocals ret World_1 tables_1 room_1 Calls_1 rest_1 Pre_1 launch0 p0 e0 about1 theMethod args0 below0 :=
  ⟨lists_1, trivial, launch0.admits_env _ _ _, launch0.least_env, fairChoices_fair.cas, fairChoices_fair.clock, w_frames, w_args, w_heap, w_applies, trivial, trivial, w_case⟩
end start1
theorem witness_1 : WitnessClaimed_1 := ⟨start1.p0, start1.e0, start1.about1, start1.theMethod, start1.args0, start1.below0, start1.atStart⟩
end Jvm.Pilot.@@N@@

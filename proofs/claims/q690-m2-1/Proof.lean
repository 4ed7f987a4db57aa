import JvmDerived
import JvmDerived.Pilot.@@N@@Statement
import JvmDerived.Pilot.@@N@@Code
set_option linter.unusedVariables false
set_option linter.unusedSimpArgs false
namespace Jvm.Pilot.@@N@@.OwnKit
open Jvm Sem ClassFile Op Lib Jvm.Stand Jvm.Free Jvm.LawKit Jvm.RoadKit
section New
variable {p : Program} {l : Launch} {e : Env} {R : Room} {s : State} {m : MethodId} {args : Array Value} {below : List Frame} {meth : Method} {c : Code} {T : State} {locs : List Loc} {cells slots : Nat}
theorem retI (X : Stand p l e R s m args below meth c T locs cells slots) (hx : p.tables.exec = Jvm.exec) {pc : Nat} {Ls : Array Slot} {z : Int32} {rest : List Value} (hret : meth.sig.returnType = some .int) (hd : decode c.code pc = .ok (.ireturn, 1)) {fs : List Frame}
    (hl : ∀ (f : JFrame) (acts : List Action), f.method = m → f.locked = none → f.entered = [] → (doReturn e (T.setTop f) acts (some (.int z))).1 = T.setFrames fs) : Steps p.tables e below (T.setTop (mkF m pc Ls (.int z :: rest))) (T.setFrames fs) :=
  retOut X hx hret rfl (Or.inl ⟨rfl, Or.inl rfl, _, rfl⟩) hd hl
theorem lremM {g : JFrame} {target : State} (X : Stand p l e R s m args below meth c T locs cells slots) (hx : p.tables.exec = Jvm.exec) (hg : g.method = m) {x y : Int64} {rest : List Value} (hd : decode c.code g.pc = .ok (.lrem, 1)) (hs : g.stack = .long y :: .long x :: rest) (hy : y ≠ 0)
    (hr : Steps p.tables e below (T.setTop { g with pc := g.pc + 1, stack := .long (x % y) :: rest }) target) : Steps p.tables e below (T.setTop g) target := by
  have q : x - x / y * y = x % y := by
    have g1 := rng64 (x % y)
    have g2 : (x % y).toInt = x.toInt.tmod y.toInt := Int64.toInt_mod x y
    have g3 := Int.tmod_def x.toInt y.toInt
    have g4 : (x / y).toInt = (x.toInt.tdiv y.toInt).bmod (2 ^ 64) := Int64.toInt_div x y
    apply Int64.toInt_inj.mp
    rw [Int64.toInt_sub, Int64.toInt_mul, g4, Int.bmod_mul_bmod, Int.sub_bmod_bmod, Int.mul_comm (x.toInt.tdiv y.toInt), ← g3, ← g2]
    exact Int.bmod_eq_of_le_mul_two (by omega) (by omega)
  exact XS.lrem X.here hx hg hd hs hy (by rw [q]; exact hr)
end New
/-- from here the run ends, and as G says -/
def Goes (tb : Tables) (e : Env) (below : List Frame) (t : State) (G : State → Outcome → Prop) : Prop := ∃ s₂ o, Steps tb e below t s₂ ∧ s₂.status = .running ∧ Ended s₂ below o ∧ G s₂ o
variable {tb : Tables} {e : Env} {below : List Frame} {t t' : State} {G : State → Outcome → Prop}
theorem Goes.by (k : ∀ u, Steps tb e below t' u → Steps tb e below t u) (h : Goes tb e below t' G) : Goes tb e below t G := by
  obtain ⟨s₂, o, h1, h2⟩ := h; exact ⟨s₂, o, k _ h1, h2⟩
theorem Goes.via (k : Steps tb e below t t') (h : Goes tb e below t' G) : Goes tb e below t G := by
  obtain ⟨s₂, o, h1, h2⟩ := h; exact ⟨s₂, o, k.trans h1, h2⟩
theorem jl_t {x y : Int64} (h : x < y) : ifCond.holds .lt (lcmpW x y) = true ∧ ifCond.holds .ge (lcmpW x y) = false := ⟨(if0 _ _).trans (tlt ((lw_lt x y).mpr h)).1, (if0 _ _).trans (tlt ((lw_lt x y).mpr h)).2.1⟩
theorem jl_f {x y : Int64} (h : ¬ x < y) : ifCond.holds .lt (lcmpW x y) = false ∧ ifCond.holds .ge (lcmpW x y) = true := ⟨(if0 _ _).trans (flt (fun q => h ((lw_lt x y).mp q))).1, (if0 _ _).trans (flt (fun q => h ((lw_lt x y).mp q))).2.1⟩
theorem jg_t {x y : Int64} (h : y < x) : ifCond.holds .gt (lcmpW x y) = true ∧ ifCond.holds .le (lcmpW x y) = false := ⟨(if0 _ _).trans (tlt ((lw_gt x y).mpr h)).2.2.1, (if0 _ _).trans (tlt ((lw_gt x y).mpr h)).2.2.2⟩
theorem jg_f {x y : Int64} (h : ¬ y < x) : ifCond.holds .gt (lcmpW x y) = false ∧ ifCond.holds .le (lcmpW x y) = true := ⟨(if0 _ _).trans (flt (fun q => h ((lw_gt x y).mp q))).2.2.1, (if0 _ _).trans (flt (fun q => h ((lw_gt x y).mp q))).2.2.2⟩
theorem je_t {x y : Int64} (h : x = y) : ifCond.holds .eq (lcmpW x y) = true ∧ ifCond.holds .ne (lcmpW x y) = false := ⟨(if0 _ _).trans (teq ((lw_eq x y).mpr h)).1, (if0 _ _).trans (teq ((lw_eq x y).mpr h)).2⟩
theorem je_f {x y : Int64} (h : ¬ x = y) : ifCond.holds .eq (lcmpW x y) = false ∧ ifCond.holds .ne (lcmpW x y) = true := ⟨(if0 _ _).trans (feq (fun q => h ((lw_eq x y).mp q))).1, (if0 _ _).trans (feq (fun q => h ((lw_eq x y).mp q))).2⟩
theorem selP {Z s : State} {a0 args : Array Value} {y : MethodName} {n : Nat} (hZ : Z.Warmed39 s.vm) (wi : (Cond.instantiable y.cls n).before a0 Z = true) (wp : (Cond.privateMethod y).before a0 Z = true) (win : (Cond.instanceMethod y).before a0 Z = true) (hy : y.cls ≠ "java/lang/invoke/MethodHandle" ∧ y.cls ≠ "java/lang/invoke/VarHandle") : (Cond.selects y.cls y y).before args s = true := by
  have w1 : (Cond.instantiable y.cls n).before args s = true := mv hZ wi
  obtain ⟨c, k, h1, h2, -, h4, -⟩ := Cond.instantiable_spec w1
  rw [Bool.or_eq_false_iff] at h4
  exact selects_self_of_private h1 h2 h4.1 (Cond.privateMethod_at (mvP hZ wp (args := args))) (mv hZ win) hy
theorem narR {t : FieldType} {w : Value} (h : t.isReference = true) : narrow t w = w := by cases t <;> first | (cases h; done) | (cases w <;> rfl)
end Jvm.Pilot.@@N@@.OwnKit
namespace Jvm.Pilot.@@N@@
open Jvm Jvm.ClassFile Sem Op Lib Jvm.Free Jvm.Stand Jvm.LawKit Jvm.RoadKit Bundle Jvm.Pilot.@@N@@.Jvm.D Jvm.Pilot.@@N@@.OwnKit
theorem d2_0 : decode jdk_30_method_1_code 0 = .ok (.aload_n 0, 1) := by decide +kernel
theorem d2_1 : decode jdk_30_method_1_code 1 = .ok (.invokespecial 1, 3) := by decide +kernel
theorem d2_4 : decode jdk_30_method_1_code 4 = .ok (.return_, 1) := by decide +kernel
theorem pn_0 : plainName "java/lang/Record" = true := by first | (simp [plainName, overriddenIn]; done) | decide +kernel
theorem ef2 (m : MethodId) (oa : Addr) : entryFrame m #[(.ref oa)] 1 = mkF m 0 #[.val (.ref oa)] [] := by first | (simp [entryFrame, mkF, argsToLocals, Value.category]; done) | rfl
def Q2 (Z : State) (oa : Addr) (h0 : Heap) (n0 : Nat) (v : Option Value) (h : Heap) (L : List Loc) : Prop := v = none ∧ Fr n0 L ∧ h = h0
set_option maxRecDepth 65536 in
set_option maxHeartbeats 40000000 in
theorem rm2 (l : Launch) (Z : State) (a0 : Array Value) (hw : ∀ d ∈ tables_1, d.before a0 Z = true) (ws : List Jvm.Cond) (oa : Addr) (h0 : Heap) (n0 : Nat) (Z0 : n0 ≤ h0.size) :
    MetFree l (⟨"java/lang/Record", "<init>", "()V"⟩ : MethodName) (head1 (Jvm.Cond.code (⟨"java/lang/Record", "<init>", "()V"⟩ : MethodName) jdk_30_method_1_code 1 none :: ws) ({ frames := 1, cells := 0, slots := 0, locals := 12 } : Room)) (fun a U => a = #[(.ref oa)] ∧ Z.Warmed39 U.vm ∧ U.heap = h0) (fun _ _ _ _ _ => True) (fun _ U o U' => ∃ v L, o = .returned v ∧ Q2 Z oa h0 n0 v U'.heap L ∧ FrameEnd U o U' L ({ frames := 1, cells := 0, slots := 0, locals := 12 } : Room).cells ({ frames := 1, cells := 0, slots := 0, locals := 12 } : Room).slots) := by
  refine MetFree.of_bodySF (plainFor_of_name pn_0) hisR ?_
  intro p e s m args below meth c s₁ Bd hml0 hP hK
  obtain ⟨rfl, hZ, hh⟩ := hP
  have hx := Bd.exec
  have hby := Bd.bytes
  have hml : c.maxLocals = 1 := hml0
  have hown : s.vm.findClass "java/lang/Record" = some m.cls := findClass_of_methodNamed Bd.named
  have hnm := (name_of_methodNamed Bd.named Bd.method).1
  have X0 : Stand p l e ({ frames := 1, cells := 0, slots := 0, locals := 12 } : Room) s m #[(.ref oa)] below meth c s₁ [] 0 0 := Stand.of_body Bd
  have e0 : s₁.heap = h0 := by rw [← hh, Bd.state]; rfl
  have N0 := Fr.nil n0
  refine Goes.by (fun _ k => castTop (ef2 m oa) k) ?_
  show Goes p.tables e below (s₁.setTop (mkF m 0 #[.val (.ref oa)] [])) _
  refine Goes.by (fun _ k => XS.aloadN X0.here hx rfl (hb hby d2_0) rfl rfl k) ?_
  show Goes p.tables e below (s₁.setTop (mkF m 1 #[.val (.ref oa)] [(.ref oa)])) _
  obtain ⟨T1, X1, e1, st1⟩ := initO X0 hx hZ hown (hw _ (List.mem_of_getElem? (i := 11) rfl)) (hw _ (List.mem_of_getElem? (i := 12) rfl)) (hw _ (List.mem_of_getElem? (i := 13) rfl)) e0 (g := (mkF m 1 #[.val (.ref oa)] [(.ref oa)])) rfl (by rw [hml]; rfl) rfl (hb hby d2_1) (by decide) (W := 0) (by show 2 * 0 + _ ≤ _; exact Nat.le_of_eq rfl) (by decide)
  refine Goes.by st1 ?_
  show Goes p.tables e below (T1.setTop (mkF m 4 #[.val (.ref oa)] [])) _
  obtain ⟨fs, hr, hrun, hended, hW, hsame⟩ := X1.leave (v := none) (fun _ => rfl)
  refine ⟨_, _, X1.returnOut hx Bd.returns (hb hby d2_4) hr, hrun, hended, _, _, rfl, ?_, ⟨_, rfl⟩, hW, hsame.mono (by decide) (by decide)⟩
  show Q2 Z oa h0 n0 _ T1.heap _
  rw [e1]
  exact ⟨rfl, N0, rfl⟩
theorem d1_0 : decode prog_30_method_1_code 0 = .ok (.aload_n 0, 1) := by decide +kernel
theorem d1_1 : decode prog_30_method_1_code 1 = .ok (.invokespecial 1, 3) := by decide +kernel
theorem pd_0 : parseMethodDescriptor "()V" = some ⟨[], none⟩ := by decide +kernel
theorem d1_4 : decode prog_30_method_1_code 4 = .ok (.aload_n 0, 1) := by decide +kernel
theorem d1_5 : decode prog_30_method_1_code 5 = .ok (.lload_n 1, 1) := by decide +kernel
theorem d1_6 : decode prog_30_method_1_code 6 = .ok (.putfield 7, 3) := by decide +kernel
theorem d1_9 : decode prog_30_method_1_code 9 = .ok (.aload_n 0, 1) := by decide +kernel
theorem d1_10 : decode prog_30_method_1_code 10 = .ok (.lload_n 3, 1) := by decide +kernel
theorem d1_11 : decode prog_30_method_1_code 11 = .ok (.putfield 13, 3) := by decide +kernel
theorem d1_14 : decode prog_30_method_1_code 14 = .ok (.aload_n 0, 1) := by decide +kernel
theorem d1_15 : decode prog_30_method_1_code 15 = .ok (.iload 5, 2) := by decide +kernel
theorem d1_17 : decode prog_30_method_1_code 17 = .ok (.putfield 16, 3) := by decide +kernel
theorem d1_20 : decode prog_30_method_1_code 20 = .ok (.return_, 1) := by decide +kernel
theorem pn_1 : plainName "com/example/gongshu/gongshu/store/DelayedMessages$Due" = true := by first | (simp [plainName, overriddenIn]; done) | decide +kernel
theorem ef1 (m : MethodId) (oa : Addr) (pt : Int64) (po : Int64) (pb : Int32) : entryFrame m #[(.ref oa), (.long pt), (.long po), (.int pb)] 6 = mkF m 0 #[.val (.ref oa), .val (.long pt), .second, .val (.long po), .second, .val (.int pb)] [] := by first | (simp [entryFrame, mkF, argsToLocals, Value.category]; done) | rfl
def Q1 (Z : State) (oa : Addr) (pt : Int64) (po : Int64) (pb : Int32) (h0 : Heap) (n0 : Nat) (v : Option Value) (h : Heap) (L : List Loc) : Prop := v = none ∧ Fr n0 L ∧ Keep h0 h [oa] ∧ Exa Z h oa "com/example/gongshu/gongshu/store/DelayedMessages$Due" ∧ Fld Z h oa "com/example/gongshu/gongshu/store/DelayedMessages$Due" "dueTime" "J" (.long pt) ∧ Fld Z h oa "com/example/gongshu/gongshu/store/DelayedMessages$Due" "offset" "J" (.long po) ∧ Fld Z h oa "com/example/gongshu/gongshu/store/DelayedMessages$Due" "bodyBytes" "I" (.int pb)
set_option maxRecDepth 65536 in
set_option maxHeartbeats 40000000 in
theorem rm1 (l : Launch) (Z : State) (a0 : Array Value) (hw : ∀ d ∈ tables_1, d.before a0 Z = true) (ws : List Jvm.Cond) (oa : Addr) (pt : Int64) (po : Int64) (pb : Int32) (h0 : Heap) (n0 : Nat) (Z0 : n0 ≤ h0.size) (E_oa : Exa Z h0 oa "com/example/gongshu/gongshu/store/DelayedMessages$Due") (F_oa_dueTime : Fld Z h0 oa "com/example/gongshu/gongshu/store/DelayedMessages$Due" "dueTime" "J" (.long (0 : Int64))) (F_oa_offset : Fld Z h0 oa "com/example/gongshu/gongshu/store/DelayedMessages$Due" "offset" "J" (.long (0 : Int64))) (F_oa_bodyBytes : Fld Z h0 oa "com/example/gongshu/gongshu/store/DelayedMessages$Due" "bodyBytes" "I" (.int (0 : Int32))) (g_oa : n0 ≤ oa) :
    MetFree l (⟨"com/example/gongshu/gongshu/store/DelayedMessages$Due", "<init>", "(JJI)V"⟩ : MethodName) (head1 (Jvm.Cond.code (⟨"com/example/gongshu/gongshu/store/DelayedMessages$Due", "<init>", "(JJI)V"⟩ : MethodName) prog_30_method_1_code 6 none :: ws) ({ frames := 2, cells := 0, slots := 0, locals := 24 } : Room)) (fun a U => a = #[(.ref oa), (.long pt), (.long po), (.int pb)] ∧ Z.Warmed39 U.vm ∧ U.heap = h0) (fun _ _ _ _ _ => True) (fun _ U o U' => ∃ v L, o = .returned v ∧ Q1 Z oa pt po pb h0 n0 v U'.heap L ∧ FrameEnd U o U' L ({ frames := 2, cells := 0, slots := 0, locals := 24 } : Room).cells ({ frames := 2, cells := 0, slots := 0, locals := 24 } : Room).slots) := by
  refine MetFree.of_bodySF (plainFor_of_name pn_1) hisR ?_
  intro p e s m args below meth c s₁ Bd hml0 hP hK
  obtain ⟨rfl, hZ, hh⟩ := hP
  have hx := Bd.exec
  have hby := Bd.bytes
  have hml : c.maxLocals = 6 := hml0
  have hown : s.vm.findClass "com/example/gongshu/gongshu/store/DelayedMessages$Due" = some m.cls := findClass_of_methodNamed Bd.named
  have hnm := (name_of_methodNamed Bd.named Bd.method).1
  have X0 : Stand p l e ({ frames := 2, cells := 0, slots := 0, locals := 24 } : Room) s m #[(.ref oa), (.long pt), (.long po), (.int pb)] below meth c s₁ [] 0 0 := Stand.of_body Bd
  have e0 : s₁.heap = h0 := by rw [← hh, Bd.state]; rfl
  have N0 := Fr.nil n0
  refine Goes.by (fun _ k => castTop (ef1 m oa pt po pb) k) ?_
  show Goes p.tables e below (s₁.setTop (mkF m 0 #[.val (.ref oa), .val (.long pt), .second, .val (.long po), .second, .val (.int pb)] [])) _
  refine Goes.by (fun _ k => XS.aloadN X0.here hx rfl (hb hby d1_0) rfl rfl k) ?_
  show Goes p.tables e below (s₁.setTop (mkF m 1 #[.val (.ref oa), .val (.long pt), .second, .val (.long po), .second, .val (.int pb)] [(.ref oa)])) _
  obtain ⟨_, _, ⟨T1, L1, k1, n1⟩, -, X1, ⟨Lc1, hQ1, l1, y1, z1⟩, st1⟩ := X0.specialBack hx (y := (⟨"java/lang/Record", "<init>", "()V"⟩ : MethodName)) rfl hown (mvT hZ (hw _ (List.mem_of_getElem? (i := 6) rfl))) (mvT hZ (hw _ (List.mem_of_getElem? (i := 7) rfl))) (mvT hZ (hw _ (List.mem_of_getElem? (i := 10) rfl))) (by decide) (backOf (W := 0) (rm2 l Z a0 hw [] oa h0 n0 Z0) hZ (hw _ (List.mem_of_getElem? (i := 10) rfl)) (hw _ (List.mem_of_getElem? (i := 9) rfl)) (by decide) (by decide)) (g := (mkF m 1 #[.val (.ref oa), .val (.long pt), .second, .val (.long po), .second, .val (.int pb)] [(.ref oa)])) rfl (by rw [hml]; rfl) (Steps.refl _) (a := oa) (argsL := []) (rest := []) (lenOf pd_0 rfl) rfl (by show 2 * 0 + _ ≤ _; exact Nat.le_of_eq rfl) (hb hby d1_1) (fun _ _ => ⟨rfl, e0, (by decide : 0 + 0 ≤ _), (by decide : 0 + 0 ≤ _)⟩)
  dsimp only [Pt.U, Pt.locs, Pt.cells, Pt.slots] at X1 l1 y1 z1 st1 hQ1
  subst l1 y1 z1
  obtain ⟨rfl, N1q, e1⟩ := hQ1
  have N1 := Fr.app N0 N1q
  refine Goes.via st1 ?_
  show Goes p.tables e below (T1.setTop (mkF m 4 #[.val (.ref oa), .val (.long pt), .second, .val (.long po), .second, .val (.int pb)] [])) _
  refine Goes.by (fun _ k => XS.aloadN X1.here hx rfl (hb hby d1_4) rfl rfl k) ?_
  show Goes p.tables e below (T1.setTop (mkF m 5 #[.val (.ref oa), .val (.long pt), .second, .val (.long po), .second, .val (.int pb)] [(.ref oa)])) _
  refine Goes.by (fun _ k => XS.lloadN X1.here hx rfl (hb hby d1_5) rfl k) ?_
  show Goes p.tables e below (T1.setTop (mkF m 6 #[.val (.ref oa), .val (.long pt), .second, .val (.long po), .second, .val (.int pb)] [(.long pt), (.ref oa)])) _
  obtain ⟨T2, h2, X2, e2, W2, st2⟩ := putF X1 hx hZ hown (host := "") (Or.inl (hw _ (List.mem_of_getElem? (i := 14) rfl))) Via.refl e1 F_oa_dueTime E_oa (Or.inr ⟨(hw _ (List.mem_of_getElem? (i := 15) rfl)), rfl, hnm⟩) (hw _ (List.mem_of_getElem? (i := 1) rfl)) (ty := .long) (by decide) rfl rfl (g := (mkF m 6 #[.val (.ref oa), .val (.long pt), .second, .val (.long po), .second, .val (.int pb)] [(.long pt), (.ref oa)])) rfl rfl (hb hby d1_6)
  refine Goes.by st2 ?_
  have F_oa_dueTime : Fld Z h2 oa "com/example/gongshu/gongshu/store/DelayedMessages$Due" "dueTime" "J" (.long pt) := F_oa_dueTime.same W2
  have N2 := Fr.snoc X2 N1 g_oa
  have Zs2 : n0 ≤ h2.size := Nat.le_trans Z0 (Keep.of_wr W2).1
  have K2 : Keep h0 h2 [oa] := (Keep.refl h0 [oa]).wr W2 (Or.inl (List.mem_of_getElem? (i := 0) rfl))
  have E_oa : Exa Z h2 oa "com/example/gongshu/gongshu/store/DelayedMessages$Due" := E_oa.wr W2
  have F_oa_offset : Fld Z h2 oa "com/example/gongshu/gongshu/store/DelayedMessages$Due" "offset" "J" (.long (0 : Int64)) := F_oa_offset.other W2 (Or.inr (slot_ne (Or.inr (hw _ (List.mem_of_getElem? (i := 17) rfl))) (Or.inr (hw _ (List.mem_of_getElem? (i := 15) rfl))) (by decide) (t := .long) (t' := .long) (by decide) (by decide)))
  have F_oa_bodyBytes : Fld Z h2 oa "com/example/gongshu/gongshu/store/DelayedMessages$Due" "bodyBytes" "I" (.int (0 : Int32)) := F_oa_bodyBytes.other W2 (Or.inr (slot_ne (Or.inr (hw _ (List.mem_of_getElem? (i := 19) rfl))) (Or.inr (hw _ (List.mem_of_getElem? (i := 15) rfl))) (by decide) (t := .int) (t' := .long) (by decide) (by decide)))
  show Goes p.tables e below (T2.setTop (mkF m 9 #[.val (.ref oa), .val (.long pt), .second, .val (.long po), .second, .val (.int pb)] [])) _
  refine Goes.by (fun _ k => XS.aloadN X2.here hx rfl (hb hby d1_9) rfl rfl k) ?_
  show Goes p.tables e below (T2.setTop (mkF m 10 #[.val (.ref oa), .val (.long pt), .second, .val (.long po), .second, .val (.int pb)] [(.ref oa)])) _
  refine Goes.by (fun _ k => XS.lloadN X2.here hx rfl (hb hby d1_10) rfl k) ?_
  show Goes p.tables e below (T2.setTop (mkF m 11 #[.val (.ref oa), .val (.long pt), .second, .val (.long po), .second, .val (.int pb)] [(.long po), (.ref oa)])) _
  obtain ⟨T3, h3, X3, e3, W3, st3⟩ := putF X2 hx hZ hown (host := "") (Or.inl (hw _ (List.mem_of_getElem? (i := 16) rfl))) Via.refl e2 F_oa_offset E_oa (Or.inr ⟨(hw _ (List.mem_of_getElem? (i := 17) rfl)), rfl, hnm⟩) (hw _ (List.mem_of_getElem? (i := 1) rfl)) (ty := .long) (by decide) rfl rfl (g := (mkF m 11 #[.val (.ref oa), .val (.long pt), .second, .val (.long po), .second, .val (.int pb)] [(.long po), (.ref oa)])) rfl rfl (hb hby d1_11)
  refine Goes.by st3 ?_
  have F_oa_offset : Fld Z h3 oa "com/example/gongshu/gongshu/store/DelayedMessages$Due" "offset" "J" (.long po) := F_oa_offset.same W3
  have N3 := Fr.snoc X3 N2 g_oa
  have Zs3 : n0 ≤ h3.size := Nat.le_trans Zs2 (Keep.of_wr W3).1
  have K3 : Keep h0 h3 [oa] := K2.wr W3 (Or.inl (List.mem_of_getElem? (i := 0) rfl))
  have E_oa : Exa Z h3 oa "com/example/gongshu/gongshu/store/DelayedMessages$Due" := E_oa.wr W3
  have F_oa_dueTime : Fld Z h3 oa "com/example/gongshu/gongshu/store/DelayedMessages$Due" "dueTime" "J" (.long pt) := F_oa_dueTime.other W3 (Or.inr (slot_ne (Or.inr (hw _ (List.mem_of_getElem? (i := 15) rfl))) (Or.inr (hw _ (List.mem_of_getElem? (i := 17) rfl))) (by decide) (t := .long) (t' := .long) (by decide) (by decide)))
  have F_oa_bodyBytes : Fld Z h3 oa "com/example/gongshu/gongshu/store/DelayedMessages$Due" "bodyBytes" "I" (.int (0 : Int32)) := F_oa_bodyBytes.other W3 (Or.inr (slot_ne (Or.inr (hw _ (List.mem_of_getElem? (i := 19) rfl))) (Or.inr (hw _ (List.mem_of_getElem? (i := 17) rfl))) (by decide) (t := .int) (t' := .long) (by decide) (by decide)))
  show Goes p.tables e below (T3.setTop (mkF m 14 #[.val (.ref oa), .val (.long pt), .second, .val (.long po), .second, .val (.int pb)] [])) _
  refine Goes.by (fun _ k => XS.aloadN X3.here hx rfl (hb hby d1_14) rfl rfl k) ?_
  show Goes p.tables e below (T3.setTop (mkF m 15 #[.val (.ref oa), .val (.long pt), .second, .val (.long po), .second, .val (.int pb)] [(.ref oa)])) _
  refine Goes.by (fun _ k => XS.iload X3.here hx rfl (hb hby d1_15) rfl k) ?_
  show Goes p.tables e below (T3.setTop (mkF m 17 #[.val (.ref oa), .val (.long pt), .second, .val (.long po), .second, .val (.int pb)] [(.int pb), (.ref oa)])) _
  obtain ⟨T4, h4, X4, e4, W4, st4⟩ := putF X3 hx hZ hown (host := "") (Or.inl (hw _ (List.mem_of_getElem? (i := 18) rfl))) Via.refl e3 F_oa_bodyBytes E_oa (Or.inr ⟨(hw _ (List.mem_of_getElem? (i := 19) rfl)), rfl, hnm⟩) (hw _ (List.mem_of_getElem? (i := 1) rfl)) (ty := .int) (by decide) rfl rfl (g := (mkF m 17 #[.val (.ref oa), .val (.long pt), .second, .val (.long po), .second, .val (.int pb)] [(.int pb), (.ref oa)])) rfl rfl (hb hby d1_17)
  refine Goes.by st4 ?_
  have F_oa_bodyBytes : Fld Z h4 oa "com/example/gongshu/gongshu/store/DelayedMessages$Due" "bodyBytes" "I" (.int pb) := F_oa_bodyBytes.same W4
  have N4 := Fr.snoc X4 N3 g_oa
  have Zs4 : n0 ≤ h4.size := Nat.le_trans Zs3 (Keep.of_wr W4).1
  have K4 : Keep h0 h4 [oa] := K3.wr W4 (Or.inl (List.mem_of_getElem? (i := 0) rfl))
  have E_oa : Exa Z h4 oa "com/example/gongshu/gongshu/store/DelayedMessages$Due" := E_oa.wr W4
  have F_oa_dueTime : Fld Z h4 oa "com/example/gongshu/gongshu/store/DelayedMessages$Due" "dueTime" "J" (.long pt) := F_oa_dueTime.other W4 (Or.inr (slot_ne (Or.inr (hw _ (List.mem_of_getElem? (i := 15) rfl))) (Or.inr (hw _ (List.mem_of_getElem? (i := 19) rfl))) (by decide) (t := .long) (t' := .int) (by decide) (by decide)))
  have F_oa_offset : Fld Z h4 oa "com/example/gongshu/gongshu/store/DelayedMessages$Due" "offset" "J" (.long po) := F_oa_offset.other W4 (Or.inr (slot_ne (Or.inr (hw _ (List.mem_of_getElem? (i := 17) rfl))) (Or.inr (hw _ (List.mem_of_getElem? (i := 19) rfl))) (by decide) (t := .long) (t' := .int) (by decide) (by decide)))
  show Goes p.tables e below (T4.setTop (mkF m 20 #[.val (.ref oa), .val (.long pt), .second, .val (.long po), .second, .val (.int pb)] [])) _
  obtain ⟨fs, hr, hrun, hended, hW, hsame⟩ := X4.leave (v := none) (fun _ => rfl)
  refine ⟨_, _, X4.returnOut hx Bd.returns (hb hby d1_20) hr, hrun, hended, _, _, rfl, ?_, ⟨_, rfl⟩, hW, hsame.mono (by decide) (by decide)⟩
  show Q1 Z oa pt po pb h0 n0 _ T4.heap _
  rw [e4]
  exact ⟨rfl, N4, K4, E_oa, F_oa_dueTime, F_oa_offset, F_oa_bodyBytes⟩
theorem d4_0 : decode method_3_code 0 = .ok (.lload_n 0, 1) := by decide +kernel
theorem d4_1 : decode method_3_code 1 = .ok (.lload 4, 2) := by decide +kernel
theorem d4_3 : decode method_3_code 3 = .ok (.lcmp, 1) := by decide +kernel
theorem d4_4 : decode method_3_code 4 = .ok (.ifCond .ge 5, 3) := by decide +kernel
theorem d4_7 : decode method_3_code 7 = .ok (.iconst (-1), 1) := by decide +kernel
theorem d4_8 : decode method_3_code 8 = .ok (.ireturn, 1) := by decide +kernel
theorem d4_9 : decode method_3_code 9 = .ok (.lload_n 0, 1) := by decide +kernel
theorem d4_10 : decode method_3_code 10 = .ok (.lload 4, 2) := by decide +kernel
theorem d4_12 : decode method_3_code 12 = .ok (.lcmp, 1) := by decide +kernel
theorem d4_13 : decode method_3_code 13 = .ok (.ifCond .le 5, 3) := by decide +kernel
theorem d4_16 : decode method_3_code 16 = .ok (.iconst 1, 1) := by decide +kernel
theorem d4_17 : decode method_3_code 17 = .ok (.ireturn, 1) := by decide +kernel
theorem d4_18 : decode method_3_code 18 = .ok (.lload_n 2, 1) := by decide +kernel
theorem d4_19 : decode method_3_code 19 = .ok (.lload 6, 2) := by decide +kernel
theorem d4_21 : decode method_3_code 21 = .ok (.lcmp, 1) := by decide +kernel
theorem d4_22 : decode method_3_code 22 = .ok (.ifCond .ge 5, 3) := by decide +kernel
theorem d4_25 : decode method_3_code 25 = .ok (.iconst (-1), 1) := by decide +kernel
theorem d4_26 : decode method_3_code 26 = .ok (.ireturn, 1) := by decide +kernel
theorem d4_27 : decode method_3_code 27 = .ok (.lload_n 2, 1) := by decide +kernel
theorem d4_28 : decode method_3_code 28 = .ok (.lload 6, 2) := by decide +kernel
theorem d4_30 : decode method_3_code 30 = .ok (.lcmp, 1) := by decide +kernel
theorem d4_31 : decode method_3_code 31 = .ok (.ifCond .le 5, 3) := by decide +kernel
theorem d4_34 : decode method_3_code 34 = .ok (.iconst 1, 1) := by decide +kernel
theorem d4_35 : decode method_3_code 35 = .ok (.ireturn, 1) := by decide +kernel
theorem d4_36 : decode method_3_code 36 = .ok (.iconst 0, 1) := by decide +kernel
theorem d4_37 : decode method_3_code 37 = .ok (.ireturn, 1) := by decide +kernel
def fn4 (pt : Int64) (po : Int64) (pu : Int64) (pv : Int64) : Int32 := (if pt < pu then (-1 : Int32) else (if pu < pt then (1 : Int32) else (if po < pv then (-1 : Int32) else (if pv < po then (1 : Int32) else (0 : Int32)))))
theorem pn_2 : plainName "com/example/gongshu/gongshu/store/DueCompareToPinLaw" = true := by first | (simp [plainName, overriddenIn]; done) | decide +kernel
theorem ef4 (m : MethodId) (pt : Int64) (po : Int64) (pu : Int64) (pv : Int64) : entryFrame m #[(.long pt), (.long po), (.long pu), (.long pv)] 8 = mkF m 0 #[.val (.long pt), .second, .val (.long po), .second, .val (.long pu), .second, .val (.long pv), .second] [] := by first | (simp [entryFrame, mkF, argsToLocals, Value.category]; done) | rfl
def Q4 (Z : State) (pt : Int64) (po : Int64) (pu : Int64) (pv : Int64) (h0 : Heap) (n0 : Nat) (v : Option Value) (h : Heap) (L : List Loc) : Prop := v = some (.int (fn4 pt po pu pv)) ∧ Fr n0 L ∧ h = h0
set_option maxRecDepth 65536 in
set_option maxHeartbeats 40000000 in
theorem rm4 (l : Launch) (Z : State) (a0 : Array Value) (hw : ∀ d ∈ tables_1, d.before a0 Z = true) (ws : List Jvm.Cond) (pt : Int64) (po : Int64) (pu : Int64) (pv : Int64) (h0 : Heap) (n0 : Nat) (Z0 : n0 ≤ h0.size) :
    MetFree l (⟨"com/example/gongshu/gongshu/store/DueCompareToPinLaw", "expected", "(JJJJ)I"⟩ : MethodName) (head1 (Jvm.Cond.code (⟨"com/example/gongshu/gongshu/store/DueCompareToPinLaw", "expected", "(JJJJ)I"⟩ : MethodName) method_3_code 8 (some .int) :: ws) ({ frames := 0, cells := 0, slots := 0, locals := 0 } : Room)) (fun a U => a = #[(.long pt), (.long po), (.long pu), (.long pv)] ∧ Z.Warmed39 U.vm ∧ U.heap = h0) (fun _ _ _ _ _ => True) (fun _ U o U' => ∃ v L, o = .returned v ∧ Q4 Z pt po pu pv h0 n0 v U'.heap L ∧ FrameEnd U o U' L ({ frames := 0, cells := 0, slots := 0, locals := 0 } : Room).cells ({ frames := 0, cells := 0, slots := 0, locals := 0 } : Room).slots) := by
  refine MetFree.of_bodySF (plainFor_of_name pn_2) hisR ?_
  intro p e s m args below meth c s₁ Bd hml0 hP hK
  obtain ⟨rfl, hZ, hh⟩ := hP
  have hx := Bd.exec
  have hby := Bd.bytes
  have hml : c.maxLocals = 8 := hml0
  have hown : s.vm.findClass "com/example/gongshu/gongshu/store/DueCompareToPinLaw" = some m.cls := findClass_of_methodNamed Bd.named
  have hnm := (name_of_methodNamed Bd.named Bd.method).1
  have X0 : Stand p l e ({ frames := 0, cells := 0, slots := 0, locals := 0 } : Room) s m #[(.long pt), (.long po), (.long pu), (.long pv)] below meth c s₁ [] 0 0 := Stand.of_body Bd
  have e0 : s₁.heap = h0 := by rw [← hh, Bd.state]; rfl
  have N0 := Fr.nil n0
  refine Goes.by (fun _ k => castTop (ef4 m pt po pu pv) k) ?_
  show Goes p.tables e below (s₁.setTop (mkF m 0 #[.val (.long pt), .second, .val (.long po), .second, .val (.long pu), .second, .val (.long pv), .second] [])) _
  refine Goes.by (fun _ k => XS.lloadN X0.here hx rfl (hb hby d4_0) rfl k) ?_
  show Goes p.tables e below (s₁.setTop (mkF m 1 #[.val (.long pt), .second, .val (.long po), .second, .val (.long pu), .second, .val (.long pv), .second] [(.long pt)])) _
  refine Goes.by (fun _ k => XS.lload X0.here hx rfl (hb hby d4_1) rfl k) ?_
  show Goes p.tables e below (s₁.setTop (mkF m 3 #[.val (.long pt), .second, .val (.long po), .second, .val (.long pu), .second, .val (.long pv), .second] [(.long pu), (.long pt)])) _
  refine Goes.by (fun _ k => XS.lcmp X0.here hx rfl (hb hby d4_3) rfl k) ?_
  show Goes p.tables e below (s₁.setTop (mkF m 4 #[.val (.long pt), .second, .val (.long po), .second, .val (.long pu), .second, .val (.long pv), .second] [(.int (lcmpW pt pu))])) _
  by_cases hc1 : pt < pu
  · refine Goes.by (fun _ k => XS.ifNo X0.here hx rfl (hb hby d4_4) rfl (jl_t hc1).2 k) ?_
    show Goes p.tables e below (s₁.setTop (mkF m 7 #[.val (.long pt), .second, .val (.long po), .second, .val (.long pu), .second, .val (.long pv), .second] [])) _
    refine Goes.by (fun _ k => XS.iconst X0.here hx rfl (hb hby d4_7) k) ?_
    show Goes p.tables e below (s₁.setTop (mkF m 8 #[.val (.long pt), .second, .val (.long po), .second, .val (.long pu), .second, .val (.long pv), .second] [(.int (-1 : Int32))])) _
    obtain ⟨fs, hr, hrun, hended, hW, hsame⟩ := X0.leave (v := some (.int (-1 : Int32))) (fun h => by rw [Bd.returns] at h; cases h)
    refine ⟨_, _, retI X0 hx Bd.returns (hb hby d4_8) hr, hrun, hended, _, _, rfl, ?_, ⟨_, rfl⟩, hW, hsame.mono (by decide) (by decide)⟩
    show Q4 Z pt po pu pv h0 n0 _ s₁.heap _
    rw [e0]
    exact ⟨(by rw [fn4, if_pos hc1]), N0, rfl⟩
  · refine Goes.by (fun _ k => XS.ifYes X0.here hx rfl (pc0 := 4) (pc' := 9) rfl (hb hby d4_4) rfl (jl_f hc1).2 (by decide) (by decide) k) ?_
    show Goes p.tables e below (s₁.setTop (mkF m 9 #[.val (.long pt), .second, .val (.long po), .second, .val (.long pu), .second, .val (.long pv), .second] [])) _
    refine Goes.by (fun _ k => XS.lloadN X0.here hx rfl (hb hby d4_9) rfl k) ?_
    show Goes p.tables e below (s₁.setTop (mkF m 10 #[.val (.long pt), .second, .val (.long po), .second, .val (.long pu), .second, .val (.long pv), .second] [(.long pt)])) _
    refine Goes.by (fun _ k => XS.lload X0.here hx rfl (hb hby d4_10) rfl k) ?_
    show Goes p.tables e below (s₁.setTop (mkF m 12 #[.val (.long pt), .second, .val (.long po), .second, .val (.long pu), .second, .val (.long pv), .second] [(.long pu), (.long pt)])) _
    refine Goes.by (fun _ k => XS.lcmp X0.here hx rfl (hb hby d4_12) rfl k) ?_
    show Goes p.tables e below (s₁.setTop (mkF m 13 #[.val (.long pt), .second, .val (.long po), .second, .val (.long pu), .second, .val (.long pv), .second] [(.int (lcmpW pt pu))])) _
    by_cases hc2 : pu < pt
    · refine Goes.by (fun _ k => XS.ifNo X0.here hx rfl (hb hby d4_13) rfl (jg_t hc2).2 k) ?_
      show Goes p.tables e below (s₁.setTop (mkF m 16 #[.val (.long pt), .second, .val (.long po), .second, .val (.long pu), .second, .val (.long pv), .second] [])) _
      refine Goes.by (fun _ k => XS.iconst X0.here hx rfl (hb hby d4_16) k) ?_
      show Goes p.tables e below (s₁.setTop (mkF m 17 #[.val (.long pt), .second, .val (.long po), .second, .val (.long pu), .second, .val (.long pv), .second] [(.int (1 : Int32))])) _
      obtain ⟨fs, hr, hrun, hended, hW, hsame⟩ := X0.leave (v := some (.int (1 : Int32))) (fun h => by rw [Bd.returns] at h; cases h)
      refine ⟨_, _, retI X0 hx Bd.returns (hb hby d4_17) hr, hrun, hended, _, _, rfl, ?_, ⟨_, rfl⟩, hW, hsame.mono (by decide) (by decide)⟩
      show Q4 Z pt po pu pv h0 n0 _ s₁.heap _
      rw [e0]
      exact ⟨(by rw [fn4, if_neg hc1, if_pos hc2]), N0, rfl⟩
    · refine Goes.by (fun _ k => XS.ifYes X0.here hx rfl (pc0 := 13) (pc' := 18) rfl (hb hby d4_13) rfl (jg_f hc2).2 (by decide) (by decide) k) ?_
      show Goes p.tables e below (s₁.setTop (mkF m 18 #[.val (.long pt), .second, .val (.long po), .second, .val (.long pu), .second, .val (.long pv), .second] [])) _
      refine Goes.by (fun _ k => XS.lloadN X0.here hx rfl (hb hby d4_18) rfl k) ?_
      show Goes p.tables e below (s₁.setTop (mkF m 19 #[.val (.long pt), .second, .val (.long po), .second, .val (.long pu), .second, .val (.long pv), .second] [(.long po)])) _
      refine Goes.by (fun _ k => XS.lload X0.here hx rfl (hb hby d4_19) rfl k) ?_
      show Goes p.tables e below (s₁.setTop (mkF m 21 #[.val (.long pt), .second, .val (.long po), .second, .val (.long pu), .second, .val (.long pv), .second] [(.long pv), (.long po)])) _
      refine Goes.by (fun _ k => XS.lcmp X0.here hx rfl (hb hby d4_21) rfl k) ?_
      show Goes p.tables e below (s₁.setTop (mkF m 22 #[.val (.long pt), .second, .val (.long po), .second, .val (.long pu), .second, .val (.long pv), .second] [(.int (lcmpW po pv))])) _
      by_cases hc3 : po < pv
      · refine Goes.by (fun _ k => XS.ifNo X0.here hx rfl (hb hby d4_22) rfl (jl_t hc3).2 k) ?_
        show Goes p.tables e below (s₁.setTop (mkF m 25 #[.val (.long pt), .second, .val (.long po), .second, .val (.long pu), .second, .val (.long pv), .second] [])) _
        refine Goes.by (fun _ k => XS.iconst X0.here hx rfl (hb hby d4_25) k) ?_
        show Goes p.tables e below (s₁.setTop (mkF m 26 #[.val (.long pt), .second, .val (.long po), .second, .val (.long pu), .second, .val (.long pv), .second] [(.int (-1 : Int32))])) _
        obtain ⟨fs, hr, hrun, hended, hW, hsame⟩ := X0.leave (v := some (.int (-1 : Int32))) (fun h => by rw [Bd.returns] at h; cases h)
        refine ⟨_, _, retI X0 hx Bd.returns (hb hby d4_26) hr, hrun, hended, _, _, rfl, ?_, ⟨_, rfl⟩, hW, hsame.mono (by decide) (by decide)⟩
        show Q4 Z pt po pu pv h0 n0 _ s₁.heap _
        rw [e0]
        exact ⟨(by rw [fn4, if_neg hc1, if_neg hc2, if_pos hc3]), N0, rfl⟩
      · refine Goes.by (fun _ k => XS.ifYes X0.here hx rfl (pc0 := 22) (pc' := 27) rfl (hb hby d4_22) rfl (jl_f hc3).2 (by decide) (by decide) k) ?_
        show Goes p.tables e below (s₁.setTop (mkF m 27 #[.val (.long pt), .second, .val (.long po), .second, .val (.long pu), .second, .val (.long pv), .second] [])) _
        refine Goes.by (fun _ k => XS.lloadN X0.here hx rfl (hb hby d4_27) rfl k) ?_
        show Goes p.tables e below (s₁.setTop (mkF m 28 #[.val (.long pt), .second, .val (.long po), .second, .val (.long pu), .second, .val (.long pv), .second] [(.long po)])) _
        refine Goes.by (fun _ k => XS.lload X0.here hx rfl (hb hby d4_28) rfl k) ?_
        show Goes p.tables e below (s₁.setTop (mkF m 30 #[.val (.long pt), .second, .val (.long po), .second, .val (.long pu), .second, .val (.long pv), .second] [(.long pv), (.long po)])) _
        refine Goes.by (fun _ k => XS.lcmp X0.here hx rfl (hb hby d4_30) rfl k) ?_
        show Goes p.tables e below (s₁.setTop (mkF m 31 #[.val (.long pt), .second, .val (.long po), .second, .val (.long pu), .second, .val (.long pv), .second] [(.int (lcmpW po pv))])) _
        by_cases hc4 : pv < po
        · refine Goes.by (fun _ k => XS.ifNo X0.here hx rfl (hb hby d4_31) rfl (jg_t hc4).2 k) ?_
          show Goes p.tables e below (s₁.setTop (mkF m 34 #[.val (.long pt), .second, .val (.long po), .second, .val (.long pu), .second, .val (.long pv), .second] [])) _
          refine Goes.by (fun _ k => XS.iconst X0.here hx rfl (hb hby d4_34) k) ?_
          show Goes p.tables e below (s₁.setTop (mkF m 35 #[.val (.long pt), .second, .val (.long po), .second, .val (.long pu), .second, .val (.long pv), .second] [(.int (1 : Int32))])) _
          obtain ⟨fs, hr, hrun, hended, hW, hsame⟩ := X0.leave (v := some (.int (1 : Int32))) (fun h => by rw [Bd.returns] at h; cases h)
          refine ⟨_, _, retI X0 hx Bd.returns (hb hby d4_35) hr, hrun, hended, _, _, rfl, ?_, ⟨_, rfl⟩, hW, hsame.mono (by decide) (by decide)⟩
          show Q4 Z pt po pu pv h0 n0 _ s₁.heap _
          rw [e0]
          exact ⟨(by rw [fn4, if_neg hc1, if_neg hc2, if_neg hc3, if_pos hc4]), N0, rfl⟩
        · refine Goes.by (fun _ k => XS.ifYes X0.here hx rfl (pc0 := 31) (pc' := 36) rfl (hb hby d4_31) rfl (jg_f hc4).2 (by decide) (by decide) k) ?_
          show Goes p.tables e below (s₁.setTop (mkF m 36 #[.val (.long pt), .second, .val (.long po), .second, .val (.long pu), .second, .val (.long pv), .second] [])) _
          refine Goes.by (fun _ k => XS.iconst X0.here hx rfl (hb hby d4_36) k) ?_
          show Goes p.tables e below (s₁.setTop (mkF m 37 #[.val (.long pt), .second, .val (.long po), .second, .val (.long pu), .second, .val (.long pv), .second] [(.int (0 : Int32))])) _
          obtain ⟨fs, hr, hrun, hended, hW, hsame⟩ := X0.leave (v := some (.int (0 : Int32))) (fun h => by rw [Bd.returns] at h; cases h)
          refine ⟨_, _, retI X0 hx Bd.returns (hb hby d4_37) hr, hrun, hended, _, _, rfl, ?_, ⟨_, rfl⟩, hW, hsame.mono (by decide) (by decide)⟩
          show Q4 Z pt po pu pv h0 n0 _ s₁.heap _
          rw [e0]
          exact ⟨(by rw [fn4, if_neg hc1, if_neg hc2, if_neg hc3, if_neg hc4]), N0, rfl⟩
theorem d6_0 : decode jdk_35_method_42_code 0 = .ok (.lload_n 0, 1) := by decide +kernel
theorem d6_1 : decode jdk_35_method_42_code 1 = .ok (.lload_n 2, 1) := by decide +kernel
theorem d6_2 : decode jdk_35_method_42_code 2 = .ok (.lcmp, 1) := by decide +kernel
theorem d6_3 : decode jdk_35_method_42_code 3 = .ok (.ifCond .ge 7, 3) := by decide +kernel
theorem d6_6 : decode jdk_35_method_42_code 6 = .ok (.iconst (-1), 1) := by decide +kernel
theorem d6_7 : decode jdk_35_method_42_code 7 = .ok (.goto 14, 3) := by decide +kernel
theorem d6_21 : decode jdk_35_method_42_code 21 = .ok (.ireturn, 1) := by decide +kernel
theorem d6_10 : decode jdk_35_method_42_code 10 = .ok (.lload_n 0, 1) := by decide +kernel
theorem d6_11 : decode jdk_35_method_42_code 11 = .ok (.lload_n 2, 1) := by decide +kernel
theorem d6_12 : decode jdk_35_method_42_code 12 = .ok (.lcmp, 1) := by decide +kernel
theorem d6_13 : decode jdk_35_method_42_code 13 = .ok (.ifCond .ne 7, 3) := by decide +kernel
theorem d6_16 : decode jdk_35_method_42_code 16 = .ok (.iconst 0, 1) := by decide +kernel
theorem d6_17 : decode jdk_35_method_42_code 17 = .ok (.goto 4, 3) := by decide +kernel
theorem d6_20 : decode jdk_35_method_42_code 20 = .ok (.iconst 1, 1) := by decide +kernel
def fn6 (pa : Int64) (pb : Int64) : Int32 := (if pa < pb then (-1 : Int32) else (if pa = pb then (0 : Int32) else (1 : Int32)))
theorem pn_3 : plainName "java/lang/Long" = true := by first | (simp [plainName, overriddenIn]; done) | decide +kernel
theorem ef6 (m : MethodId) (pa : Int64) (pb : Int64) : entryFrame m #[(.long pa), (.long pb)] 4 = mkF m 0 #[.val (.long pa), .second, .val (.long pb), .second] [] := by first | (simp [entryFrame, mkF, argsToLocals, Value.category]; done) | rfl
def Q6 (Z : State) (pa : Int64) (pb : Int64) (h0 : Heap) (n0 : Nat) (v : Option Value) (h : Heap) (L : List Loc) : Prop := v = some (.int (fn6 pa pb)) ∧ Fr n0 L ∧ h = h0
set_option maxRecDepth 65536 in
set_option maxHeartbeats 40000000 in
theorem rm6 (l : Launch) (Z : State) (a0 : Array Value) (hw : ∀ d ∈ tables_1, d.before a0 Z = true) (ws : List Jvm.Cond) (pa : Int64) (pb : Int64) (h0 : Heap) (n0 : Nat) (Z0 : n0 ≤ h0.size) :
    MetFree l (⟨"java/lang/Long", "compare", "(JJ)I"⟩ : MethodName) (head1 (Jvm.Cond.code (⟨"java/lang/Long", "compare", "(JJ)I"⟩ : MethodName) jdk_35_method_42_code 4 (some .int) :: ws) ({ frames := 0, cells := 0, slots := 0, locals := 0 } : Room)) (fun a U => a = #[(.long pa), (.long pb)] ∧ Z.Warmed39 U.vm ∧ U.heap = h0) (fun _ _ _ _ _ => True) (fun _ U o U' => ∃ v L, o = .returned v ∧ Q6 Z pa pb h0 n0 v U'.heap L ∧ FrameEnd U o U' L ({ frames := 0, cells := 0, slots := 0, locals := 0 } : Room).cells ({ frames := 0, cells := 0, slots := 0, locals := 0 } : Room).slots) := by
  refine MetFree.of_bodySF (plainFor_of_name pn_3) hisR ?_
  intro p e s m args below meth c s₁ Bd hml0 hP hK
  obtain ⟨rfl, hZ, hh⟩ := hP
  have hx := Bd.exec
  have hby := Bd.bytes
  have hml : c.maxLocals = 4 := hml0
  have hown : s.vm.findClass "java/lang/Long" = some m.cls := findClass_of_methodNamed Bd.named
  have hnm := (name_of_methodNamed Bd.named Bd.method).1
  have X0 : Stand p l e ({ frames := 0, cells := 0, slots := 0, locals := 0 } : Room) s m #[(.long pa), (.long pb)] below meth c s₁ [] 0 0 := Stand.of_body Bd
  have e0 : s₁.heap = h0 := by rw [← hh, Bd.state]; rfl
  have N0 := Fr.nil n0
  refine Goes.by (fun _ k => castTop (ef6 m pa pb) k) ?_
  show Goes p.tables e below (s₁.setTop (mkF m 0 #[.val (.long pa), .second, .val (.long pb), .second] [])) _
  refine Goes.by (fun _ k => XS.lloadN X0.here hx rfl (hb hby d6_0) rfl k) ?_
  show Goes p.tables e below (s₁.setTop (mkF m 1 #[.val (.long pa), .second, .val (.long pb), .second] [(.long pa)])) _
  refine Goes.by (fun _ k => XS.lloadN X0.here hx rfl (hb hby d6_1) rfl k) ?_
  show Goes p.tables e below (s₁.setTop (mkF m 2 #[.val (.long pa), .second, .val (.long pb), .second] [(.long pb), (.long pa)])) _
  refine Goes.by (fun _ k => XS.lcmp X0.here hx rfl (hb hby d6_2) rfl k) ?_
  show Goes p.tables e below (s₁.setTop (mkF m 3 #[.val (.long pa), .second, .val (.long pb), .second] [(.int (lcmpW pa pb))])) _
  by_cases hc1 : pa < pb
  · refine Goes.by (fun _ k => XS.ifNo X0.here hx rfl (hb hby d6_3) rfl (jl_t hc1).2 k) ?_
    show Goes p.tables e below (s₁.setTop (mkF m 6 #[.val (.long pa), .second, .val (.long pb), .second] [])) _
    refine Goes.by (fun _ k => XS.iconst X0.here hx rfl (hb hby d6_6) k) ?_
    show Goes p.tables e below (s₁.setTop (mkF m 7 #[.val (.long pa), .second, .val (.long pb), .second] [(.int (-1 : Int32))])) _
    refine Goes.by (fun _ k => XS.goto X0.here hx rfl (pc0 := 7) (pc' := 21) rfl (hb hby d6_7) (by decide) (by decide) k) ?_
    show Goes p.tables e below (s₁.setTop (mkF m 21 #[.val (.long pa), .second, .val (.long pb), .second] [(.int (-1 : Int32))])) _
    obtain ⟨fs, hr, hrun, hended, hW, hsame⟩ := X0.leave (v := some (.int (-1 : Int32))) (fun h => by rw [Bd.returns] at h; cases h)
    refine ⟨_, _, retI X0 hx Bd.returns (hb hby d6_21) hr, hrun, hended, _, _, rfl, ?_, ⟨_, rfl⟩, hW, hsame.mono (by decide) (by decide)⟩
    show Q6 Z pa pb h0 n0 _ s₁.heap _
    rw [e0]
    exact ⟨(by rw [fn6, if_pos hc1]), N0, rfl⟩
  · refine Goes.by (fun _ k => XS.ifYes X0.here hx rfl (pc0 := 3) (pc' := 10) rfl (hb hby d6_3) rfl (jl_f hc1).2 (by decide) (by decide) k) ?_
    show Goes p.tables e below (s₁.setTop (mkF m 10 #[.val (.long pa), .second, .val (.long pb), .second] [])) _
    refine Goes.by (fun _ k => XS.lloadN X0.here hx rfl (hb hby d6_10) rfl k) ?_
    show Goes p.tables e below (s₁.setTop (mkF m 11 #[.val (.long pa), .second, .val (.long pb), .second] [(.long pa)])) _
    refine Goes.by (fun _ k => XS.lloadN X0.here hx rfl (hb hby d6_11) rfl k) ?_
    show Goes p.tables e below (s₁.setTop (mkF m 12 #[.val (.long pa), .second, .val (.long pb), .second] [(.long pb), (.long pa)])) _
    refine Goes.by (fun _ k => XS.lcmp X0.here hx rfl (hb hby d6_12) rfl k) ?_
    show Goes p.tables e below (s₁.setTop (mkF m 13 #[.val (.long pa), .second, .val (.long pb), .second] [(.int (lcmpW pa pb))])) _
    by_cases hc2 : pa = pb
    · refine Goes.by (fun _ k => XS.ifNo X0.here hx rfl (hb hby d6_13) rfl (je_t hc2).2 k) ?_
      show Goes p.tables e below (s₁.setTop (mkF m 16 #[.val (.long pa), .second, .val (.long pb), .second] [])) _
      refine Goes.by (fun _ k => XS.iconst X0.here hx rfl (hb hby d6_16) k) ?_
      show Goes p.tables e below (s₁.setTop (mkF m 17 #[.val (.long pa), .second, .val (.long pb), .second] [(.int (0 : Int32))])) _
      refine Goes.by (fun _ k => XS.goto X0.here hx rfl (pc0 := 17) (pc' := 21) rfl (hb hby d6_17) (by decide) (by decide) k) ?_
      show Goes p.tables e below (s₁.setTop (mkF m 21 #[.val (.long pa), .second, .val (.long pb), .second] [(.int (0 : Int32))])) _
      obtain ⟨fs, hr, hrun, hended, hW, hsame⟩ := X0.leave (v := some (.int (0 : Int32))) (fun h => by rw [Bd.returns] at h; cases h)
      refine ⟨_, _, retI X0 hx Bd.returns (hb hby d6_21) hr, hrun, hended, _, _, rfl, ?_, ⟨_, rfl⟩, hW, hsame.mono (by decide) (by decide)⟩
      show Q6 Z pa pb h0 n0 _ s₁.heap _
      rw [e0]
      exact ⟨(by rw [fn6, if_neg hc1, if_pos hc2]), N0, rfl⟩
    · refine Goes.by (fun _ k => XS.ifYes X0.here hx rfl (pc0 := 13) (pc' := 20) rfl (hb hby d6_13) rfl (je_f hc2).2 (by decide) (by decide) k) ?_
      show Goes p.tables e below (s₁.setTop (mkF m 20 #[.val (.long pa), .second, .val (.long pb), .second] [])) _
      refine Goes.by (fun _ k => XS.iconst X0.here hx rfl (hb hby d6_20) k) ?_
      show Goes p.tables e below (s₁.setTop (mkF m 21 #[.val (.long pa), .second, .val (.long pb), .second] [(.int (1 : Int32))])) _
      obtain ⟨fs, hr, hrun, hended, hW, hsame⟩ := X0.leave (v := some (.int (1 : Int32))) (fun h => by rw [Bd.returns] at h; cases h)
      refine ⟨_, _, retI X0 hx Bd.returns (hb hby d6_21) hr, hrun, hended, _, _, rfl, ?_, ⟨_, rfl⟩, hW, hsame.mono (by decide) (by decide)⟩
      show Q6 Z pa pb h0 n0 _ s₁.heap _
      rw [e0]
      exact ⟨(by rw [fn6, if_neg hc1, if_neg hc2]), N0, rfl⟩
theorem d5_0 : decode prog_30_method_2_code 0 = .ok (.aload_n 0, 1) := by decide +kernel
theorem d5_1 : decode prog_30_method_2_code 1 = .ok (.getfield 7, 3) := by decide +kernel
theorem d5_4 : decode prog_30_method_2_code 4 = .ok (.aload_n 1, 1) := by decide +kernel
theorem d5_5 : decode prog_30_method_2_code 5 = .ok (.getfield 7, 3) := by decide +kernel
theorem d5_8 : decode prog_30_method_2_code 8 = .ok (.invokestatic 20, 3) := by decide +kernel
theorem pd_1 : parseMethodDescriptor "(JJ)I" = some ⟨[.long, .long], some .int⟩ := by decide +kernel
theorem d5_11 : decode prog_30_method_2_code 11 = .ok (.istore_n 2, 1) := by decide +kernel
theorem d5_12 : decode prog_30_method_2_code 12 = .ok (.iload_n 2, 1) := by decide +kernel
theorem d5_13 : decode prog_30_method_2_code 13 = .ok (.ifCond .eq 7, 3) := by decide +kernel
theorem d5_20 : decode prog_30_method_2_code 20 = .ok (.aload_n 0, 1) := by decide +kernel
theorem d5_21 : decode prog_30_method_2_code 21 = .ok (.getfield 13, 3) := by decide +kernel
theorem d5_24 : decode prog_30_method_2_code 24 = .ok (.aload_n 1, 1) := by decide +kernel
theorem d5_25 : decode prog_30_method_2_code 25 = .ok (.getfield 13, 3) := by decide +kernel
theorem d5_28 : decode prog_30_method_2_code 28 = .ok (.invokestatic 20, 3) := by decide +kernel
theorem d5_31 : decode prog_30_method_2_code 31 = .ok (.ireturn, 1) := by decide +kernel
theorem d5_16 : decode prog_30_method_2_code 16 = .ok (.iload_n 2, 1) := by decide +kernel
theorem d5_17 : decode prog_30_method_2_code 17 = .ok (.goto 14, 3) := by decide +kernel
def fn5 (ut : Int64) (uo : Int64) (vt : Int64) (vo : Int64) : Int32 := (if (fn6 ut vt) = (0 : Int32) then (fn6 uo vo) else (fn6 ut vt))
theorem ef5 (m : MethodId) (oa : Addr) (ob : Addr) : entryFrame m #[(.ref oa), (.ref ob)] 3 = mkF m 0 #[.val (.ref oa), .val (.ref ob), .unset] [] := by first | (simp [entryFrame, mkF, argsToLocals, Value.category]; done) | rfl
def Q5 (Z : State) (oa : Addr) (ob : Addr) (ut : Int64) (uo : Int64) (vt : Int64) (vo : Int64) (h0 : Heap) (n0 : Nat) (v : Option Value) (h : Heap) (L : List Loc) : Prop := v = some (.int (fn5 ut uo vt vo)) ∧ Fr n0 L ∧ h = h0
set_option maxRecDepth 65536 in
set_option maxHeartbeats 40000000 in
theorem rm5 (l : Launch) (Z : State) (a0 : Array Value) (hw : ∀ d ∈ tables_1, d.before a0 Z = true) (ws : List Jvm.Cond) (oa : Addr) (ob : Addr) (ut : Int64) (uo : Int64) (vt : Int64) (vo : Int64) (h0 : Heap) (n0 : Nat) (Z0 : n0 ≤ h0.size) (F_oa_dueTime : Fld Z h0 oa "com/example/gongshu/gongshu/store/DelayedMessages$Due" "dueTime" "J" (.long ut)) (F_oa_offset : Fld Z h0 oa "com/example/gongshu/gongshu/store/DelayedMessages$Due" "offset" "J" (.long uo)) (F_ob_dueTime : Fld Z h0 ob "com/example/gongshu/gongshu/store/DelayedMessages$Due" "dueTime" "J" (.long vt)) (F_ob_offset : Fld Z h0 ob "com/example/gongshu/gongshu/store/DelayedMessages$Due" "offset" "J" (.long vo)) :
    MetFree l (⟨"com/example/gongshu/gongshu/store/DelayedMessages$Due", "compareTo", "(Lcom/example/gongshu/gongshu/store/DelayedMessages$Due;)I"⟩ : MethodName) (head1 (Jvm.Cond.code (⟨"com/example/gongshu/gongshu/store/DelayedMessages$Due", "compareTo", "(Lcom/example/gongshu/gongshu/store/DelayedMessages$Due;)I"⟩ : MethodName) prog_30_method_2_code 3 (some .int) :: ws) ({ frames := 1, cells := 0, slots := 0, locals := 15 } : Room)) (fun a U => a = #[(.ref oa), (.ref ob)] ∧ Z.Warmed39 U.vm ∧ U.heap = h0) (fun _ _ _ _ _ => True) (fun _ U o U' => ∃ v L, o = .returned v ∧ Q5 Z oa ob ut uo vt vo h0 n0 v U'.heap L ∧ FrameEnd U o U' L ({ frames := 1, cells := 0, slots := 0, locals := 15 } : Room).cells ({ frames := 1, cells := 0, slots := 0, locals := 15 } : Room).slots) := by
  refine MetFree.of_bodySF (plainFor_of_name pn_1) hisR ?_
  intro p e s m args below meth c s₁ Bd hml0 hP hK
  obtain ⟨rfl, hZ, hh⟩ := hP
  have hx := Bd.exec
  have hby := Bd.bytes
  have hml : c.maxLocals = 3 := hml0
  have hown : s.vm.findClass "com/example/gongshu/gongshu/store/DelayedMessages$Due" = some m.cls := findClass_of_methodNamed Bd.named
  have hnm := (name_of_methodNamed Bd.named Bd.method).1
  have X0 : Stand p l e ({ frames := 1, cells := 0, slots := 0, locals := 15 } : Room) s m #[(.ref oa), (.ref ob)] below meth c s₁ [] 0 0 := Stand.of_body Bd
  have e0 : s₁.heap = h0 := by rw [← hh, Bd.state]; rfl
  have N0 := Fr.nil n0
  refine Goes.by (fun _ k => castTop (ef5 m oa ob) k) ?_
  show Goes p.tables e below (s₁.setTop (mkF m 0 #[.val (.ref oa), .val (.ref ob), .unset] [])) _
  refine Goes.by (fun _ k => XS.aloadN X0.here hx rfl (hb hby d5_0) rfl rfl k) ?_
  show Goes p.tables e below (s₁.setTop (mkF m 1 #[.val (.ref oa), .val (.ref ob), .unset] [(.ref oa)])) _
  obtain ⟨T1, X1, e1, st1⟩ := getF X0 hx hZ hown (host := "") (Or.inl (hw _ (List.mem_of_getElem? (i := 14) rfl))) Via.refl e0 F_oa_dueTime (g := (mkF m 1 #[.val (.ref oa), .val (.ref ob), .unset] [(.ref oa)])) rfl rfl (hb hby d5_1)
  refine Goes.by st1 ?_
  show Goes p.tables e below (T1.setTop (mkF m 4 #[.val (.ref oa), .val (.ref ob), .unset] [(.long ut)])) _
  refine Goes.by (fun _ k => XS.aloadN X1.here hx rfl (hb hby d5_4) rfl rfl k) ?_
  show Goes p.tables e below (T1.setTop (mkF m 5 #[.val (.ref oa), .val (.ref ob), .unset] [(.ref ob), (.long ut)])) _
  obtain ⟨T2, X2, e2, st2⟩ := getF X1 hx hZ hown (host := "") (Or.inl (hw _ (List.mem_of_getElem? (i := 14) rfl))) Via.refl e1 F_ob_dueTime (g := (mkF m 5 #[.val (.ref oa), .val (.ref ob), .unset] [(.ref ob), (.long ut)])) rfl rfl (hb hby d5_5)
  refine Goes.by st2 ?_
  show Goes p.tables e below (T2.setTop (mkF m 8 #[.val (.ref oa), .val (.ref ob), .unset] [(.long vt), (.long ut)])) _
  obtain ⟨_, _, ⟨T3, L3, k3, n3⟩, -, X3, ⟨Lc3, hQ3, l3, y3, z3⟩, st3⟩ := Jvm.LawKit.callS X2 hx (y := (⟨"java/lang/Long", "compare", "(JJ)I"⟩ : MethodName)) hown (mvT hZ (hw _ (List.mem_of_getElem? (i := 29) rfl))) (mvT hZ (hw _ (List.mem_of_getElem? (i := 30) rfl))) (mvT hZ (hw _ (List.mem_of_getElem? (i := 31) rfl))) (mvT hZ (hw _ (List.mem_of_getElem? (i := 32) rfl))) (by decide) (backOf (W := 0) (rm6 l Z a0 hw [] ut vt h0 n0 Z0) hZ (hw _ (List.mem_of_getElem? (i := 32) rfl)) (hw _ (List.mem_of_getElem? (i := 31) rfl)) (by decide) (by decide)) (g := (mkF m 8 #[.val (.ref oa), .val (.ref ob), .unset] [(.long vt), (.long ut)])) rfl (by rw [hml]; rfl) (argsL := [(.long ut), (.long vt)]) (rest := []) (lenOf pd_1 rfl) rfl (by show 2 * 0 + _ ≤ _; exact Nat.le_of_eq rfl) (hb hby d5_8) (fun _ _ => ⟨rfl, e2, (by decide : 0 + 0 ≤ _), (by decide : 0 + 0 ≤ _)⟩)
  dsimp only [Pt.U, Pt.locs, Pt.cells, Pt.slots] at X3 l3 y3 z3 st3 hQ3
  subst l3 y3 z3
  obtain ⟨rfl, N3q, e3⟩ := hQ3
  have N3 := Fr.app N0 N3q
  refine Goes.by st3 ?_
  show Goes p.tables e below (T3.setTop (mkF m 11 #[.val (.ref oa), .val (.ref ob), .unset] [(.int (fn6 ut vt))])) _
  refine Goes.by (fun _ k => XS.istoreN X3.here hx rfl (hb hby d5_11) rfl (l' := #[.val (.ref oa), .val (.ref ob), .val (.int (fn6 ut vt))]) rfl k) ?_
  show Goes p.tables e below (T3.setTop (mkF m 12 #[.val (.ref oa), .val (.ref ob), .val (.int (fn6 ut vt))] [])) _
  refine Goes.by (fun _ k => XS.iloadN X3.here hx rfl (hb hby d5_12) rfl k) ?_
  show Goes p.tables e below (T3.setTop (mkF m 13 #[.val (.ref oa), .val (.ref ob), .val (.int (fn6 ut vt))] [(.int (fn6 ut vt))])) _
  by_cases hc4 : (fn6 ut vt) = (0 : Int32)
  · refine Goes.by (fun _ k => XS.ifYes X3.here hx rfl (pc0 := 13) (pc' := 20) rfl (hb hby d5_13) rfl ((if0 _ _).trans (teq hc4).1) (by decide) (by decide) k) ?_
    show Goes p.tables e below (T3.setTop (mkF m 20 #[.val (.ref oa), .val (.ref ob), .val (.int (fn6 ut vt))] [])) _
    refine Goes.by (fun _ k => XS.aloadN X3.here hx rfl (hb hby d5_20) rfl rfl k) ?_
    show Goes p.tables e below (T3.setTop (mkF m 21 #[.val (.ref oa), .val (.ref ob), .val (.int (fn6 ut vt))] [(.ref oa)])) _
    obtain ⟨T5, X5, e5, st5⟩ := getF X3 hx hZ hown (host := "") (Or.inl (hw _ (List.mem_of_getElem? (i := 16) rfl))) Via.refl e3 F_oa_offset (g := (mkF m 21 #[.val (.ref oa), .val (.ref ob), .val (.int (fn6 ut vt))] [(.ref oa)])) rfl rfl (hb hby d5_21)
    refine Goes.by st5 ?_
    show Goes p.tables e below (T5.setTop (mkF m 24 #[.val (.ref oa), .val (.ref ob), .val (.int (fn6 ut vt))] [(.long uo)])) _
    refine Goes.by (fun _ k => XS.aloadN X5.here hx rfl (hb hby d5_24) rfl rfl k) ?_
    show Goes p.tables e below (T5.setTop (mkF m 25 #[.val (.ref oa), .val (.ref ob), .val (.int (fn6 ut vt))] [(.ref ob), (.long uo)])) _
    obtain ⟨T6, X6, e6, st6⟩ := getF X5 hx hZ hown (host := "") (Or.inl (hw _ (List.mem_of_getElem? (i := 16) rfl))) Via.refl e5 F_ob_offset (g := (mkF m 25 #[.val (.ref oa), .val (.ref ob), .val (.int (fn6 ut vt))] [(.ref ob), (.long uo)])) rfl rfl (hb hby d5_25)
    refine Goes.by st6 ?_
    show Goes p.tables e below (T6.setTop (mkF m 28 #[.val (.ref oa), .val (.ref ob), .val (.int (fn6 ut vt))] [(.long vo), (.long uo)])) _
    obtain ⟨_, _, ⟨T7, L7, k7, n7⟩, -, X7, ⟨Lc7, hQ7, l7, y7, z7⟩, st7⟩ := Jvm.LawKit.callS X6 hx (y := (⟨"java/lang/Long", "compare", "(JJ)I"⟩ : MethodName)) hown (mvT hZ (hw _ (List.mem_of_getElem? (i := 29) rfl))) (mvT hZ (hw _ (List.mem_of_getElem? (i := 30) rfl))) (mvT hZ (hw _ (List.mem_of_getElem? (i := 31) rfl))) (mvT hZ (hw _ (List.mem_of_getElem? (i := 32) rfl))) (by decide) (backOf (W := 0) (rm6 l Z a0 hw [] uo vo h0 n0 Z0) hZ (hw _ (List.mem_of_getElem? (i := 32) rfl)) (hw _ (List.mem_of_getElem? (i := 31) rfl)) (by decide) (by decide)) (g := (mkF m 28 #[.val (.ref oa), .val (.ref ob), .val (.int (fn6 ut vt))] [(.long vo), (.long uo)])) rfl (by rw [hml]; rfl) (argsL := [(.long uo), (.long vo)]) (rest := []) (lenOf pd_1 rfl) rfl (by show 2 * 0 + _ ≤ _; exact Nat.le_of_eq rfl) (hb hby d5_28) (fun _ _ => ⟨rfl, e6, (by decide : 0 + 0 ≤ _), (by decide : 0 + 0 ≤ _)⟩)
    dsimp only [Pt.U, Pt.locs, Pt.cells, Pt.slots] at X7 l7 y7 z7 st7 hQ7
    subst l7 y7 z7
    obtain ⟨rfl, N7q, e7⟩ := hQ7
    have N7 := Fr.app N3 N7q
    refine Goes.by st7 ?_
    show Goes p.tables e below (T7.setTop (mkF m 31 #[.val (.ref oa), .val (.ref ob), .val (.int (fn6 ut vt))] [(.int (fn6 uo vo))])) _
    obtain ⟨fs, hr, hrun, hended, hW, hsame⟩ := X7.leave (v := some (.int (fn6 uo vo))) (fun h => by rw [Bd.returns] at h; cases h)
    refine ⟨_, _, retI X7 hx Bd.returns (hb hby d5_31) hr, hrun, hended, _, _, rfl, ?_, ⟨_, rfl⟩, hW, hsame.mono (by decide) (by decide)⟩
    show Q5 Z oa ob ut uo vt vo h0 n0 _ T7.heap _
    rw [e7]
    exact ⟨(by rw [fn5, if_pos hc4]), N7, rfl⟩
  · refine Goes.by (fun _ k => XS.ifNo X3.here hx rfl (hb hby d5_13) rfl ((if0 _ _).trans (feq hc4).1) k) ?_
    show Goes p.tables e below (T3.setTop (mkF m 16 #[.val (.ref oa), .val (.ref ob), .val (.int (fn6 ut vt))] [])) _
    refine Goes.by (fun _ k => XS.iloadN X3.here hx rfl (hb hby d5_16) rfl k) ?_
    show Goes p.tables e below (T3.setTop (mkF m 17 #[.val (.ref oa), .val (.ref ob), .val (.int (fn6 ut vt))] [(.int (fn6 ut vt))])) _
    refine Goes.by (fun _ k => XS.goto X3.here hx rfl (pc0 := 17) (pc' := 31) rfl (hb hby d5_17) (by decide) (by decide) k) ?_
    show Goes p.tables e below (T3.setTop (mkF m 31 #[.val (.ref oa), .val (.ref ob), .val (.int (fn6 ut vt))] [(.int (fn6 ut vt))])) _
    obtain ⟨fs, hr, hrun, hended, hW, hsame⟩ := X3.leave (v := some (.int (fn6 ut vt))) (fun h => by rw [Bd.returns] at h; cases h)
    refine ⟨_, _, retI X3 hx Bd.returns (hb hby d5_31) hr, hrun, hended, _, _, rfl, ?_, ⟨_, rfl⟩, hW, hsame.mono (by decide) (by decide)⟩
    show Q5 Z oa ob ut uo vt vo h0 n0 _ T3.heap _
    rw [e3]
    exact ⟨(by rw [fn5, if_neg hc4]), N3, rfl⟩
theorem d7_0 : decode method_2_code 0 = .ok (.iload_n 0, 1) := by decide +kernel
theorem d7_1 : decode method_2_code 1 = .ok (.ifCond .ge 7, 3) := by decide +kernel
theorem d7_4 : decode method_2_code 4 = .ok (.iconst (-1), 1) := by decide +kernel
theorem d7_5 : decode method_2_code 5 = .ok (.goto 12, 3) := by decide +kernel
theorem d7_17 : decode method_2_code 17 = .ok (.ireturn, 1) := by decide +kernel
theorem d7_8 : decode method_2_code 8 = .ok (.iload_n 0, 1) := by decide +kernel
theorem d7_9 : decode method_2_code 9 = .ok (.ifCond .le 7, 3) := by decide +kernel
theorem d7_12 : decode method_2_code 12 = .ok (.iconst 1, 1) := by decide +kernel
theorem d7_13 : decode method_2_code 13 = .ok (.goto 4, 3) := by decide +kernel
theorem d7_16 : decode method_2_code 16 = .ok (.iconst 0, 1) := by decide +kernel
def fn7 (pz : Int32) : Int32 := (if pz < (0 : Int32) then (-1 : Int32) else (if (0 : Int32) < pz then (1 : Int32) else (0 : Int32)))
theorem ef7 (m : MethodId) (pz : Int32) : entryFrame m #[(.int pz)] 1 = mkF m 0 #[.val (.int pz)] [] := by first | (simp [entryFrame, mkF, argsToLocals, Value.category]; done) | rfl
def Q7 (Z : State) (pz : Int32) (h0 : Heap) (n0 : Nat) (v : Option Value) (h : Heap) (L : List Loc) : Prop := v = some (.int (fn7 pz)) ∧ Fr n0 L ∧ h = h0
set_option maxRecDepth 65536 in
set_option maxHeartbeats 40000000 in
theorem rm7 (l : Launch) (Z : State) (a0 : Array Value) (hw : ∀ d ∈ tables_1, d.before a0 Z = true) (ws : List Jvm.Cond) (pz : Int32) (h0 : Heap) (n0 : Nat) (Z0 : n0 ≤ h0.size) :
    MetFree l (⟨"com/example/gongshu/gongshu/store/DueCompareToPinLaw", "sign", "(I)I"⟩ : MethodName) (head1 (Jvm.Cond.code (⟨"com/example/gongshu/gongshu/store/DueCompareToPinLaw", "sign", "(I)I"⟩ : MethodName) method_2_code 1 (some .int) :: ws) ({ frames := 0, cells := 0, slots := 0, locals := 0 } : Room)) (fun a U => a = #[(.int pz)] ∧ Z.Warmed39 U.vm ∧ U.heap = h0) (fun _ _ _ _ _ => True) (fun _ U o U' => ∃ v L, o = .returned v ∧ Q7 Z pz h0 n0 v U'.heap L ∧ FrameEnd U o U' L ({ frames := 0, cells := 0, slots := 0, locals := 0 } : Room).cells ({ frames := 0, cells := 0, slots := 0, locals := 0 } : Room).slots) := by
  refine MetFree.of_bodySF (plainFor_of_name pn_2) hisR ?_
  intro p e s m args below meth c s₁ Bd hml0 hP hK
  obtain ⟨rfl, hZ, hh⟩ := hP
  have hx := Bd.exec
  have hby := Bd.bytes
  have hml : c.maxLocals = 1 := hml0
  have hown : s.vm.findClass "com/example/gongshu/gongshu/store/DueCompareToPinLaw" = some m.cls := findClass_of_methodNamed Bd.named
  have hnm := (name_of_methodNamed Bd.named Bd.method).1
  have X0 : Stand p l e ({ frames := 0, cells := 0, slots := 0, locals := 0 } : Room) s m #[(.int pz)] below meth c s₁ [] 0 0 := Stand.of_body Bd
  have e0 : s₁.heap = h0 := by rw [← hh, Bd.state]; rfl
  have N0 := Fr.nil n0
  refine Goes.by (fun _ k => castTop (ef7 m pz) k) ?_
  show Goes p.tables e below (s₁.setTop (mkF m 0 #[.val (.int pz)] [])) _
  refine Goes.by (fun _ k => XS.iloadN X0.here hx rfl (hb hby d7_0) rfl k) ?_
  show Goes p.tables e below (s₁.setTop (mkF m 1 #[.val (.int pz)] [(.int pz)])) _
  by_cases hc1 : pz < (0 : Int32)
  · refine Goes.by (fun _ k => XS.ifNo X0.here hx rfl (hb hby d7_1) rfl ((if0 _ _).trans (tlt hc1).2.1) k) ?_
    show Goes p.tables e below (s₁.setTop (mkF m 4 #[.val (.int pz)] [])) _
    refine Goes.by (fun _ k => XS.iconst X0.here hx rfl (hb hby d7_4) k) ?_
    show Goes p.tables e below (s₁.setTop (mkF m 5 #[.val (.int pz)] [(.int (-1 : Int32))])) _
    refine Goes.by (fun _ k => XS.goto X0.here hx rfl (pc0 := 5) (pc' := 17) rfl (hb hby d7_5) (by decide) (by decide) k) ?_
    show Goes p.tables e below (s₁.setTop (mkF m 17 #[.val (.int pz)] [(.int (-1 : Int32))])) _
    obtain ⟨fs, hr, hrun, hended, hW, hsame⟩ := X0.leave (v := some (.int (-1 : Int32))) (fun h => by rw [Bd.returns] at h; cases h)
    refine ⟨_, _, retI X0 hx Bd.returns (hb hby d7_17) hr, hrun, hended, _, _, rfl, ?_, ⟨_, rfl⟩, hW, hsame.mono (by decide) (by decide)⟩
    show Q7 Z pz h0 n0 _ s₁.heap _
    rw [e0]
    exact ⟨(by rw [fn7, if_pos hc1]), N0, rfl⟩
  · refine Goes.by (fun _ k => XS.ifYes X0.here hx rfl (pc0 := 1) (pc' := 8) rfl (hb hby d7_1) rfl ((if0 _ _).trans (flt hc1).2.1) (by decide) (by decide) k) ?_
    show Goes p.tables e below (s₁.setTop (mkF m 8 #[.val (.int pz)] [])) _
    refine Goes.by (fun _ k => XS.iloadN X0.here hx rfl (hb hby d7_8) rfl k) ?_
    show Goes p.tables e below (s₁.setTop (mkF m 9 #[.val (.int pz)] [(.int pz)])) _
    by_cases hc2 : (0 : Int32) < pz
    · refine Goes.by (fun _ k => XS.ifNo X0.here hx rfl (hb hby d7_9) rfl ((if0 _ _).trans (tlt hc2).2.2.2) k) ?_
      show Goes p.tables e below (s₁.setTop (mkF m 12 #[.val (.int pz)] [])) _
      refine Goes.by (fun _ k => XS.iconst X0.here hx rfl (hb hby d7_12) k) ?_
      show Goes p.tables e below (s₁.setTop (mkF m 13 #[.val (.int pz)] [(.int (1 : Int32))])) _
      refine Goes.by (fun _ k => XS.goto X0.here hx rfl (pc0 := 13) (pc' := 17) rfl (hb hby d7_13) (by decide) (by decide) k) ?_
      show Goes p.tables e below (s₁.setTop (mkF m 17 #[.val (.int pz)] [(.int (1 : Int32))])) _
      obtain ⟨fs, hr, hrun, hended, hW, hsame⟩ := X0.leave (v := some (.int (1 : Int32))) (fun h => by rw [Bd.returns] at h; cases h)
      refine ⟨_, _, retI X0 hx Bd.returns (hb hby d7_17) hr, hrun, hended, _, _, rfl, ?_, ⟨_, rfl⟩, hW, hsame.mono (by decide) (by decide)⟩
      show Q7 Z pz h0 n0 _ s₁.heap _
      rw [e0]
      exact ⟨(by rw [fn7, if_neg hc1, if_pos hc2]), N0, rfl⟩
    · refine Goes.by (fun _ k => XS.ifYes X0.here hx rfl (pc0 := 9) (pc' := 16) rfl (hb hby d7_9) rfl ((if0 _ _).trans (flt hc2).2.2.2) (by decide) (by decide) k) ?_
      show Goes p.tables e below (s₁.setTop (mkF m 16 #[.val (.int pz)] [])) _
      refine Goes.by (fun _ k => XS.iconst X0.here hx rfl (hb hby d7_16) k) ?_
      show Goes p.tables e below (s₁.setTop (mkF m 17 #[.val (.int pz)] [(.int (0 : Int32))])) _
      obtain ⟨fs, hr, hrun, hended, hW, hsame⟩ := X0.leave (v := some (.int (0 : Int32))) (fun h => by rw [Bd.returns] at h; cases h)
      refine ⟨_, _, retI X0 hx Bd.returns (hb hby d7_17) hr, hrun, hended, _, _, rfl, ?_, ⟨_, rfl⟩, hW, hsame.mono (by decide) (by decide)⟩
      show Q7 Z pz h0 n0 _ s₁.heap _
      rw [e0]
      exact ⟨(by rw [fn7, if_neg hc1, if_neg hc2]), N0, rfl⟩
theorem own_l (a b : Int64) : fn6 a b = if a < b then (-1 : Int32) else if b < a then (1 : Int32) else (0 : Int32) := by
  rw [fn6]
  (repeat' split) <;> first | rfl | (exfalso; simp only [← Int64.toInt_inj, Int64.lt_iff_toInt_lt] at *; omega)
theorem own_sl (t u : Int64) : (fn7 (if t < u then (-1 : Int32) else if u < t then (1 : Int32) else (0 : Int32))) = if t < u then (-1 : Int32) else if u < t then (1 : Int32) else (0 : Int32) := by
  (repeat' split) <;> rfl
theorem own_c (t o u v : Int64) : fn7 (fn5 t o u v) = fn4 t o u v := by
  rw [fn5, own_l, own_l, fn4]
  by_cases h1 : t < u
  · rw [if_pos h1, if_neg (by decide)]; rw [if_pos h1]; rfl
  · by_cases h2 : u < t
    · rw [if_neg h1, if_pos h2, if_neg (by decide), if_neg h1, if_pos h2]; rfl
    · rw [if_neg h1, if_neg h2, if_pos rfl, if_neg h1, if_neg h2, own_sl]
theorem own_n (t o u v : Int64) : fn4 u v t o = - fn4 t o u v := by
  rw [fn4, fn4]
  (repeat' split) <;> first | rfl | (exfalso; simp only [Int64.lt_iff_toInt_lt] at *; omega)
theorem pd_2 : parseMethodDescriptor "(JJI)V" = some ⟨[.long, .long, .int], none⟩ := by decide +kernel
theorem pd_3 : parseMethodDescriptor "(JJJJ)I" = some ⟨[.long, .long, .long, .long], some .int⟩ := by decide +kernel
theorem pd_4 : parseMethodDescriptor "(Lcom/example/gongshu/gongshu/store/DelayedMessages$Due;)I" = some ⟨[(.object "com/example/gongshu/gongshu/store/DelayedMessages$Due")], some .int⟩ := by decide +kernel
theorem pd_5 : parseMethodDescriptor "(I)I" = some ⟨[.int], some .int⟩ := by decide +kernel
theorem ef0 (m : MethodId) (pt : Int64) (po : Int64) (pu : Int64) (pv : Int64) (pb : Int32) (pd : Int32) : entryFrame m #[(.long pt), (.long po), (.long pu), (.long pv), (.int pb), (.int pd)] maxLocals = mkF m 0 #[.val (.long pt), .second, .val (.long po), .second, .val (.long pu), .second, .val (.long pv), .second, .val (.int pb), .val (.int pd), .unset, .unset, .unset, .unset, .unset, .unset, .unset, .unset, .unset] [] := by first | (simp [entryFrame, mkF, argsToLocals, Value.category, maxLocals]; done) | rfl
def Q0 (Z : State) (pt : Int64) (po : Int64) (pu : Int64) (pv : Int64) (pb : Int32) (pd : Int32) (h0 : Heap) (n0 : Nat) (v : Option Value) (h : Heap) (L : List Loc) : Prop := v = some (.int (1 : Int32)) ∧ Fr n0 L
set_option maxRecDepth 65536 in
set_option maxHeartbeats 40000000 in
theorem rm0 (l : Launch) (Z : State) (a0 : Array Value) (hw : ∀ d ∈ tables_1, d.before a0 Z = true) (ws : List Jvm.Cond) (pt : Int64) (po : Int64) (pu : Int64) (pv : Int64) (pb : Int32) (pd : Int32) (h0 : Heap) (n0 : Nat) (Z0 : n0 ≤ h0.size) :
    MetFree l x (head1 (Jvm.Cond.code x code maxLocals ret :: ws) room_1) (fun a U => a = #[(.long pt), (.long po), (.long pu), (.long pv), (.int pb), (.int pd)] ∧ Z.Warmed39 U.vm ∧ U.heap = h0) (fun _ _ _ _ _ => True) (fun _ U o U' => ∃ v L, o = .returned v ∧ Q0 Z pt po pu pv pb pd h0 n0 v U'.heap L ∧ FrameEnd U o U' L room_1.cells room_1.slots) := by
  refine MetFree.of_bodySF (plainFor_of_name pn_2) hisR ?_
  intro p e s m args below meth c s₁ Bd hml0 hP hK
  obtain ⟨rfl, hZ, hh⟩ := hP
  have hx := Bd.exec
  have hby := Bd.bytes
  have hml : c.maxLocals = 19 := hml0
  have hown : s.vm.findClass "com/example/gongshu/gongshu/store/DueCompareToPinLaw" = some m.cls := findClass_of_methodNamed Bd.named
  have hnm := (name_of_methodNamed Bd.named Bd.method).1
  have X0 : Stand p l e room_1 s m #[(.long pt), (.long po), (.long pu), (.long pv), (.int pb), (.int pd)] below meth c s₁ [] 0 0 := Stand.of_body Bd
  have e0 : s₁.heap = h0 := by rw [← hh, Bd.state]; rfl
  have N0 := Fr.nil n0
  refine Goes.by (fun _ k => castTop (ef0 m pt po pu pv pb pd) k) ?_
  show Goes p.tables e below (s₁.setTop (mkF m 0 #[.val (.long pt), .second, .val (.long po), .second, .val (.long pu), .second, .val (.long pv), .second, .val (.int pb), .val (.int pd), .unset, .unset, .unset, .unset, .unset, .unset, .unset, .unset, .unset] [])) _
  refine Goes.by (fun _ k => XS.iload X0.here hx rfl (hb hby at_0) rfl k) ?_
  show Goes p.tables e below (s₁.setTop (mkF m 2 #[.val (.long pt), .second, .val (.long po), .second, .val (.long pu), .second, .val (.long pv), .second, .val (.int pb), .val (.int pd), .unset, .unset, .unset, .unset, .unset, .unset, .unset, .unset, .unset] [(.int pb)])) _
  refine Goes.by (fun _ k => XS.iconst X0.here hx rfl (hb hby at_2) k) ?_
  show Goes p.tables e below (s₁.setTop (mkF m 3 #[.val (.long pt), .second, .val (.long po), .second, .val (.long pu), .second, .val (.long pv), .second, .val (.int pb), .val (.int pd), .unset, .unset, .unset, .unset, .unset, .unset, .unset, .unset, .unset] [(.int (1 : Int32)), (.int pb)])) _
  refine Goes.by (fun _ k => XS.iand X0.here hx rfl (hb hby at_3) rfl k) ?_
  show Goes p.tables e below (s₁.setTop (mkF m 4 #[.val (.long pt), .second, .val (.long po), .second, .val (.long pu), .second, .val (.long pv), .second, .val (.int pb), .val (.int pd), .unset, .unset, .unset, .unset, .unset, .unset, .unset, .unset, .unset] [(.int (pb &&& (1 : Int32)))])) _
  obtain ⟨v1, hv1⟩ : ∃ z : Int64, z = (if (pb &&& (1 : Int32)) = (0 : Int32) then pu else pt) := ⟨_, rfl⟩
  refine Goes.by (t' := s₁.setTop (mkF m 13 #[.val (.long pt), .second, .val (.long po), .second, .val (.long pu), .second, .val (.long pv), .second, .val (.int pb), .val (.int pd), .unset, .unset, .unset, .unset, .unset, .unset, .unset, .unset, .unset] [(.long v1)])) (fun u k => ?_) ?_
  · show Steps p.tables e below (s₁.setTop (mkF m 4 #[.val (.long pt), .second, .val (.long po), .second, .val (.long pu), .second, .val (.long pv), .second, .val (.int pb), .val (.int pd), .unset, .unset, .unset, .unset, .unset, .unset, .unset, .unset, .unset] [(.int (pb &&& (1 : Int32)))])) _
    by_cases hc2 : (pb &&& (1 : Int32)) = (0 : Int32)
    · refine XS.ifYes X0.here hx rfl (pc0 := 4) (pc' := 11) rfl (hb hby at_4) rfl ((if0 _ _).trans (teq hc2).1) (by decide) (by decide) ?_
      show Steps p.tables e below (s₁.setTop (mkF m 11 #[.val (.long pt), .second, .val (.long po), .second, .val (.long pu), .second, .val (.long pv), .second, .val (.int pb), .val (.int pd), .unset, .unset, .unset, .unset, .unset, .unset, .unset, .unset, .unset] [])) _
      refine XS.lload X0.here hx rfl (hb hby at_11) rfl ?_
      show Steps p.tables e below (s₁.setTop (mkF m 13 #[.val (.long pt), .second, .val (.long po), .second, .val (.long pu), .second, .val (.long pv), .second, .val (.int pb), .val (.int pd), .unset, .unset, .unset, .unset, .unset, .unset, .unset, .unset, .unset] [(.long pu)])) _
      have qv1 : v1 = pu := by rw [hv1, if_pos hc2]
      subst qv1
      exact k
    · refine XS.ifNo X0.here hx rfl (hb hby at_4) rfl ((if0 _ _).trans (feq hc2).1) ?_
      show Steps p.tables e below (s₁.setTop (mkF m 7 #[.val (.long pt), .second, .val (.long po), .second, .val (.long pu), .second, .val (.long pv), .second, .val (.int pb), .val (.int pd), .unset, .unset, .unset, .unset, .unset, .unset, .unset, .unset, .unset] [])) _
      refine XS.lloadN X0.here hx rfl (hb hby at_7) rfl ?_
      show Steps p.tables e below (s₁.setTop (mkF m 8 #[.val (.long pt), .second, .val (.long po), .second, .val (.long pu), .second, .val (.long pv), .second, .val (.int pb), .val (.int pd), .unset, .unset, .unset, .unset, .unset, .unset, .unset, .unset, .unset] [(.long pt)])) _
      refine XS.goto X0.here hx rfl (pc0 := 8) (pc' := 13) rfl (hb hby at_8) (by decide) (by decide) ?_
      show Steps p.tables e below (s₁.setTop (mkF m 13 #[.val (.long pt), .second, .val (.long po), .second, .val (.long pu), .second, .val (.long pv), .second, .val (.int pb), .val (.int pd), .unset, .unset, .unset, .unset, .unset, .unset, .unset, .unset, .unset] [(.long pt)])) _
      have qv1 : v1 = pt := by rw [hv1, if_neg hc2]
      subst qv1
      exact k
  show Goes p.tables e below (s₁.setTop (mkF m 13 #[.val (.long pt), .second, .val (.long po), .second, .val (.long pu), .second, .val (.long pv), .second, .val (.int pb), .val (.int pd), .unset, .unset, .unset, .unset, .unset, .unset, .unset, .unset, .unset] [(.long v1)])) _
  refine Goes.by (fun _ k => XS.lstore X0.here hx rfl (hb hby at_13) rfl (l' := #[.val (.long pt), .second, .val (.long po), .second, .val (.long pu), .second, .val (.long pv), .second, .val (.int pb), .val (.int pd), .val (.long v1), .second, .unset, .unset, .unset, .unset, .unset, .unset, .unset]) rfl k) ?_
  show Goes p.tables e below (s₁.setTop (mkF m 15 #[.val (.long pt), .second, .val (.long po), .second, .val (.long pu), .second, .val (.long pv), .second, .val (.int pb), .val (.int pd), .val (.long v1), .second, .unset, .unset, .unset, .unset, .unset, .unset, .unset] [])) _
  refine Goes.by (fun _ k => XS.iload X0.here hx rfl (hb hby at_15) rfl k) ?_
  show Goes p.tables e below (s₁.setTop (mkF m 17 #[.val (.long pt), .second, .val (.long po), .second, .val (.long pu), .second, .val (.long pv), .second, .val (.int pb), .val (.int pd), .val (.long v1), .second, .unset, .unset, .unset, .unset, .unset, .unset, .unset] [(.int pb)])) _
  refine Goes.by (fun _ k => XS.iconst X0.here hx rfl (hb hby at_17) k) ?_
  show Goes p.tables e below (s₁.setTop (mkF m 18 #[.val (.long pt), .second, .val (.long po), .second, .val (.long pu), .second, .val (.long pv), .second, .val (.int pb), .val (.int pd), .val (.long v1), .second, .unset, .unset, .unset, .unset, .unset, .unset, .unset] [(.int (2 : Int32)), (.int pb)])) _
  refine Goes.by (fun _ k => XS.iand X0.here hx rfl (hb hby at_18) rfl k) ?_
  show Goes p.tables e below (s₁.setTop (mkF m 19 #[.val (.long pt), .second, .val (.long po), .second, .val (.long pu), .second, .val (.long pv), .second, .val (.int pb), .val (.int pd), .val (.long v1), .second, .unset, .unset, .unset, .unset, .unset, .unset, .unset] [(.int (pb &&& (2 : Int32)))])) _
  obtain ⟨v3, hv3⟩ : ∃ z : Int64, z = (if (pb &&& (2 : Int32)) = (0 : Int32) then pv else po) := ⟨_, rfl⟩
  refine Goes.by (t' := s₁.setTop (mkF m 28 #[.val (.long pt), .second, .val (.long po), .second, .val (.long pu), .second, .val (.long pv), .second, .val (.int pb), .val (.int pd), .val (.long v1), .second, .unset, .unset, .unset, .unset, .unset, .unset, .unset] [(.long v3)])) (fun u k => ?_) ?_
  · show Steps p.tables e below (s₁.setTop (mkF m 19 #[.val (.long pt), .second, .val (.long po), .second, .val (.long pu), .second, .val (.long pv), .second, .val (.int pb), .val (.int pd), .val (.long v1), .second, .unset, .unset, .unset, .unset, .unset, .unset, .unset] [(.int (pb &&& (2 : Int32)))])) _
    by_cases hc4 : (pb &&& (2 : Int32)) = (0 : Int32)
    · refine XS.ifYes X0.here hx rfl (pc0 := 19) (pc' := 26) rfl (hb hby at_19) rfl ((if0 _ _).trans (teq hc4).1) (by decide) (by decide) ?_
      show Steps p.tables e below (s₁.setTop (mkF m 26 #[.val (.long pt), .second, .val (.long po), .second, .val (.long pu), .second, .val (.long pv), .second, .val (.int pb), .val (.int pd), .val (.long v1), .second, .unset, .unset, .unset, .unset, .unset, .unset, .unset] [])) _
      refine XS.lload X0.here hx rfl (hb hby at_26) rfl ?_
      show Steps p.tables e below (s₁.setTop (mkF m 28 #[.val (.long pt), .second, .val (.long po), .second, .val (.long pu), .second, .val (.long pv), .second, .val (.int pb), .val (.int pd), .val (.long v1), .second, .unset, .unset, .unset, .unset, .unset, .unset, .unset] [(.long pv)])) _
      have qv3 : v3 = pv := by rw [hv3, if_pos hc4]
      subst qv3
      exact k
    · refine XS.ifNo X0.here hx rfl (hb hby at_19) rfl ((if0 _ _).trans (feq hc4).1) ?_
      show Steps p.tables e below (s₁.setTop (mkF m 22 #[.val (.long pt), .second, .val (.long po), .second, .val (.long pu), .second, .val (.long pv), .second, .val (.int pb), .val (.int pd), .val (.long v1), .second, .unset, .unset, .unset, .unset, .unset, .unset, .unset] [])) _
      refine XS.lloadN X0.here hx rfl (hb hby at_22) rfl ?_
      show Steps p.tables e below (s₁.setTop (mkF m 23 #[.val (.long pt), .second, .val (.long po), .second, .val (.long pu), .second, .val (.long pv), .second, .val (.int pb), .val (.int pd), .val (.long v1), .second, .unset, .unset, .unset, .unset, .unset, .unset, .unset] [(.long po)])) _
      refine XS.goto X0.here hx rfl (pc0 := 23) (pc' := 28) rfl (hb hby at_23) (by decide) (by decide) ?_
      show Steps p.tables e below (s₁.setTop (mkF m 28 #[.val (.long pt), .second, .val (.long po), .second, .val (.long pu), .second, .val (.long pv), .second, .val (.int pb), .val (.int pd), .val (.long v1), .second, .unset, .unset, .unset, .unset, .unset, .unset, .unset] [(.long po)])) _
      have qv3 : v3 = po := by rw [hv3, if_neg hc4]
      subst qv3
      exact k
  show Goes p.tables e below (s₁.setTop (mkF m 28 #[.val (.long pt), .second, .val (.long po), .second, .val (.long pu), .second, .val (.long pv), .second, .val (.int pb), .val (.int pd), .val (.long v1), .second, .unset, .unset, .unset, .unset, .unset, .unset, .unset] [(.long v3)])) _
  refine Goes.by (fun _ k => XS.lstore X0.here hx rfl (hb hby at_28) rfl (l' := #[.val (.long pt), .second, .val (.long po), .second, .val (.long pu), .second, .val (.long pv), .second, .val (.int pb), .val (.int pd), .val (.long v1), .second, .val (.long v3), .second, .unset, .unset, .unset, .unset, .unset]) rfl k) ?_
  show Goes p.tables e below (s₁.setTop (mkF m 30 #[.val (.long pt), .second, .val (.long po), .second, .val (.long pu), .second, .val (.long pv), .second, .val (.int pb), .val (.int pd), .val (.long v1), .second, .val (.long v3), .second, .unset, .unset, .unset, .unset, .unset] [])) _
  obtain ⟨T5, h5, X5, e5, E5, A5, D5, -, st5⟩ := newO X0 hx hZ hown (hw _ (List.mem_of_getElem? (i := 0) rfl)) (hw _ (List.mem_of_getElem? (i := 1) rfl)) (hw _ (List.mem_of_getElem? (i := 2) rfl)) e0 (g := (mkF m 30 #[.val (.long pt), .second, .val (.long po), .second, .val (.long pu), .second, .val (.long pv), .second, .val (.int pb), .val (.int pd), .val (.long v1), .second, .val (.long v3), .second, .unset, .unset, .unset, .unset, .unset] [])) rfl (hb hby at_30) (by decide) (by decide)
  obtain ⟨b5, g5⟩ : ∃ z, z = h0.size := ⟨_, rfl⟩
  rw [← g5] at A5 D5 st5
  have g_b5 : n0 ≤ b5 := Nat.le_trans Z0 (Nat.le_of_eq g5.symm)
  have sz_b5 : h0.size ≤ b5 := Nat.le_trans (Keep.refl h0 []).1 (Nat.le_of_eq g5.symm)
  have Zs5 : n0 ≤ h5.size := Nat.le_trans Z0 E5.1
  have K5 : Keep h0 h5 [] := (Keep.refl h0 []).ext E5
  refine Goes.by st5 ?_
  have E_b5 : Exa Z h5 b5 "com/example/gongshu/gongshu/store/DelayedMessages$Due" := A5
  have F_b5_dueTime : Fld Z h5 b5 "com/example/gongshu/gongshu/store/DelayedMessages$Due" "dueTime" "J" (.long (0 : Int64)) := D5 (Or.inr (hw _ (List.mem_of_getElem? (i := 15) rfl))) (ty := .long) (by decide)
  have F_b5_offset : Fld Z h5 b5 "com/example/gongshu/gongshu/store/DelayedMessages$Due" "offset" "J" (.long (0 : Int64)) := D5 (Or.inr (hw _ (List.mem_of_getElem? (i := 17) rfl))) (ty := .long) (by decide)
  have F_b5_bodyBytes : Fld Z h5 b5 "com/example/gongshu/gongshu/store/DelayedMessages$Due" "bodyBytes" "I" (.int (0 : Int32)) := D5 (Or.inr (hw _ (List.mem_of_getElem? (i := 19) rfl))) (ty := .int) (by decide)
  show Goes p.tables e below (T5.setTop (mkF m 33 #[.val (.long pt), .second, .val (.long po), .second, .val (.long pu), .second, .val (.long pv), .second, .val (.int pb), .val (.int pd), .val (.long v1), .second, .val (.long v3), .second, .unset, .unset, .unset, .unset, .unset] [(.ref b5)])) _
  refine Goes.by (fun _ k => XS.dup X5.here hx rfl (hb hby at_33) rfl rfl k) ?_
  show Goes p.tables e below (T5.setTop (mkF m 34 #[.val (.long pt), .second, .val (.long po), .second, .val (.long pu), .second, .val (.long pv), .second, .val (.int pb), .val (.int pd), .val (.long v1), .second, .val (.long v3), .second, .unset, .unset, .unset, .unset, .unset] [(.ref b5), (.ref b5)])) _
  refine Goes.by (fun _ k => XS.lloadN X5.here hx rfl (hb hby at_34) rfl k) ?_
  show Goes p.tables e below (T5.setTop (mkF m 35 #[.val (.long pt), .second, .val (.long po), .second, .val (.long pu), .second, .val (.long pv), .second, .val (.int pb), .val (.int pd), .val (.long v1), .second, .val (.long v3), .second, .unset, .unset, .unset, .unset, .unset] [(.long pt), (.ref b5), (.ref b5)])) _
  refine Goes.by (fun _ k => XS.lloadN X5.here hx rfl (hb hby at_35) rfl k) ?_
  show Goes p.tables e below (T5.setTop (mkF m 36 #[.val (.long pt), .second, .val (.long po), .second, .val (.long pu), .second, .val (.long pv), .second, .val (.int pb), .val (.int pd), .val (.long v1), .second, .val (.long v3), .second, .unset, .unset, .unset, .unset, .unset] [(.long po), (.long pt), (.ref b5), (.ref b5)])) _
  refine Goes.by (fun _ k => XS.iload X5.here hx rfl (hb hby at_36) rfl k) ?_
  show Goes p.tables e below (T5.setTop (mkF m 38 #[.val (.long pt), .second, .val (.long po), .second, .val (.long pu), .second, .val (.long pv), .second, .val (.int pb), .val (.int pd), .val (.long v1), .second, .val (.long v3), .second, .unset, .unset, .unset, .unset, .unset] [(.int pb), (.long po), (.long pt), (.ref b5), (.ref b5)])) _
  obtain ⟨_, _, ⟨T6, L6, k6, n6⟩, -, X6, ⟨Lc6, hQ6, l6, y6, z6⟩, st6⟩ := X5.specialBack hx (y := (⟨"com/example/gongshu/gongshu/store/DelayedMessages$Due", "<init>", "(JJI)V"⟩ : MethodName)) rfl hown (mvT hZ (hw _ (List.mem_of_getElem? (i := 3) rfl))) (mvT hZ (hw _ (List.mem_of_getElem? (i := 4) rfl))) (mvT hZ (hw _ (List.mem_of_getElem? (i := 5) rfl))) (by decide) (backOf (W := 1) (rm1 l Z a0 hw [] b5 pt po pb h5 n0 Zs5 E_b5 F_b5_dueTime F_b5_offset F_b5_bodyBytes g_b5) hZ (hw _ (List.mem_of_getElem? (i := 5) rfl)) (hw _ (List.mem_of_getElem? (i := 2) rfl)) (by decide) (by decide)) (g := (mkF m 38 #[.val (.long pt), .second, .val (.long po), .second, .val (.long pu), .second, .val (.long pv), .second, .val (.int pb), .val (.int pd), .val (.long v1), .second, .val (.long v3), .second, .unset, .unset, .unset, .unset, .unset] [(.int pb), (.long po), (.long pt), (.ref b5), (.ref b5)])) rfl (by rw [hml]; rfl) (Steps.refl _) (a := b5) (argsL := [(.long pt), (.long po), (.int pb)]) (rest := [(.ref b5)]) (lenOf pd_2 rfl) rfl (by show 2 * 0 + _ ≤ _; exact Nat.le_of_eq rfl) (hb hby at_38) (fun _ _ => ⟨rfl, e5, (by decide : 1 + 0 ≤ _), (by decide : 3 + 0 ≤ _)⟩)
  dsimp only [Pt.U, Pt.locs, Pt.cells, Pt.slots] at X6 l6 y6 z6 st6 hQ6
  subst l6 y6 z6
  obtain ⟨rfl, N6q, Kq6, po6_0, po6_1, po6_2, po6_3⟩ := hQ6
  have N6 := Fr.app N0 N6q
  refine Goes.via st6 ?_
  have Zs6 : n0 ≤ T6.heap.size := Nat.le_trans Zs5 Kq6.1
  have K6 : Keep h0 T6.heap [] := K5.trans Kq6 (allS (Or.inr sz_b5) all0)
  have E_b5 : Exa Z T6.heap b5 "com/example/gongshu/gongshu/store/DelayedMessages$Due" := E_b5.keep Kq6
  have E_b5 : Exa Z T6.heap b5 "com/example/gongshu/gongshu/store/DelayedMessages$Due" := po6_0
  have F_b5_dueTime : Fld Z T6.heap b5 "com/example/gongshu/gongshu/store/DelayedMessages$Due" "dueTime" "J" (.long pt) := po6_1
  have F_b5_offset : Fld Z T6.heap b5 "com/example/gongshu/gongshu/store/DelayedMessages$Due" "offset" "J" (.long po) := po6_2
  have F_b5_bodyBytes : Fld Z T6.heap b5 "com/example/gongshu/gongshu/store/DelayedMessages$Due" "bodyBytes" "I" (.int pb) := po6_3
  show Goes p.tables e below (T6.setTop (mkF m 41 #[.val (.long pt), .second, .val (.long po), .second, .val (.long pu), .second, .val (.long pv), .second, .val (.int pb), .val (.int pd), .val (.long v1), .second, .val (.long v3), .second, .unset, .unset, .unset, .unset, .unset] [(.ref b5)])) _
  refine Goes.by (fun _ k => XS.astore X6.here hx rfl (hb hby at_41) rfl rfl (l' := #[.val (.long pt), .second, .val (.long po), .second, .val (.long pu), .second, .val (.long pv), .second, .val (.int pb), .val (.int pd), .val (.long v1), .second, .val (.long v3), .second, .val (.ref b5), .unset, .unset, .unset, .unset]) rfl k) ?_
  show Goes p.tables e below (T6.setTop (mkF m 43 #[.val (.long pt), .second, .val (.long po), .second, .val (.long pu), .second, .val (.long pv), .second, .val (.int pb), .val (.int pd), .val (.long v1), .second, .val (.long v3), .second, .val (.ref b5), .unset, .unset, .unset, .unset] [])) _
  obtain ⟨T7, h7, X7, e7, E7, A7, D7, -, st7⟩ := newO X6 hx hZ hown (hw _ (List.mem_of_getElem? (i := 0) rfl)) (hw _ (List.mem_of_getElem? (i := 1) rfl)) (hw _ (List.mem_of_getElem? (i := 2) rfl)) rfl (g := (mkF m 43 #[.val (.long pt), .second, .val (.long po), .second, .val (.long pu), .second, .val (.long pv), .second, .val (.int pb), .val (.int pd), .val (.long v1), .second, .val (.long v3), .second, .val (.ref b5), .unset, .unset, .unset, .unset] [])) rfl (hb hby at_43) (by decide) (by decide)
  obtain ⟨b7, g7⟩ : ∃ z, z = T6.heap.size := ⟨_, rfl⟩
  rw [← g7] at A7 D7 st7
  have g_b7 : n0 ≤ b7 := Nat.le_trans Zs6 (Nat.le_of_eq g7.symm)
  have sz_b7 : h0.size ≤ b7 := Nat.le_trans K6.1 (Nat.le_of_eq g7.symm)
  have ne_b5_b7 : b5 ≠ b7 := Nat.ne_of_lt (Nat.lt_of_lt_of_le E_b5.lt (Nat.le_of_eq g7.symm))
  have Zs7 : n0 ≤ h7.size := Nat.le_trans Zs6 E7.1
  have K7 : Keep h0 h7 [] := K6.ext E7
  refine Goes.by st7 ?_
  have E_b5 : Exa Z h7 b5 "com/example/gongshu/gongshu/store/DelayedMessages$Due" := E_b5.ext E7
  have F_b5_dueTime : Fld Z h7 b5 "com/example/gongshu/gongshu/store/DelayedMessages$Due" "dueTime" "J" (.long pt) := F_b5_dueTime.ext E7
  have F_b5_offset : Fld Z h7 b5 "com/example/gongshu/gongshu/store/DelayedMessages$Due" "offset" "J" (.long po) := F_b5_offset.ext E7
  have F_b5_bodyBytes : Fld Z h7 b5 "com/example/gongshu/gongshu/store/DelayedMessages$Due" "bodyBytes" "I" (.int pb) := F_b5_bodyBytes.ext E7
  have E_b7 : Exa Z h7 b7 "com/example/gongshu/gongshu/store/DelayedMessages$Due" := A7
  have F_b7_dueTime : Fld Z h7 b7 "com/example/gongshu/gongshu/store/DelayedMessages$Due" "dueTime" "J" (.long (0 : Int64)) := D7 (Or.inr (hw _ (List.mem_of_getElem? (i := 15) rfl))) (ty := .long) (by decide)
  have F_b7_offset : Fld Z h7 b7 "com/example/gongshu/gongshu/store/DelayedMessages$Due" "offset" "J" (.long (0 : Int64)) := D7 (Or.inr (hw _ (List.mem_of_getElem? (i := 17) rfl))) (ty := .long) (by decide)
  have F_b7_bodyBytes : Fld Z h7 b7 "com/example/gongshu/gongshu/store/DelayedMessages$Due" "bodyBytes" "I" (.int (0 : Int32)) := D7 (Or.inr (hw _ (List.mem_of_getElem? (i := 19) rfl))) (ty := .int) (by decide)
  show Goes p.tables e below (T7.setTop (mkF m 46 #[.val (.long pt), .second, .val (.long po), .second, .val (.long pu), .second, .val (.long pv), .second, .val (.int pb), .val (.int pd), .val (.long v1), .second, .val (.long v3), .second, .val (.ref b5), .unset, .unset, .unset, .unset] [(.ref b7)])) _
  refine Goes.by (fun _ k => XS.dup X7.here hx rfl (hb hby at_46) rfl rfl k) ?_
  show Goes p.tables e below (T7.setTop (mkF m 47 #[.val (.long pt), .second, .val (.long po), .second, .val (.long pu), .second, .val (.long pv), .second, .val (.int pb), .val (.int pd), .val (.long v1), .second, .val (.long v3), .second, .val (.ref b5), .unset, .unset, .unset, .unset] [(.ref b7), (.ref b7)])) _
  refine Goes.by (fun _ k => XS.lload X7.here hx rfl (hb hby at_47) rfl k) ?_
  show Goes p.tables e below (T7.setTop (mkF m 49 #[.val (.long pt), .second, .val (.long po), .second, .val (.long pu), .second, .val (.long pv), .second, .val (.int pb), .val (.int pd), .val (.long v1), .second, .val (.long v3), .second, .val (.ref b5), .unset, .unset, .unset, .unset] [(.long v1), (.ref b7), (.ref b7)])) _
  refine Goes.by (fun _ k => XS.lload X7.here hx rfl (hb hby at_49) rfl k) ?_
  show Goes p.tables e below (T7.setTop (mkF m 51 #[.val (.long pt), .second, .val (.long po), .second, .val (.long pu), .second, .val (.long pv), .second, .val (.int pb), .val (.int pd), .val (.long v1), .second, .val (.long v3), .second, .val (.ref b5), .unset, .unset, .unset, .unset] [(.long v3), (.long v1), (.ref b7), (.ref b7)])) _
  refine Goes.by (fun _ k => XS.iload X7.here hx rfl (hb hby at_51) rfl k) ?_
  show Goes p.tables e below (T7.setTop (mkF m 53 #[.val (.long pt), .second, .val (.long po), .second, .val (.long pu), .second, .val (.long pv), .second, .val (.int pb), .val (.int pd), .val (.long v1), .second, .val (.long v3), .second, .val (.ref b5), .unset, .unset, .unset, .unset] [(.int pd), (.long v3), (.long v1), (.ref b7), (.ref b7)])) _
  obtain ⟨_, _, ⟨T8, L8, k8, n8⟩, -, X8, ⟨Lc8, hQ8, l8, y8, z8⟩, st8⟩ := X7.specialBack hx (y := (⟨"com/example/gongshu/gongshu/store/DelayedMessages$Due", "<init>", "(JJI)V"⟩ : MethodName)) rfl hown (mvT hZ (hw _ (List.mem_of_getElem? (i := 3) rfl))) (mvT hZ (hw _ (List.mem_of_getElem? (i := 4) rfl))) (mvT hZ (hw _ (List.mem_of_getElem? (i := 5) rfl))) (by decide) (backOf (W := 1) (rm1 l Z a0 hw [] b7 v1 v3 pd h7 n0 Zs7 E_b7 F_b7_dueTime F_b7_offset F_b7_bodyBytes g_b7) hZ (hw _ (List.mem_of_getElem? (i := 5) rfl)) (hw _ (List.mem_of_getElem? (i := 2) rfl)) (by decide) (by decide)) (g := (mkF m 53 #[.val (.long pt), .second, .val (.long po), .second, .val (.long pu), .second, .val (.long pv), .second, .val (.int pb), .val (.int pd), .val (.long v1), .second, .val (.long v3), .second, .val (.ref b5), .unset, .unset, .unset, .unset] [(.int pd), (.long v3), (.long v1), (.ref b7), (.ref b7)])) rfl (by rw [hml]; rfl) (Steps.refl _) (a := b7) (argsL := [(.long v1), (.long v3), (.int pd)]) (rest := [(.ref b7)]) (lenOf pd_2 rfl) rfl (by show 2 * 0 + _ ≤ _; exact Nat.le_of_eq rfl) (hb hby at_53) (fun _ _ => ⟨rfl, e7, (by decide : 2 + 0 ≤ _), (by decide : 6 + 0 ≤ _)⟩)
  dsimp only [Pt.U, Pt.locs, Pt.cells, Pt.slots] at X8 l8 y8 z8 st8 hQ8
  subst l8 y8 z8
  obtain ⟨rfl, N8q, Kq8, po8_0, po8_1, po8_2, po8_3⟩ := hQ8
  have N8 := Fr.app N6 N8q
  refine Goes.via st8 ?_
  have Zs8 : n0 ≤ T8.heap.size := Nat.le_trans Zs7 Kq8.1
  have K8 : Keep h0 T8.heap [] := K7.trans Kq8 (allS (Or.inr sz_b7) all0)
  have E_b5 : Exa Z T8.heap b5 "com/example/gongshu/gongshu/store/DelayedMessages$Due" := E_b5.keep Kq8
  have F_b5_dueTime : Fld Z T8.heap b5 "com/example/gongshu/gongshu/store/DelayedMessages$Due" "dueTime" "J" (.long pt) := F_b5_dueTime.keep Kq8 (ninS ne_b5_b7 nin0)
  have F_b5_offset : Fld Z T8.heap b5 "com/example/gongshu/gongshu/store/DelayedMessages$Due" "offset" "J" (.long po) := F_b5_offset.keep Kq8 (ninS ne_b5_b7 nin0)
  have F_b5_bodyBytes : Fld Z T8.heap b5 "com/example/gongshu/gongshu/store/DelayedMessages$Due" "bodyBytes" "I" (.int pb) := F_b5_bodyBytes.keep Kq8 (ninS ne_b5_b7 nin0)
  have E_b7 : Exa Z T8.heap b7 "com/example/gongshu/gongshu/store/DelayedMessages$Due" := E_b7.keep Kq8
  have E_b7 : Exa Z T8.heap b7 "com/example/gongshu/gongshu/store/DelayedMessages$Due" := po8_0
  have F_b7_dueTime : Fld Z T8.heap b7 "com/example/gongshu/gongshu/store/DelayedMessages$Due" "dueTime" "J" (.long v1) := po8_1
  have F_b7_offset : Fld Z T8.heap b7 "com/example/gongshu/gongshu/store/DelayedMessages$Due" "offset" "J" (.long v3) := po8_2
  have F_b7_bodyBytes : Fld Z T8.heap b7 "com/example/gongshu/gongshu/store/DelayedMessages$Due" "bodyBytes" "I" (.int pd) := po8_3
  show Goes p.tables e below (T8.setTop (mkF m 56 #[.val (.long pt), .second, .val (.long po), .second, .val (.long pu), .second, .val (.long pv), .second, .val (.int pb), .val (.int pd), .val (.long v1), .second, .val (.long v3), .second, .val (.ref b5), .unset, .unset, .unset, .unset] [(.ref b7)])) _
  refine Goes.by (fun _ k => XS.astore X8.here hx rfl (hb hby at_56) rfl rfl (l' := #[.val (.long pt), .second, .val (.long po), .second, .val (.long pu), .second, .val (.long pv), .second, .val (.int pb), .val (.int pd), .val (.long v1), .second, .val (.long v3), .second, .val (.ref b5), .val (.ref b7), .unset, .unset, .unset]) rfl k) ?_
  show Goes p.tables e below (T8.setTop (mkF m 58 #[.val (.long pt), .second, .val (.long po), .second, .val (.long pu), .second, .val (.long pv), .second, .val (.int pb), .val (.int pd), .val (.long v1), .second, .val (.long v3), .second, .val (.ref b5), .val (.ref b7), .unset, .unset, .unset] [])) _
  refine Goes.by (fun _ k => XS.lloadN X8.here hx rfl (hb hby at_58) rfl k) ?_
  show Goes p.tables e below (T8.setTop (mkF m 59 #[.val (.long pt), .second, .val (.long po), .second, .val (.long pu), .second, .val (.long pv), .second, .val (.int pb), .val (.int pd), .val (.long v1), .second, .val (.long v3), .second, .val (.ref b5), .val (.ref b7), .unset, .unset, .unset] [(.long pt)])) _
  refine Goes.by (fun _ k => XS.lloadN X8.here hx rfl (hb hby at_59) rfl k) ?_
  show Goes p.tables e below (T8.setTop (mkF m 60 #[.val (.long pt), .second, .val (.long po), .second, .val (.long pu), .second, .val (.long pv), .second, .val (.int pb), .val (.int pd), .val (.long v1), .second, .val (.long v3), .second, .val (.ref b5), .val (.ref b7), .unset, .unset, .unset] [(.long po), (.long pt)])) _
  refine Goes.by (fun _ k => XS.lload X8.here hx rfl (hb hby at_60) rfl k) ?_
  show Goes p.tables e below (T8.setTop (mkF m 62 #[.val (.long pt), .second, .val (.long po), .second, .val (.long pu), .second, .val (.long pv), .second, .val (.int pb), .val (.int pd), .val (.long v1), .second, .val (.long v3), .second, .val (.ref b5), .val (.ref b7), .unset, .unset, .unset] [(.long v1), (.long po), (.long pt)])) _
  refine Goes.by (fun _ k => XS.lload X8.here hx rfl (hb hby at_62) rfl k) ?_
  show Goes p.tables e below (T8.setTop (mkF m 64 #[.val (.long pt), .second, .val (.long po), .second, .val (.long pu), .second, .val (.long pv), .second, .val (.int pb), .val (.int pd), .val (.long v1), .second, .val (.long v3), .second, .val (.ref b5), .val (.ref b7), .unset, .unset, .unset] [(.long v3), (.long v1), (.long po), (.long pt)])) _
  obtain ⟨_, _, ⟨T9, L9, k9, n9⟩, -, X9, ⟨Lc9, hQ9, l9, y9, z9⟩, st9⟩ := Jvm.LawKit.callS X8 hx (y := (⟨"com/example/gongshu/gongshu/store/DueCompareToPinLaw", "expected", "(JJJJ)I"⟩ : MethodName)) hown (mvT hZ (hw _ (List.mem_of_getElem? (i := 20) rfl))) (mvT hZ (hw _ (List.mem_of_getElem? (i := 21) rfl))) (mvT hZ (hw _ (List.mem_of_getElem? (i := 22) rfl))) (mvT hZ (hw _ (List.mem_of_getElem? (i := 23) rfl))) (by decide) (backOf (W := 0) (rm4 l Z a0 hw [] pt po v1 v3 T8.heap n0 Zs8) hZ (hw _ (List.mem_of_getElem? (i := 23) rfl)) (hw _ (List.mem_of_getElem? (i := 22) rfl)) (by decide) (by decide)) (g := (mkF m 64 #[.val (.long pt), .second, .val (.long po), .second, .val (.long pu), .second, .val (.long pv), .second, .val (.int pb), .val (.int pd), .val (.long v1), .second, .val (.long v3), .second, .val (.ref b5), .val (.ref b7), .unset, .unset, .unset] [(.long v3), (.long v1), (.long po), (.long pt)])) rfl (by rw [hml]; rfl) (argsL := [(.long pt), (.long po), (.long v1), (.long v3)]) (rest := []) (lenOf pd_3 rfl) rfl (by show 2 * 0 + _ ≤ _; exact Nat.le_of_eq rfl) (hb hby at_64) (fun _ _ => ⟨rfl, rfl, (by decide : 2 + 0 ≤ _), (by decide : 6 + 0 ≤ _)⟩)
  dsimp only [Pt.U, Pt.locs, Pt.cells, Pt.slots] at X9 l9 y9 z9 st9 hQ9
  subst l9 y9 z9
  obtain ⟨rfl, N9q, e9⟩ := hQ9
  have N9 := Fr.app N8 N9q
  refine Goes.by st9 ?_
  show Goes p.tables e below (T9.setTop (mkF m 67 #[.val (.long pt), .second, .val (.long po), .second, .val (.long pu), .second, .val (.long pv), .second, .val (.int pb), .val (.int pd), .val (.long v1), .second, .val (.long v3), .second, .val (.ref b5), .val (.ref b7), .unset, .unset, .unset] [(.int (fn4 pt po v1 v3))])) _
  obtain ⟨x10, hx10⟩ : ∃ z : Int32, z = (fn4 pt po v1 v3) := ⟨_, rfl⟩
  refine Goes.by (fun _ k => XS.istore X9.here hx rfl (hb hby at_67) rfl (l' := #[.val (.long pt), .second, .val (.long po), .second, .val (.long pu), .second, .val (.long pv), .second, .val (.int pb), .val (.int pd), .val (.long v1), .second, .val (.long v3), .second, .val (.ref b5), .val (.ref b7), .val (.int x10), .unset, .unset]) (by rw [hx10]; rfl) k) ?_
  show Goes p.tables e below (T9.setTop (mkF m 69 #[.val (.long pt), .second, .val (.long po), .second, .val (.long pu), .second, .val (.long pv), .second, .val (.int pb), .val (.int pd), .val (.long v1), .second, .val (.long v3), .second, .val (.ref b5), .val (.ref b7), .val (.int x10), .unset, .unset] [])) _
  refine Goes.by (fun _ k => XS.aload X9.here hx rfl (hb hby at_69) rfl rfl k) ?_
  show Goes p.tables e below (T9.setTop (mkF m 71 #[.val (.long pt), .second, .val (.long po), .second, .val (.long pu), .second, .val (.long pv), .second, .val (.int pb), .val (.int pd), .val (.long v1), .second, .val (.long v3), .second, .val (.ref b5), .val (.ref b7), .val (.int x10), .unset, .unset] [(.ref b5)])) _
  refine Goes.by (fun _ k => XS.aload X9.here hx rfl (hb hby at_71) rfl rfl k) ?_
  show Goes p.tables e below (T9.setTop (mkF m 73 #[.val (.long pt), .second, .val (.long po), .second, .val (.long pu), .second, .val (.long pv), .second, .val (.int pb), .val (.int pd), .val (.long v1), .second, .val (.long v3), .second, .val (.ref b5), .val (.ref b7), .val (.int x10), .unset, .unset] [(.ref b7), (.ref b5)])) _
  obtain ⟨cq11, kq11, q11a, q11b, q11c⟩ := isOf hZ e9 E_b5
  obtain ⟨_, _, ⟨T11, L11, k11, n11⟩, -, X11, ⟨Lc11, hQ11, l11, y11, z11⟩, st11⟩ := X9.virtualBack hx (y := (⟨"com/example/gongshu/gongshu/store/DelayedMessages$Due", "compareTo", "(Lcom/example/gongshu/gongshu/store/DelayedMessages$Due;)I"⟩ : MethodName)) (z := (⟨"com/example/gongshu/gongshu/store/DelayedMessages$Due", "compareTo", "(Lcom/example/gongshu/gongshu/store/DelayedMessages$Due;)I"⟩ : MethodName)) hown (mvT hZ (hw _ (List.mem_of_getElem? (i := 24) rfl))) (mvT hZ (hw _ (List.mem_of_getElem? (i := 25) rfl))) (notFace_of_selects (args := #[]) (mvT hZ (hw _ (List.mem_of_getElem? (i := 27) rfl)))) (mvT hZ (hw _ (List.mem_of_getElem? (i := 27) rfl))) (mvT hZ (hw _ (List.mem_of_getElem? (i := 26) rfl))) (by decide) (backOf (W := 0) (rm5 l Z a0 hw [] b5 b7 pt po v1 v3 T8.heap n0 Zs8 F_b5_dueTime F_b5_offset F_b7_dueTime F_b7_offset) hZ (hw _ (List.mem_of_getElem? (i := 28) rfl)) (hw _ (List.mem_of_getElem? (i := 2) rfl)) (by decide) (by decide)) q11a q11c (g := (mkF m 73 #[.val (.long pt), .second, .val (.long po), .second, .val (.long pu), .second, .val (.long pv), .second, .val (.int pb), .val (.int pd), .val (.long v1), .second, .val (.long v3), .second, .val (.ref b5), .val (.ref b7), .val (.int x10), .unset, .unset] [(.ref b7), (.ref b5)])) rfl (by rw [hml]; rfl) (Steps.refl _) (argsL := [(.ref b7)]) (rest := []) (lenOf pd_4 rfl) rfl (by show 2 * 0 + _ ≤ _; exact Nat.le_of_eq rfl) (hb hby at_73) (fun _ _ => ⟨rfl, e9, (by decide : 2 + 0 ≤ _), (by decide : 6 + 0 ≤ _)⟩)
  dsimp only [Pt.U, Pt.locs, Pt.cells, Pt.slots] at X11 l11 y11 z11 st11 hQ11
  subst l11 y11 z11
  obtain ⟨rfl, N11q, e11⟩ := hQ11
  have N11 := Fr.app N9 N11q
  refine Goes.via st11 ?_
  show Goes p.tables e below (T11.setTop (mkF m 76 #[.val (.long pt), .second, .val (.long po), .second, .val (.long pu), .second, .val (.long pv), .second, .val (.int pb), .val (.int pd), .val (.long v1), .second, .val (.long v3), .second, .val (.ref b5), .val (.ref b7), .val (.int x10), .unset, .unset] [(.int (fn5 pt po v1 v3))])) _
  obtain ⟨_, _, ⟨T12, L12, k12, n12⟩, -, X12, ⟨Lc12, hQ12, l12, y12, z12⟩, st12⟩ := Jvm.LawKit.callS X11 hx (y := (⟨"com/example/gongshu/gongshu/store/DueCompareToPinLaw", "sign", "(I)I"⟩ : MethodName)) hown (mvT hZ (hw _ (List.mem_of_getElem? (i := 33) rfl))) (mvT hZ (hw _ (List.mem_of_getElem? (i := 34) rfl))) (mvT hZ (hw _ (List.mem_of_getElem? (i := 22) rfl))) (mvT hZ (hw _ (List.mem_of_getElem? (i := 35) rfl))) (by decide) (backOf (W := 0) (rm7 l Z a0 hw [] (fn5 pt po v1 v3) T8.heap n0 Zs8) hZ (hw _ (List.mem_of_getElem? (i := 35) rfl)) (hw _ (List.mem_of_getElem? (i := 22) rfl)) (by decide) (by decide)) (g := (mkF m 76 #[.val (.long pt), .second, .val (.long po), .second, .val (.long pu), .second, .val (.long pv), .second, .val (.int pb), .val (.int pd), .val (.long v1), .second, .val (.long v3), .second, .val (.ref b5), .val (.ref b7), .val (.int x10), .unset, .unset] [(.int (fn5 pt po v1 v3))])) rfl (by rw [hml]; rfl) (argsL := [(.int (fn5 pt po v1 v3))]) (rest := []) (lenOf pd_5 rfl) rfl (by show 2 * 0 + _ ≤ _; exact Nat.le_of_eq rfl) (hb hby at_76) (fun _ _ => ⟨rfl, e11, (by decide : 2 + 0 ≤ _), (by decide : 6 + 0 ≤ _)⟩)
  dsimp only [Pt.U, Pt.locs, Pt.cells, Pt.slots] at X12 l12 y12 z12 st12 hQ12
  subst l12 y12 z12
  obtain ⟨rfl, N12q, e12⟩ := hQ12
  have N12 := Fr.app N11 N12q
  refine Goes.by st12 ?_
  show Goes p.tables e below (T12.setTop (mkF m 79 #[.val (.long pt), .second, .val (.long po), .second, .val (.long pu), .second, .val (.long pv), .second, .val (.int pb), .val (.int pd), .val (.long v1), .second, .val (.long v3), .second, .val (.ref b5), .val (.ref b7), .val (.int x10), .unset, .unset] [(.int (fn7 (fn5 pt po v1 v3)))])) _
  obtain ⟨x13, hx13⟩ : ∃ z : Int32, z = (fn7 (fn5 pt po v1 v3)) := ⟨_, rfl⟩
  refine Goes.by (fun _ k => XS.istore X12.here hx rfl (hb hby at_79) rfl (l' := #[.val (.long pt), .second, .val (.long po), .second, .val (.long pu), .second, .val (.long pv), .second, .val (.int pb), .val (.int pd), .val (.long v1), .second, .val (.long v3), .second, .val (.ref b5), .val (.ref b7), .val (.int x10), .val (.int x13), .unset]) (by rw [hx13]; rfl) k) ?_
  show Goes p.tables e below (T12.setTop (mkF m 81 #[.val (.long pt), .second, .val (.long po), .second, .val (.long pu), .second, .val (.long pv), .second, .val (.int pb), .val (.int pd), .val (.long v1), .second, .val (.long v3), .second, .val (.ref b5), .val (.ref b7), .val (.int x10), .val (.int x13), .unset] [])) _
  refine Goes.by (fun _ k => XS.aload X12.here hx rfl (hb hby at_81) rfl rfl k) ?_
  show Goes p.tables e below (T12.setTop (mkF m 83 #[.val (.long pt), .second, .val (.long po), .second, .val (.long pu), .second, .val (.long pv), .second, .val (.int pb), .val (.int pd), .val (.long v1), .second, .val (.long v3), .second, .val (.ref b5), .val (.ref b7), .val (.int x10), .val (.int x13), .unset] [(.ref b7)])) _
  refine Goes.by (fun _ k => XS.aload X12.here hx rfl (hb hby at_83) rfl rfl k) ?_
  show Goes p.tables e below (T12.setTop (mkF m 85 #[.val (.long pt), .second, .val (.long po), .second, .val (.long pu), .second, .val (.long pv), .second, .val (.int pb), .val (.int pd), .val (.long v1), .second, .val (.long v3), .second, .val (.ref b5), .val (.ref b7), .val (.int x10), .val (.int x13), .unset] [(.ref b5), (.ref b7)])) _
  obtain ⟨cq14, kq14, q14a, q14b, q14c⟩ := isOf hZ e12 E_b7
  obtain ⟨_, _, ⟨T14, L14, k14, n14⟩, -, X14, ⟨Lc14, hQ14, l14, y14, z14⟩, st14⟩ := X12.virtualBack hx (y := (⟨"com/example/gongshu/gongshu/store/DelayedMessages$Due", "compareTo", "(Lcom/example/gongshu/gongshu/store/DelayedMessages$Due;)I"⟩ : MethodName)) (z := (⟨"com/example/gongshu/gongshu/store/DelayedMessages$Due", "compareTo", "(Lcom/example/gongshu/gongshu/store/DelayedMessages$Due;)I"⟩ : MethodName)) hown (mvT hZ (hw _ (List.mem_of_getElem? (i := 24) rfl))) (mvT hZ (hw _ (List.mem_of_getElem? (i := 25) rfl))) (notFace_of_selects (args := #[]) (mvT hZ (hw _ (List.mem_of_getElem? (i := 27) rfl)))) (mvT hZ (hw _ (List.mem_of_getElem? (i := 27) rfl))) (mvT hZ (hw _ (List.mem_of_getElem? (i := 26) rfl))) (by decide) (backOf (W := 0) (rm5 l Z a0 hw [] b7 b5 v1 v3 pt po T8.heap n0 Zs8 F_b7_dueTime F_b7_offset F_b5_dueTime F_b5_offset) hZ (hw _ (List.mem_of_getElem? (i := 28) rfl)) (hw _ (List.mem_of_getElem? (i := 2) rfl)) (by decide) (by decide)) q14a q14c (g := (mkF m 85 #[.val (.long pt), .second, .val (.long po), .second, .val (.long pu), .second, .val (.long pv), .second, .val (.int pb), .val (.int pd), .val (.long v1), .second, .val (.long v3), .second, .val (.ref b5), .val (.ref b7), .val (.int x10), .val (.int x13), .unset] [(.ref b5), (.ref b7)])) rfl (by rw [hml]; rfl) (Steps.refl _) (argsL := [(.ref b5)]) (rest := []) (lenOf pd_4 rfl) rfl (by show 2 * 0 + _ ≤ _; exact Nat.le_of_eq rfl) (hb hby at_85) (fun _ _ => ⟨rfl, e12, (by decide : 2 + 0 ≤ _), (by decide : 6 + 0 ≤ _)⟩)
  dsimp only [Pt.U, Pt.locs, Pt.cells, Pt.slots] at X14 l14 y14 z14 st14 hQ14
  subst l14 y14 z14
  obtain ⟨rfl, N14q, e14⟩ := hQ14
  have N14 := Fr.app N12 N14q
  refine Goes.via st14 ?_
  show Goes p.tables e below (T14.setTop (mkF m 88 #[.val (.long pt), .second, .val (.long po), .second, .val (.long pu), .second, .val (.long pv), .second, .val (.int pb), .val (.int pd), .val (.long v1), .second, .val (.long v3), .second, .val (.ref b5), .val (.ref b7), .val (.int x10), .val (.int x13), .unset] [(.int (fn5 v1 v3 pt po))])) _
  obtain ⟨_, _, ⟨T15, L15, k15, n15⟩, -, X15, ⟨Lc15, hQ15, l15, y15, z15⟩, st15⟩ := Jvm.LawKit.callS X14 hx (y := (⟨"com/example/gongshu/gongshu/store/DueCompareToPinLaw", "sign", "(I)I"⟩ : MethodName)) hown (mvT hZ (hw _ (List.mem_of_getElem? (i := 33) rfl))) (mvT hZ (hw _ (List.mem_of_getElem? (i := 34) rfl))) (mvT hZ (hw _ (List.mem_of_getElem? (i := 22) rfl))) (mvT hZ (hw _ (List.mem_of_getElem? (i := 35) rfl))) (by decide) (backOf (W := 0) (rm7 l Z a0 hw [] (fn5 v1 v3 pt po) T8.heap n0 Zs8) hZ (hw _ (List.mem_of_getElem? (i := 35) rfl)) (hw _ (List.mem_of_getElem? (i := 22) rfl)) (by decide) (by decide)) (g := (mkF m 88 #[.val (.long pt), .second, .val (.long po), .second, .val (.long pu), .second, .val (.long pv), .second, .val (.int pb), .val (.int pd), .val (.long v1), .second, .val (.long v3), .second, .val (.ref b5), .val (.ref b7), .val (.int x10), .val (.int x13), .unset] [(.int (fn5 v1 v3 pt po))])) rfl (by rw [hml]; rfl) (argsL := [(.int (fn5 v1 v3 pt po))]) (rest := []) (lenOf pd_5 rfl) rfl (by show 2 * 0 + _ ≤ _; exact Nat.le_of_eq rfl) (hb hby at_88) (fun _ _ => ⟨rfl, e14, (by decide : 2 + 0 ≤ _), (by decide : 6 + 0 ≤ _)⟩)
  dsimp only [Pt.U, Pt.locs, Pt.cells, Pt.slots] at X15 l15 y15 z15 st15 hQ15
  subst l15 y15 z15
  obtain ⟨rfl, N15q, e15⟩ := hQ15
  have N15 := Fr.app N14 N15q
  refine Goes.by st15 ?_
  show Goes p.tables e below (T15.setTop (mkF m 91 #[.val (.long pt), .second, .val (.long po), .second, .val (.long pu), .second, .val (.long pv), .second, .val (.int pb), .val (.int pd), .val (.long v1), .second, .val (.long v3), .second, .val (.ref b5), .val (.ref b7), .val (.int x10), .val (.int x13), .unset] [(.int (fn7 (fn5 v1 v3 pt po)))])) _
  obtain ⟨x16, hx16⟩ : ∃ z : Int32, z = (fn7 (fn5 v1 v3 pt po)) := ⟨_, rfl⟩
  refine Goes.by (fun _ k => XS.istore X15.here hx rfl (hb hby at_91) rfl (l' := #[.val (.long pt), .second, .val (.long po), .second, .val (.long pu), .second, .val (.long pv), .second, .val (.int pb), .val (.int pd), .val (.long v1), .second, .val (.long v3), .second, .val (.ref b5), .val (.ref b7), .val (.int x10), .val (.int x13), .val (.int x16)]) (by rw [hx16]; rfl) k) ?_
  show Goes p.tables e below (T15.setTop (mkF m 93 #[.val (.long pt), .second, .val (.long po), .second, .val (.long pu), .second, .val (.long pv), .second, .val (.int pb), .val (.int pd), .val (.long v1), .second, .val (.long v3), .second, .val (.ref b5), .val (.ref b7), .val (.int x10), .val (.int x13), .val (.int x16)] [])) _
  refine Goes.by (fun _ k => XS.iload X15.here hx rfl (hb hby at_93) rfl k) ?_
  show Goes p.tables e below (T15.setTop (mkF m 95 #[.val (.long pt), .second, .val (.long po), .second, .val (.long pu), .second, .val (.long pv), .second, .val (.int pb), .val (.int pd), .val (.long v1), .second, .val (.long v3), .second, .val (.ref b5), .val (.ref b7), .val (.int x10), .val (.int x13), .val (.int x16)] [(.int x13)])) _
  refine Goes.by (fun _ k => XS.iload X15.here hx rfl (hb hby at_95) rfl k) ?_
  show Goes p.tables e below (T15.setTop (mkF m 97 #[.val (.long pt), .second, .val (.long po), .second, .val (.long pu), .second, .val (.long pv), .second, .val (.int pb), .val (.int pd), .val (.long v1), .second, .val (.long v3), .second, .val (.ref b5), .val (.ref b7), .val (.int x10), .val (.int x13), .val (.int x16)] [(.int x10), (.int x13)])) _
  refine Goes.by (fun _ k => XS.icmpNo X15.here hx rfl (hb hby at_97) rfl (teq (by rw [hx13, hx10]; exact own_c _ _ _ _ : x13 = x10)).2 k) ?_
  show Goes p.tables e below (T15.setTop (mkF m 100 #[.val (.long pt), .second, .val (.long po), .second, .val (.long pu), .second, .val (.long pv), .second, .val (.int pb), .val (.int pd), .val (.long v1), .second, .val (.long v3), .second, .val (.ref b5), .val (.ref b7), .val (.int x10), .val (.int x13), .val (.int x16)] [])) _
  refine Goes.by (fun _ k => XS.iload X15.here hx rfl (hb hby at_100) rfl k) ?_
  show Goes p.tables e below (T15.setTop (mkF m 102 #[.val (.long pt), .second, .val (.long po), .second, .val (.long pu), .second, .val (.long pv), .second, .val (.int pb), .val (.int pd), .val (.long v1), .second, .val (.long v3), .second, .val (.ref b5), .val (.ref b7), .val (.int x10), .val (.int x13), .val (.int x16)] [(.int x16)])) _
  refine Goes.by (fun _ k => XS.iload X15.here hx rfl (hb hby at_102) rfl k) ?_
  show Goes p.tables e below (T15.setTop (mkF m 104 #[.val (.long pt), .second, .val (.long po), .second, .val (.long pu), .second, .val (.long pv), .second, .val (.int pb), .val (.int pd), .val (.long v1), .second, .val (.long v3), .second, .val (.ref b5), .val (.ref b7), .val (.int x10), .val (.int x13), .val (.int x16)] [(.int x10), (.int x16)])) _
  refine Goes.by (fun _ k => XS.ineg X15.here hx rfl (hb hby at_104) rfl k) ?_
  show Goes p.tables e below (T15.setTop (mkF m 105 #[.val (.long pt), .second, .val (.long po), .second, .val (.long pu), .second, .val (.long pv), .second, .val (.int pb), .val (.int pd), .val (.long v1), .second, .val (.long v3), .second, .val (.ref b5), .val (.ref b7), .val (.int x10), .val (.int x13), .val (.int x16)] [(.int (-x10)), (.int x16)])) _
  refine Goes.by (fun _ k => XS.icmpNo X15.here hx rfl (hb hby at_105) rfl (teq (by rw [hx16, hx10]; exact (own_c _ _ _ _).trans (own_n _ _ _ _) : x16 = (-x10))).2 k) ?_
  show Goes p.tables e below (T15.setTop (mkF m 108 #[.val (.long pt), .second, .val (.long po), .second, .val (.long pu), .second, .val (.long pv), .second, .val (.int pb), .val (.int pd), .val (.long v1), .second, .val (.long v3), .second, .val (.ref b5), .val (.ref b7), .val (.int x10), .val (.int x13), .val (.int x16)] [])) _
  refine Goes.by (fun _ k => XS.iconst X15.here hx rfl (hb hby at_108) k) ?_
  show Goes p.tables e below (T15.setTop (mkF m 109 #[.val (.long pt), .second, .val (.long po), .second, .val (.long pu), .second, .val (.long pv), .second, .val (.int pb), .val (.int pd), .val (.long v1), .second, .val (.long v3), .second, .val (.ref b5), .val (.ref b7), .val (.int x10), .val (.int x13), .val (.int x16)] [(.int (1 : Int32))])) _
  refine Goes.by (fun _ k => XS.goto X15.here hx rfl (pc0 := 109) (pc' := 113) rfl (hb hby at_109) (by decide) (by decide) k) ?_
  show Goes p.tables e below (T15.setTop (mkF m 113 #[.val (.long pt), .second, .val (.long po), .second, .val (.long pu), .second, .val (.long pv), .second, .val (.int pb), .val (.int pd), .val (.long v1), .second, .val (.long v3), .second, .val (.ref b5), .val (.ref b7), .val (.int x10), .val (.int x13), .val (.int x16)] [(.int (1 : Int32))])) _
  obtain ⟨fs, hr, hrun, hended, hW, hsame⟩ := X15.leave (v := some (.int (1 : Int32))) (fun h => by rw [Bd.returns] at h; cases h)
  refine ⟨_, _, retN X15 hx (t := .boolean) Bd.returns (by simp) (hb hby at_113) hr, hrun, hended, _, _, rfl, ?_, ⟨_, rfl⟩, hW, hsame.mono (by decide) (by decide)⟩
  show Q0 Z pt po pu pv pb pd h0 n0 _ T15.heap _
  rw [e15]
  exact ⟨rfl, N15⟩
set_option maxRecDepth 65536 in
set_option maxHeartbeats 40000000 in
theorem comes_1 {Post : Tables → Env → Array Value → State → Outcome → State → Prop} (hpost : ∀ tb e args s v u, (limb_1_1.after args s (.returned v) u = true ∧ limb_1_2.after args s (.returned v) u = true ∧ True) → FrameEnd s (.returned v) u (Jvm.fieldLocs frame_1_writes args s ++ Jvm.arrayLocs frame_1_arrays args s ++ Jvm.staticLocs frame_1_statics s) 16 128 → Post tb e args s (.returned v) u) :
    ArmFor flags0 classFile x code maxLocals ret World_1 tables_1 room_1 Calls_1 rest_1 Pre_1 Post := by
  intro l hfl _ _ p e ha hc hk s m args below hf hA hF happ hP
  obtain ⟨hcalls, hrest, hpre⟩ := hP
  obtain ⟨-, -, -, hnamed, -, -, -, hat⟩ := (Spec.applies_iff hf).mp happ
  obtain ⟨hg, hn⟩ := and_e (Cond.before_iff.mp (show (Jvm.Cond.and given_1 narrow_1).before args s = true from hpre))
  obtain ⟨g1, g2⟩ := and_e hg
  obtain ⟨g3, g4⟩ := and_e g2
  obtain ⟨g5, g6⟩ := and_e g4
  obtain ⟨g7, g8⟩ := and_e g6
  obtain ⟨g9, g10⟩ := and_e g8
  obtain ⟨g11, g12⟩ := and_e g10
  obtain ⟨w0, w1, w2, w3, w4, w5, rfl⟩ : ∃ w0 w1 w2 w3 w4 w5 : Value, args = #[w0, w1, w2, w3, w4, w5] := by
    have hs : args.size = 6 := by simpa [Cond.value, given_1] using g1
    obtain ⟨L⟩ := args
    match L, hs with
    | [w0, w1, w2, w3, w4, w5], _ => exact ⟨w0, w1, w2, w3, w4, w5, rfl⟩
  have hw := fun d (hd : d ∈ tables_1) => atoms_spec (ws := Jvm.Cond.code x code maxLocals ret :: tables_1) hat d (List.mem_cons_of_mem _ hd)
  have hfit : Fit s := fun {y c} hc i hi => by
    obtain ⟨ha, rfl⟩ := Array.getElem?_eq_some_iff.mp hc
    have q := List.all_eq_true.mp ((Array.all_eq_true_iff_forall_mem.mp hF) _ (Array.getElem_mem ha)) i (List.mem_range.mpr hi)
    simpa [Array.getElem?_eq_getElem hi] using q
  obtain ⟨i0, ei0⟩ := isL_v g3
  obtain rfl : w0 = (.long i0) := Option.some.inj ei0
  obtain ⟨i1, ei1⟩ := isL_v g5
  obtain rfl : w1 = (.long i1) := Option.some.inj ei1
  obtain ⟨i2, ei2⟩ := isL_v g7
  obtain rfl : w2 = (.long i2) := Option.some.inj ei2
  obtain ⟨i3, ei3⟩ := isL_v g9
  obtain rfl : w3 = (.long i3) := Option.some.inj ei3
  obtain ⟨i4, ei4⟩ := is_v g11
  obtain rfl : w4 = (.int i4) := Option.some.inj ei4
  obtain ⟨i5, ei5⟩ := is_v g12
  obtain rfl : w5 = (.int i5) := Option.some.inj ei5
  obtain ⟨n, o, h1, h2, h3, _, L, rfl, ⟨hv0, N⟩, hq⟩ := rm0 l s _ hw tables_1 i0 i1 i2 i3 i4 i5 s.heap s.heap.size (Nat.le_refl _) p e ha hc hk s m _ below hf ((Spec.applies_iff_loose hf).mp happ).1 ⟨rfl, State.Warmed39.refl s, rfl⟩ trivial
  subst hv0
  refine ⟨n, _, h1, h2, h3, hpost _ _ _ _ _ _ ⟨Cond.after_iff.mpr rfl, Cond.after_iff.mpr (eq_i res_at (Term.int_eval (1)) rfl), trivial⟩ ⟨hq.1, hq.2.1, (hq.2.2.sift fun y hy => Or.inr (N y hy)).mono (by decide) (by decide)⟩⟩
theorem main_1_1 : Claimed_1_1 := comes_1 fun _ _ _ _ _ _ h hF => ⟨h.1, hF⟩
theorem main_1_2 : Claimed_1_2 := comes_1 fun _ _ _ _ _ _ h hF => ⟨h.2.1, hF⟩
end Jvm.Pilot.@@N@@
namespace Jvm.Pilot.@@N@@
open Jvm Jvm.ClassFile Sem Op Lib Jvm.Free Jvm.Stand Jvm.Pilot.@@N@@.Jvm.D
/-! MADE BY PROGRAM (witnessworld.py) out of the Statement's table words and the real class files: 15 classes; the members and pool entries that the words name. The judged class is class 1, her method 3. -/
namespace start1
open Jvm.ClassFile
def u (s : String) : CpInfo := .utf8 (stringToUtf16 s)
/-- a pool by its gaps: so many unusable entries, then the entry; so many at the end -/
def gap : Nat → List CpInfo → List CpInfo
  | 0, r => r
  | n + 1, r => .unusable :: gap n r
def poolList (es : List (Nat × CpInfo)) (last : Nat) : List CpInfo := es.foldr (fun e r => gap e.1 (e.2 :: r)) (gap last [])
def pool (es : List (Nat × CpInfo)) (last : Nat) : Array CpInfo := ⟨poolList es last⟩
def fileOf (pool : Array CpInfo) (this : Nat) (attrs : Array Attribute := #[]) (ms : Array MethodInfo := #[]) (fl : Nat := 33) (sup : Nat := 0) (ifs : Array Nat := #[]) (fds : Array FieldInfo := #[]) : ClassFile where
  minorVersion := 0
  majorVersion := 65
  constantPool := pool
  accessFlags := fl
  thisClass := this
  superClass := sup
  interfaces := ifs
  fields := fds
  methods := ms
  attributes := attrs
def plain (name : String) (sup : Option ClassId) : Class where
  name := name
  kind := .ordinary
  loader := none
  accessFlags := 33
  super := sup
  interfaces := #[]
  cf := none
  fields := #[]
  methods := #[]
  instanceTypes := #[]
  staticTypes := #[]
  resolved := #[]
  callSites := []
  init := .initialized
  statics := none
  mirror := none

def pool0 : Array CpInfo := pool [(5, u "<init>"), (0, u "()V"), (1, .class_ 10), (1, u "java/lang/Object")] 113

def k0c0 : Code := { maxStack := 0, maxLocals := 1, code := object_method_1_code, exceptionTable := #[], attributes := #[] }
def k0m0 : Method := { name := "<init>", desc := "()V", sig := { parameters := [], returnType := none }, accessFlags := 1, code := some k0c0 }
/-- java/lang/Object -/
def k0 : Class := { plain "java/lang/Object" none with
  accessFlags := 33
  interfaces := #[]
  cf := some (fileOf pool0 8 #[] #[{ accessFlags := 1, nameIndex := 5, descriptorIndex := 6, attributes := #[] }] 33 0 #[] #[])
  fields := #[]
  methods := #[k0m0]
  instanceTypes := #[]
  staticTypes := #[]
  resolved := Array.replicate 124 none
  statics := none }

def pool1 : Array CpInfo := pool [(2, .class_ 4), (1, u "java/lang/Object"), (0, u "<init>"), (0, u "()V"), (0, .class_ 8), (0, u "com/example/gongshu/gongshu/store/DelayedMessages$Due"), (0, .methodref 7 10), (0, .nameAndType 5 11), (0, u "(JJI)V"), (0, .methodref 13 14), (0, .class_ 15), (0, .nameAndType 16 17), (0, u "com/example/gongshu/gongshu/store/DueCompareToPinLaw"), (0, u "expected"), (0, u "(JJJJ)I"), (0, .methodref 7 19), (0, .nameAndType 20 21), (0, u "compareTo"), (0, u "(Lcom/example/gongshu/gongshu/store/DelayedMessages$Due;)I"), (0, .methodref 13 23), (0, .nameAndType 24 25), (0, u "sign"), (0, u "(I)I"), (3, u "law"), (0, u "(JJJJII)Z")] 6

def k1m0 : Method := { name := "<init>", desc := "()V", sig := { parameters := [], returnType := none }, accessFlags := 1, code := none }
def k1c1 : Code := { maxStack := 1, maxLocals := 1, code := method_2_code, exceptionTable := #[], attributes := #[] }
def k1m1 : Method := { name := "sign", desc := "(I)I", sig := { parameters := [.int], returnType := some .int }, accessFlags := 10, code := some k1c1 }
def k1c2 : Code := { maxStack := 4, maxLocals := 8, code := method_3_code, exceptionTable := #[], attributes := #[] }
def k1m2 : Method := { name := "expected", desc := "(JJJJ)I", sig := { parameters := [.long, .long, .long, .long], returnType := some .int }, accessFlags := 10, code := some k1c2 }
def k1c3 : Code := { maxStack := 8, maxLocals := 19, code := code, exceptionTable := #[], attributes := #[] }
def k1m3 : Method := { name := "law", desc := "(JJJJII)Z", sig := { parameters := [.long, .long, .long, .long, .int, .int], returnType := some .boolean }, accessFlags := 9, code := some k1c3 }
/-- com/example/gongshu/gongshu/store/DueCompareToPinLaw -/
def k1 : Class := { plain "com/example/gongshu/gongshu/store/DueCompareToPinLaw" (some 0) with
  accessFlags := 49
  interfaces := #[]
  cf := some (fileOf pool1 13 #[] #[{ accessFlags := 1, nameIndex := 5, descriptorIndex := 6, attributes := #[] }, { accessFlags := 10, nameIndex := 24, descriptorIndex := 25, attributes := #[] }, { accessFlags := 10, nameIndex := 16, descriptorIndex := 17, attributes := #[] }, { accessFlags := 9, nameIndex := 29, descriptorIndex := 30, attributes := #[] }] 49 2 #[] #[])
  fields := #[]
  methods := #[k1m0, k1m1, k1m2, k1m3]
  instanceTypes := #[]
  staticTypes := #[]
  resolved := Array.replicate 37 none
  statics := none }

def pool2 : Array CpInfo := pool [(1, .methodref 2 3), (0, .class_ 4), (0, .nameAndType 5 6), (0, u "java/lang/Object"), (0, u "<init>"), (0, u "()V"), (0, .class_ 8), (0, u "java/lang/Record")] 13

def k2c0 : Code := { maxStack := 1, maxLocals := 1, code := jdk_30_method_1_code, exceptionTable := #[], attributes := #[] }
def k2m0 : Method := { name := "<init>", desc := "()V", sig := { parameters := [], returnType := none }, accessFlags := 4, code := some k2c0 }
/-- java/lang/Record -/
def k2 : Class := { plain "java/lang/Record" (some 0) with
  accessFlags := 1057
  interfaces := #[]
  cf := some (fileOf pool2 7 #[] #[{ accessFlags := 4, nameIndex := 5, descriptorIndex := 6, attributes := #[] }] 1057 2 #[] #[])
  fields := #[]
  methods := #[k2m0]
  instanceTypes := #[]
  staticTypes := #[]
  resolved := Array.replicate 22 none
  statics := none }

def pool3 : Array CpInfo := pool [(1, .class_ 2), (0, u "java/lang/Comparable"), (0, .class_ 4), (0, u "java/lang/Object")] 7

/-- java/lang/Comparable -/
def k3 : Class := { plain "java/lang/Comparable" (some 0) with
  accessFlags := 1537
  interfaces := #[]
  cf := some (fileOf pool3 1 #[] #[] 1537 3 #[] #[])
  fields := #[]
  methods := #[]
  instanceTypes := #[]
  staticTypes := #[]
  resolved := Array.replicate 12 none
  statics := none }

def pool4 : Array CpInfo := pool [(1, .methodref 2 3), (0, .class_ 4), (0, .nameAndType 5 6), (0, u "java/lang/Record"), (0, u "<init>"), (0, u "()V"), (0, .fieldref 8 9), (0, .class_ 10), (0, .nameAndType 11 12), (0, u "com/example/gongshu/gongshu/store/DelayedMessages$Due"), (0, u "dueTime"), (0, u "J"), (0, .fieldref 8 14), (0, .nameAndType 15 12), (0, u "offset"), (0, .fieldref 8 17), (0, .nameAndType 18 19), (0, u "bodyBytes"), (0, u "I"), (0, .methodref 21 22), (0, .class_ 23), (0, .nameAndType 24 25), (0, u "java/lang/Long"), (0, u "compare"), (0, u "(JJ)I"), (2, u "compareTo"), (0, u "(Lcom/example/gongshu/gongshu/store/DelayedMessages$Due;)I"), (11, .class_ 42), (0, u "java/lang/Comparable"), (0, u "(JJI)V"), (14, .class_ 59), (0, u "com/example/gongshu/gongshu/store/DelayedMessages")] 21

def k4c0 : Code := { maxStack := 3, maxLocals := 6, code := prog_30_method_1_code, exceptionTable := #[], attributes := #[] }
def k4m0 : Method := { name := "<init>", desc := "(JJI)V", sig := { parameters := [.long, .long, .int], returnType := none }, accessFlags := 0, code := some k4c0 }
def k4c1 : Code := { maxStack := 4, maxLocals := 3, code := prog_30_method_2_code, exceptionTable := #[], attributes := #[] }
def k4m1 : Method := { name := "compareTo", desc := "(Lcom/example/gongshu/gongshu/store/DelayedMessages$Due;)I", sig := { parameters := [(.object "com/example/gongshu/gongshu/store/DelayedMessages$Due")], returnType := some .int }, accessFlags := 1, code := some k4c1 }
/-- com/example/gongshu/gongshu/store/DelayedMessages$Due -/
def k4 : Class := { plain "com/example/gongshu/gongshu/store/DelayedMessages$Due" (some 2) with
  accessFlags := 48
  interfaces := #[3]
  cf := some (fileOf pool4 8 #[.nestHost 58] #[{ accessFlags := 0, nameIndex := 5, descriptorIndex := 43, attributes := #[] }, { accessFlags := 1, nameIndex := 28, descriptorIndex := 29, attributes := #[] }] 48 2 #[41] #[{ accessFlags := 18, nameIndex := 11, descriptorIndex := 12, attributes := #[] }, { accessFlags := 18, nameIndex := 15, descriptorIndex := 12, attributes := #[] }, { accessFlags := 18, nameIndex := 18, descriptorIndex := 19, attributes := #[] }])
  fields := #[{ name := "dueTime", type := .long, accessFlags := 18, slot := 0, constantValue := 0 }, { name := "offset", type := .long, accessFlags := 18, slot := 1, constantValue := 0 }, { name := "bodyBytes", type := .int, accessFlags := 18, slot := 2, constantValue := 0 }]
  methods := #[k4m0, k4m1]
  instanceTypes := #[.long, .long, .int]
  staticTypes := #[]
  resolved := Array.replicate 81 none
  statics := none }

def pool5 : Array CpInfo := pool [(1, .class_ 2), (0, u "java/io/Serializable"), (0, .class_ 4), (0, u "java/lang/Object")] 2

/-- java/io/Serializable -/
def k5 : Class := { plain "java/io/Serializable" (some 0) with
  accessFlags := 1537
  interfaces := #[]
  cf := some (fileOf pool5 1 #[] #[] 1537 3 #[] #[])
  fields := #[]
  methods := #[]
  instanceTypes := #[]
  staticTypes := #[]
  resolved := Array.replicate 7 none
  statics := none }

def pool6 : Array CpInfo := pool [(2, .class_ 4), (1, u "java/lang/Object"), (0, u "<init>"), (0, u "()V"), (1, .class_ 10), (1, u "java/lang/Number"), (2, .class_ 14), (0, u "java/io/Serializable"), (0, u "serialVersionUID"), (0, u "J")] 20

def k6m0 : Method := { name := "<init>", desc := "()V", sig := { parameters := [], returnType := none }, accessFlags := 1, code := none }
/-- java/lang/Number -/
def k6 : Class := { plain "java/lang/Number" (some 0) with
  accessFlags := 1057
  interfaces := #[5]
  cf := some (fileOf pool6 8 #[] #[{ accessFlags := 1, nameIndex := 5, descriptorIndex := 6, attributes := #[] }] 1057 2 #[13] #[{ accessFlags := 26, nameIndex := 15, descriptorIndex := 16, attributes := #[] }])
  fields := #[{ name := "serialVersionUID", type := .long, accessFlags := 26, slot := 0, constantValue := 0 }]
  methods := #[k6m0]
  instanceTypes := #[]
  staticTypes := #[.long]
  resolved := Array.replicate 37 none
  statics := none }

def pool7 : Array CpInfo := pool [(1, .class_ 2), (0, u "java/lang/constant/Constable"), (0, .class_ 4), (0, u "java/lang/Object")] 6

/-- java/lang/constant/Constable -/
def k7 : Class := { plain "java/lang/constant/Constable" (some 0) with
  accessFlags := 1537
  interfaces := #[]
  cf := some (fileOf pool7 1 #[] #[] 1537 3 #[] #[])
  fields := #[]
  methods := #[]
  instanceTypes := #[]
  staticTypes := #[]
  resolved := Array.replicate 11 none
  statics := none }

def pool8 : Array CpInfo := pool [(1, .class_ 2), (0, u "java/lang/constant/ConstantDesc"), (0, .class_ 4), (0, u "java/lang/Object")] 32

/-- java/lang/constant/ConstantDesc -/
def k8 : Class := { plain "java/lang/constant/ConstantDesc" (some 0) with
  accessFlags := 1537
  interfaces := #[]
  cf := some (fileOf pool8 1 #[] #[] 1537 3 #[] #[])
  fields := #[]
  methods := #[]
  instanceTypes := #[]
  staticTypes := #[]
  resolved := Array.replicate 37 none
  statics := none }

def pool9 : Array CpInfo := pool [(1, .class_ 2), (0, u "java/lang/Long"), (232, .class_ 237), (1, u "java/lang/Long$LongCache"), (33, .class_ 272), (0, u "java/lang/Number"), (2, u "value"), (0, u "J"), (27, u "compare"), (0, u "(JJ)I"), (55, u "TYPE"), (0, u "Ljava/lang/Class;"), (0, .class_ 364), (0, u "java/lang/Comparable"), (0, .class_ 366), (0, u "java/lang/constant/Constable"), (0, .class_ 368), (0, u "java/lang/constant/ConstantDesc"), (0, u "MIN_VALUE"), (1, u "MAX_VALUE"), (4, u "SIZE"), (0, u "I"), (1, u "BYTES"), (1, u "serialVersionUID")] 142

def k9c0 : Code := { maxStack := 4, maxLocals := 4, code := jdk_35_method_42_code, exceptionTable := #[], attributes := #[] }
def k9m0 : Method := { name := "compare", desc := "(JJ)I", sig := { parameters := [.long, .long], returnType := some .int }, accessFlags := 9, code := some k9c0 }
/-- java/lang/Long -/
def k9 : Class := { plain "java/lang/Long" (some 6) with
  accessFlags := 49
  interfaces := #[3, 7, 8]
  cf := some (fileOf pool9 1 #[.nestMembers #[235]] #[{ accessFlags := 9, nameIndex := 304, descriptorIndex := 305, attributes := #[] }] 49 271 #[363, 365, 367] #[{ accessFlags := 25, nameIndex := 369, descriptorIndex := 276, attributes := #[] }, { accessFlags := 25, nameIndex := 371, descriptorIndex := 276, attributes := #[] }, { accessFlags := 25, nameIndex := 361, descriptorIndex := 362, attributes := #[] }, { accessFlags := 18, nameIndex := 275, descriptorIndex := 276, attributes := #[] }, { accessFlags := 25, nameIndex := 376, descriptorIndex := 377, attributes := #[] }, { accessFlags := 25, nameIndex := 379, descriptorIndex := 377, attributes := #[] }, { accessFlags := 26, nameIndex := 381, descriptorIndex := 276, attributes := #[] }])
  fields := #[{ name := "MIN_VALUE", type := .long, accessFlags := 25, slot := 0, constantValue := 0 }, { name := "MAX_VALUE", type := .long, accessFlags := 25, slot := 1, constantValue := 0 }, { name := "TYPE", type := (.object "java/lang/Class"), accessFlags := 25, slot := 2, constantValue := 0 }, { name := "value", type := .long, accessFlags := 18, slot := 0, constantValue := 0 }, { name := "SIZE", type := .int, accessFlags := 25, slot := 3, constantValue := 0 }, { name := "BYTES", type := .int, accessFlags := 25, slot := 4, constantValue := 0 }, { name := "serialVersionUID", type := .long, accessFlags := 26, slot := 5, constantValue := 0 }]
  methods := #[k9m0]
  instanceTypes := #[.long]
  staticTypes := #[.long, .long, (.object "java/lang/Class"), .int, .int, .long]
  resolved := Array.replicate 524 none
  statics := none }

def pool10 : Array CpInfo := pool [(1, u "java/lang/Cloneable"), (0, .class_ 1), (0, u "java/lang/Object"), (0, .class_ 3)] 3

/-- java/lang/Cloneable -/
def k10 : Class := { plain "java/lang/Cloneable" (some 0) with
  accessFlags := 1537
  interfaces := #[]
  cf := some (fileOf pool10 2 #[] #[] 1537 4 #[] #[])
  fields := #[]
  methods := #[]
  instanceTypes := #[]
  staticTypes := #[]
  resolved := Array.replicate 8 none
  statics := none }

/-- the primitive byte -/
def k11 : Class := { plain "byte" none with kind := .primitive 'B', accessFlags := 0x411 }
/-- [B -/
def k12 : Class := { plain "[B" (some 0) with kind := .array 11 .byte, interfaces := #[10, 5], accessFlags := 1041 }

/-- the primitive int -/
def k13 : Class := { plain "int" none with kind := .primitive 'I', accessFlags := 0x411 }
/-- [I -/
def k14 : Class := { plain "[I" (some 0) with kind := .array 13 .int, interfaces := #[10, 5], accessFlags := 1041 }

def heap : Heap := #[]
def classes : Array Class := #[k0, k1, k2, k3, k4, k5, k6, k7, k8, k9, k10, k11, k12, k13, k14]
def interned : List (Array UInt16 × Addr) := []
def slotsUsed : Nat := 0
def theMethod : MethodId := ⟨1, 3⟩
def args0 : Array Value := #[.long 5, .long 7, .long 5, .long 8, .int 1, .int 2]
def aboutOver (below : List Frame) : State where
  vm := { classes := classes, interned := interned.toArray }
  heap := heap
  slotsUsed := slotsUsed
  threads := #[{ frames := .invoking theMethod args0 :: below }]
def below0 : List Frame := [.native { method := ⟨0, 0⟩, args := #[] }]
def about1 : State := aboutOver below0
def p0 : Program := .bare "" "" ""
def e0 : Env := launch0.env 0 0 0
theorem w_frames : about1.frames = Frame.invoking theMethod args0 :: below0 := rfl
set_option maxRecDepth 65536 in
theorem w_args : argsFit about1.vm theMethod args0 = true := by decide +kernel
set_option maxRecDepth 65536 in
theorem w_heap : heapFits about1 = true := by decide +kernel
set_option maxRecDepth 65536 in
theorem w_runnable : about1.curStatus? = some .runnable := by decide +kernel
set_option maxRecDepth 65536 in
theorem w_alone : about1.alone = true := by decide +kernel
set_option maxRecDepth 65536 in
theorem w_named : about1.methodNamed? x = some theMethod := by decide +kernel
set_option maxRecDepth 65536 in
theorem w_hears : about1.hears theMethod below0 = true := by decide +kernel
set_option maxRecDepth 65536 in
theorem w_ripe : about1.ripe theMethod args0 below0 = true := by decide +kernel
theorem w_running : about1.status = .running := rfl
set_option maxRecDepth 65536 in
theorem w_room : about1.hasRoom e0.platform room_1 = true :=
  launch0.hasRoom_least _ room_1 (by decide +kernel) (by decide +kernel) (by decide +kernel) (by decide +kernel) (by decide +kernel) (by decide +kernel)
theorem allAtoms_all (ts : List Jvm.Cond) (a : Array Jvm.Value) (st : Jvm.State) : (allAtoms ts).before a st = ts.all (fun c => c.before a st) := by
  induction ts with
  | nil => rfl
  | cons c t ih =>
    show (Jvm.Cond.and c (allAtoms t)).before a st = _
    rw [Jvm.Cond.before_and, ih, List.all_cons]
def words1 : List Jvm.Cond := Jvm.Cond.code x code maxLocals ret :: tables_1
/-- a 'code' word, met by the world's own term for the bytes: nothing is compared byte by byte -/
theorem code_word {y : MethodName} {bytes : ByteArray} {mx : Nat} {rt : Option FieldType} {a : Array Value} {s : State} {m : MethodId} {meth : Method} {c : Code} (h1 : s.methodNamed? y = some m) (h2 : s.vm.method? m = some meth) (h3 : meth.code = some c) (h4 : c.code = bytes)
    (h5 : (c.maxLocals == mx && c.exceptionTable.isEmpty && decide (c.maxStack ≤ mostOperands) && decide (meth.sig.returnType = rt) && !meth.locks && decide (parseMethodDescriptor y.desc = some meth.sig)) = true) : (Jvm.Cond.code y bytes mx rt).before a s = true := by
  simp only [Bool.and_eq_true, beq_iff_eq, Bool.not_eq_true', decide_eq_true_eq] at h5
  obtain ⟨⟨⟨⟨⟨g1, g2⟩, g3⟩, g4⟩, g5⟩, g6⟩ := h5
  simp [Cond.before, Cond.holds, Cond.value, h1, h2, h3, h4, g1, g2, g3, g4, g5, g6]
def isCode : Jvm.Cond → Bool
  | .code _ _ _ _ => true
  | _ => false
theorem all_split {L : List Jvm.Cond} {P : Jvm.Cond → Bool} (h1 : L.all (fun c => isCode c || P c) = true) (h2 : ∀ c ∈ L.filter isCode, P c = true) : L.all P = true := by
  refine List.all_eq_true.mpr fun c hc => ?_
  have h := List.all_eq_true.mp h1 c hc
  rcases Bool.eq_false_or_eq_true (isCode c) with hi | hi
  · exact h2 c (List.mem_filter.mpr ⟨hc, hi⟩)
  · simpa [hi] using h
set_option maxRecDepth 65536 in
theorem w_c0 : (Jvm.Cond.code x code maxLocals ret).before args0 about1 = true := code_word (m := ⟨1, 3⟩) (meth := k1m3) (c := k1c3) (by decide +kernel) rfl rfl rfl (by decide +kernel)
set_option maxRecDepth 65536 in
theorem w_c1 : (Jvm.Cond.code ({ cls := "com/example/gongshu/gongshu/store/DelayedMessages$Due", name := "<init>", desc := "(JJI)V" } : Jvm.MethodName) prog_30_method_1_code (6 : Nat) (Option.none : Option Jvm.ClassFile.FieldType)).before args0 about1 = true := code_word (m := ⟨4, 0⟩) (meth := k4m0) (c := k4c0) (by decide +kernel) rfl rfl rfl (by decide +kernel)
set_option maxRecDepth 65536 in
theorem w_c2 : (Jvm.Cond.code ({ cls := "java/lang/Record", name := "<init>", desc := "()V" } : Jvm.MethodName) jdk_30_method_1_code (1 : Nat) (Option.none : Option Jvm.ClassFile.FieldType)).before args0 about1 = true := code_word (m := ⟨2, 0⟩) (meth := k2m0) (c := k2c0) (by decide +kernel) rfl rfl rfl (by decide +kernel)
set_option maxRecDepth 65536 in
theorem w_c3 : (Jvm.Cond.code ({ cls := "java/lang/Object", name := "<init>", desc := "()V" } : Jvm.MethodName) object_method_1_code (1 : Nat) (Option.none : Option Jvm.ClassFile.FieldType)).before args0 about1 = true := code_word (m := ⟨0, 0⟩) (meth := k0m0) (c := k0c0) (by decide +kernel) rfl rfl rfl (by decide +kernel)
set_option maxRecDepth 65536 in
theorem w_c4 : (Jvm.Cond.code ({ cls := "com/example/gongshu/gongshu/store/DueCompareToPinLaw", name := "expected", desc := "(JJJJ)I" } : Jvm.MethodName) method_3_code (8 : Nat) (Option.some Jvm.ClassFile.FieldType.int)).before args0 about1 = true := code_word (m := ⟨1, 2⟩) (meth := k1m2) (c := k1c2) (by decide +kernel) rfl rfl rfl (by decide +kernel)
set_option maxRecDepth 65536 in
theorem w_c5 : (Jvm.Cond.code ({ cls := "com/example/gongshu/gongshu/store/DelayedMessages$Due", name := "compareTo", desc := "(Lcom/example/gongshu/gongshu/store/DelayedMessages$Due;)I" } : Jvm.MethodName) prog_30_method_2_code (3 : Nat) (Option.some Jvm.ClassFile.FieldType.int)).before args0 about1 = true := code_word (m := ⟨4, 1⟩) (meth := k4m1) (c := k4c1) (by decide +kernel) rfl rfl rfl (by decide +kernel)
set_option maxRecDepth 65536 in
theorem w_c6 : (Jvm.Cond.code ({ cls := "java/lang/Long", name := "compare", desc := "(JJ)I" } : Jvm.MethodName) jdk_35_method_42_code (4 : Nat) (Option.some Jvm.ClassFile.FieldType.int)).before args0 about1 = true := code_word (m := ⟨9, 0⟩) (meth := k9m0) (c := k9c0) (by decide +kernel) rfl rfl rfl (by decide +kernel)
set_option maxRecDepth 65536 in
theorem w_c7 : (Jvm.Cond.code ({ cls := "com/example/gongshu/gongshu/store/DueCompareToPinLaw", name := "sign", desc := "(I)I" } : Jvm.MethodName) method_2_code (1 : Nat) (Option.some Jvm.ClassFile.FieldType.int)).before args0 about1 = true := code_word (m := ⟨1, 1⟩) (meth := k1m1) (c := k1c1) (by decide +kernel) rfl rfl rfl (by decide +kernel)
def codes1 : List Jvm.Cond := [Jvm.Cond.code x code maxLocals ret, Jvm.Cond.code ({ cls := "com/example/gongshu/gongshu/store/DelayedMessages$Due", name := "<init>", desc := "(JJI)V" } : Jvm.MethodName) prog_30_method_1_code (6 : Nat) (Option.none : Option Jvm.ClassFile.FieldType), Jvm.Cond.code ({ cls := "java/lang/Record", name := "<init>", desc := "()V" } : Jvm.MethodName) jdk_30_method_1_code (1 : Nat) (Option.none : Option Jvm.ClassFile.FieldType), Jvm.Cond.code ({ cls := "java/lang/Object", name := "<init>", desc := "()V" } : Jvm.MethodName) object_method_1_code (1 : Nat) (Option.none : Option Jvm.ClassFile.FieldType), Jvm.Cond.code ({ cls := "com/example/gongshu/gongshu/store/DueCompareToPinLaw", name := "expected", desc := "(JJJJ)I" } : Jvm.MethodName) method_3_code (8 : Nat) (Option.some Jvm.ClassFile.FieldType.int), Jvm.Cond.code ({ cls := "com/example/gongshu/gongshu/store/DelayedMessages$Due", name := "compareTo", desc := "(Lcom/example/gongshu/gongshu/store/DelayedMessages$Due;)I" } : Jvm.MethodName) prog_30_method_2_code (3 : Nat) (Option.some Jvm.ClassFile.FieldType.int), Jvm.Cond.code ({ cls := "java/lang/Long", name := "compare", desc := "(JJ)I" } : Jvm.MethodName) jdk_35_method_42_code (4 : Nat) (Option.some Jvm.ClassFile.FieldType.int), Jvm.Cond.code ({ cls := "com/example/gongshu/gongshu/store/DueCompareToPinLaw", name := "sign", desc := "(I)I" } : Jvm.MethodName) method_2_code (1 : Nat) (Option.some Jvm.ClassFile.FieldType.int)]
set_option maxRecDepth 65536 in
theorem codes_eq : words1.filter isCode = codes1 := rfl
theorem w_codes : ∀ c ∈ words1.filter isCode, c.before args0 about1 = true := by
  rw [codes_eq]
  intro c hc
  simp only [codes1, List.mem_cons, List.not_mem_nil, or_false] at hc
  rcases hc with rfl | rfl | rfl | rfl | rfl | rfl | rfl | rfl
  · exact w_c0
  · exact w_c1
  · exact w_c2
  · exact w_c3
  · exact w_c4
  · exact w_c5
  · exact w_c6
  · exact w_c7
set_option maxRecDepth 65536 in
theorem w_t1 : (words1.take 24).all (fun c => isCode c || c.before args0 about1) = true := by decide +kernel
set_option maxRecDepth 65536 in
theorem w_t2 : (words1.drop 24).all (fun c => isCode c || c.before args0 about1) = true := by decide +kernel
theorem w_tables : (allAtoms (Jvm.Cond.code x code maxLocals ret :: tables_1)).before args0 about1 = true := by
  rw [allAtoms_all]
  show words1.all (fun c => c.before args0 about1) = true
  refine all_split ?_ w_codes
  rw [← List.take_append_drop 24 words1, List.all_append, w_t1, w_t2]
  rfl
set_option maxRecDepth 65536 in
theorem w_case : (Jvm.Cond.and given_1 narrow_1).before args0 about1 = true := by decide +kernel
theorem w_applies : (headSpec (Jvm.Cond.code x code maxLocals ret :: tables_1) room_1).applies x e0.platform about1 = true :=
  (Spec.applies_iff w_frames).mpr ⟨w_running, w_runnable, w_alone, w_named, w_hears, w_ripe, w_room, w_tables⟩
theorem atStart : AtStart classFile x code maxLocals ret World_1 tables_1 room_1 Calls_1 rest_1 Pre_1 launch0 p0 e0 about1 theMethod args0 below0 :=
  ⟨lists_1, trivial, launch0.admits_env _ _ _, launch0.least_env, fairChoices_fair.cas, fairChoices_fair.clock, w_frames, w_args, w_heap, w_applies, trivial, trivial, w_case⟩
end start1
theorem witness_1 : WitnessClaimed_1 := ⟨start1.p0, start1.e0, start1.about1, start1.theMethod, start1.args0, start1.below0, start1.atStart⟩
end Jvm.Pilot.@@N@@

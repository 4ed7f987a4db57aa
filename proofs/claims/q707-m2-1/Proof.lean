import JvmDerived
import JvmDerived.Pilot.@@N@@Statement
import JvmDerived.Pilot.@@N@@Code
set_option linter.unusedVariables false
set_option linter.unusedSimpArgs false
namespace Jvm.Pilot.@@N@@.OwnKit
open Jvm Sem ClassFile Op Lib Jvm.Stand Jvm.Free Jvm.LawKit Jvm.RoadKit
section New
variable {p : Program} {l : Launch} {e : Env} {R : Room} {s : State} {m : MethodId} {args : Array Value} {below : List Frame} {meth : Method} {c : Code} {T : State} {locs : List Loc} {cells slots : Nat}
theorem retI (X : Stand p l e R s m args below meth c T locs cells slots) (hx : p.tables.exec = Jvm.exec) {pc : Nat} {Ls : Array Slot} {z : Int32} {rest : List Value} (hret : meth.sig.returnType = some .int) (hd : decode c.code pc = .ok (.ireturn, 1)) {fs : List Frame}
    (hl : ∀ (f : JFrame) (acts : List Action), f.method = m → f.locked = none → f.entered = [] → (doReturn e (T.setTop f) acts (some (.int z))).1 = T.setFrames fs) : Steps p.tables e below (T.setTop (mkF m pc Ls (.int z :: rest))) (T.setFrames fs) :=
  retOut X hx hret rfl (Or.inl ⟨rfl, Or.inl rfl, _, rfl⟩) hd hl
theorem lremM {g : JFrame} {target : State} (X : Stand p l e R s m args below meth c T locs cells slots) (hx : p.tables.exec = Jvm.exec) (hg : g.method = m) {x y : Int64} {rest : List Value} (hd : decode c.code g.pc = .ok (.lrem, 1)) (hs : g.stack = .long y :: .long x :: rest) (hy : y ≠ 0)
    (hr : Steps p.tables e below (T.setTop { g with pc := g.pc + 1, stack := .long (x % y) :: rest }) target) : Steps p.tables e below (T.setTop g) target := by
  have q : x - x / y * y = x % y := by
    have g1 := rng64 (x % y)
    have g2 : (x % y).toInt = x.toInt.tmod y.toInt := Int64.toInt_mod x y
    have g3 := Int.tmod_def x.toInt y.toInt
    have g4 : (x / y).toInt = (x.toInt.tdiv y.toInt).bmod (2 ^ 64) := Int64.toInt_div x y
    apply Int64.toInt_inj.mp
    rw [Int64.toInt_sub, Int64.toInt_mul, g4, Int.bmod_mul_bmod, Int.sub_bmod_bmod, Int.mul_comm (x.toInt.tdiv y.toInt), ← g3, ← g2]
    exact Int.bmod_eq_of_le_mul_two (by omega) (by omega)
  exact XS.lrem X.here hx hg hd hs hy (by rw [q]; exact hr)
end New
/-- from here the run ends, and as G says -/
def Goes (tb : Tables) (e : Env) (below : List Frame) (t : State) (G : State → Outcome → Prop) : Prop := ∃ s₂ o, Steps tb e below t s₂ ∧ s₂.status = .running ∧ Ended s₂ below o ∧ G s₂ o
variable {tb : Tables} {e : Env} {below : List Frame} {t t' : State} {G : State → Outcome → Prop}
theorem Goes.by (k : ∀ u, Steps tb e below t' u → Steps tb e below t u) (h : Goes tb e below t' G) : Goes tb e below t G := by
  obtain ⟨s₂, o, h1, h2⟩ := h; exact ⟨s₂, o, k _ h1, h2⟩
theorem Goes.via (k : Steps tb e below t t') (h : Goes tb e below t' G) : Goes tb e below t G := by
  obtain ⟨s₂, o, h1, h2⟩ := h; exact ⟨s₂, o, k.trans h1, h2⟩
theorem jl_t {x y : Int64} (h : x < y) : ifCond.holds .lt (lcmpW x y) = true ∧ ifCond.holds .ge (lcmpW x y) = false := ⟨(if0 _ _).trans (tlt ((lw_lt x y).mpr h)).1, (if0 _ _).trans (tlt ((lw_lt x y).mpr h)).2.1⟩
theorem jl_f {x y : Int64} (h : ¬ x < y) : ifCond.holds .lt (lcmpW x y) = false ∧ ifCond.holds .ge (lcmpW x y) = true := ⟨(if0 _ _).trans (flt (fun q => h ((lw_lt x y).mp q))).1, (if0 _ _).trans (flt (fun q => h ((lw_lt x y).mp q))).2.1⟩
theorem jg_t {x y : Int64} (h : y < x) : ifCond.holds .gt (lcmpW x y) = true ∧ ifCond.holds .le (lcmpW x y) = false := ⟨(if0 _ _).trans (tlt ((lw_gt x y).mpr h)).2.2.1, (if0 _ _).trans (tlt ((lw_gt x y).mpr h)).2.2.2⟩
theorem jg_f {x y : Int64} (h : ¬ y < x) : ifCond.holds .gt (lcmpW x y) = false ∧ ifCond.holds .le (lcmpW x y) = true := ⟨(if0 _ _).trans (flt (fun q => h ((lw_gt x y).mp q))).2.2.1, (if0 _ _).trans (flt (fun q => h ((lw_gt x y).mp q))).2.2.2⟩
theorem je_t {x y : Int64} (h : x = y) : ifCond.holds .eq (lcmpW x y) = true ∧ ifCond.holds .ne (lcmpW x y) = false := ⟨(if0 _ _).trans (teq ((lw_eq x y).mpr h)).1, (if0 _ _).trans (teq ((lw_eq x y).mpr h)).2⟩
theorem je_f {x y : Int64} (h : ¬ x = y) : ifCond.holds .eq (lcmpW x y) = false ∧ ifCond.holds .ne (lcmpW x y) = true := ⟨(if0 _ _).trans (feq (fun q => h ((lw_eq x y).mp q))).1, (if0 _ _).trans (feq (fun q => h ((lw_eq x y).mp q))).2⟩
theorem selP {Z s : State} {a0 args : Array Value} {y : MethodName} {n : Nat} (hZ : Z.Warmed39 s.vm) (wi : (Cond.instantiable y.cls n).before a0 Z = true) (wp : (Cond.privateMethod y).before a0 Z = true) (win : (Cond.instanceMethod y).before a0 Z = true) (hy : y.cls ≠ "java/lang/invoke/MethodHandle" ∧ y.cls ≠ "java/lang/invoke/VarHandle") : (Cond.selects y.cls y y).before args s = true := by
  have w1 : (Cond.instantiable y.cls n).before args s = true := mv hZ wi
  obtain ⟨c, k, h1, h2, -, h4, -⟩ := Cond.instantiable_spec w1
  rw [Bool.or_eq_false_iff] at h4
  exact selects_self_of_private h1 h2 h4.1 (Cond.privateMethod_at (mvP hZ wp (args := args))) (mv hZ win) hy
theorem narR {t : FieldType} {w : Value} (h : t.isReference = true) : narrow t w = w := by cases t <;> first | (cases h; done) | (cases w <;> rfl)
end Jvm.Pilot.@@N@@.OwnKit
namespace Jvm.Pilot.@@N@@
open Jvm Jvm.ClassFile Sem Op Lib Jvm.Free Jvm.Stand Jvm.LawKit Jvm.RoadKit Bundle Jvm.Pilot.@@N@@.Jvm.D Jvm.Pilot.@@N@@.OwnKit
theorem d2_0 : decode jdk_30_method_1_code 0 = .ok (.aload_n 0, 1) := by decide +kernel
theorem d2_1 : decode jdk_30_method_1_code 1 = .ok (.invokespecial 1, 3) := by decide +kernel
theorem d2_4 : decode jdk_30_method_1_code 4 = .ok (.return_, 1) := by decide +kernel
theorem pn_0 : plainName "java/lang/Record" = true := by first | (simp [plainName, overriddenIn]; done) | decide +kernel
theorem ef2 (m : MethodId) (oa : Addr) : entryFrame m #[(.ref oa)] 1 = mkF m 0 #[.val (.ref oa)] [] := by first | (simp [entryFrame, mkF, argsToLocals, Value.category]; done) | rfl
def Q2 (Z : State) (oa : Addr) (h0 : Heap) (n0 : Nat) (v : Option Value) (h : Heap) (L : List Loc) : Prop := v = none ∧ Fr n0 L ∧ h = h0
set_option maxRecDepth 65536 in
set_option maxHeartbeats 40000000 in
theorem rm2 (l : Launch) (Z : State) (a0 : Array Value) (hw : ∀ d ∈ tables_1, d.before a0 Z = true) (ws : List Jvm.Cond) (oa : Addr) (h0 : Heap) (n0 : Nat) (Z0 : n0 ≤ h0.size) :
    MetFree l (⟨"java/lang/Record", "<init>", "()V"⟩ : MethodName) (head1 (Jvm.Cond.code (⟨"java/lang/Record", "<init>", "()V"⟩ : MethodName) jdk_30_method_1_code 1 none :: ws) ({ frames := 1, cells := 0, slots := 0, locals := 12 } : Room)) (fun a U => a = #[(.ref oa)] ∧ Z.Warmed39 U.vm ∧ U.heap = h0) (fun _ _ _ _ _ => True) (fun _ U o U' => ∃ v L, o = .returned v ∧ Q2 Z oa h0 n0 v U'.heap L ∧ FrameEnd U o U' L ({ frames := 1, cells := 0, slots := 0, locals := 12 } : Room).cells ({ frames := 1, cells := 0, slots := 0, locals := 12 } : Room).slots) := by
  refine MetFree.of_bodySF (plainFor_of_name pn_0) hisR ?_
  intro p e s m args below meth c s₁ Bd hml0 hP hK
  obtain ⟨rfl, hZ, hh⟩ := hP
  have hx := Bd.exec
  have hby := Bd.bytes
  have hml : c.maxLocals = 1 := hml0
  have hown : s.vm.findClass "java/lang/Record" = some m.cls := findClass_of_methodNamed Bd.named
  have hnm := (name_of_methodNamed Bd.named Bd.method).1
  have X0 : Stand p l e ({ frames := 1, cells := 0, slots := 0, locals := 12 } : Room) s m #[(.ref oa)] below meth c s₁ [] 0 0 := Stand.of_body Bd
  have e0 : s₁.heap = h0 := by rw [← hh, Bd.state]; rfl
  have N0 := Fr.nil n0
  refine Goes.by (fun _ k => castTop (ef2 m oa) k) ?_
  show Goes p.tables e below (s₁.setTop (mkF m 0 #[.val (.ref oa)] [])) _
  refine Goes.by (fun _ k => XS.aloadN X0.here hx rfl (hb hby d2_0) rfl rfl k) ?_
  show Goes p.tables e below (s₁.setTop (mkF m 1 #[.val (.ref oa)] [(.ref oa)])) _
  obtain ⟨T1, X1, e1, st1⟩ := initO X0 hx hZ hown (hw _ (List.mem_of_getElem? (i := 11) rfl)) (hw _ (List.mem_of_getElem? (i := 12) rfl)) (hw _ (List.mem_of_getElem? (i := 13) rfl)) e0 (g := (mkF m 1 #[.val (.ref oa)] [(.ref oa)])) rfl (by rw [hml]; rfl) rfl (hb hby d2_1) (by decide) (W := 0) (by show 2 * 0 + _ ≤ _; exact Nat.le_of_eq rfl) (by decide)
  refine Goes.by st1 ?_
  show Goes p.tables e below (T1.setTop (mkF m 4 #[.val (.ref oa)] [])) _
  obtain ⟨fs, hr, hrun, hended, hW, hsame⟩ := X1.leave (v := none) (fun _ => rfl)
  refine ⟨_, _, X1.returnOut hx Bd.returns (hb hby d2_4) hr, hrun, hended, _, _, rfl, ?_, ⟨_, rfl⟩, hW, hsame.mono (by decide) (by decide)⟩
  show Q2 Z oa h0 n0 _ T1.heap _
  rw [e1]
  exact ⟨rfl, N0, rfl⟩
theorem d1_0 : decode prog_21_method_1_code 0 = .ok (.aload_n 0, 1) := by decide +kernel
theorem d1_1 : decode prog_21_method_1_code 1 = .ok (.invokespecial 1, 3) := by decide +kernel
theorem pd_0 : parseMethodDescriptor "()V" = some ⟨[], none⟩ := by decide +kernel
theorem d1_4 : decode prog_21_method_1_code 4 = .ok (.aload_n 0, 1) := by decide +kernel
theorem d1_5 : decode prog_21_method_1_code 5 = .ok (.iload_n 1, 1) := by decide +kernel
theorem d1_6 : decode prog_21_method_1_code 6 = .ok (.putfield 7, 3) := by decide +kernel
theorem d1_9 : decode prog_21_method_1_code 9 = .ok (.aload_n 0, 1) := by decide +kernel
theorem d1_10 : decode prog_21_method_1_code 10 = .ok (.iload_n 2, 1) := by decide +kernel
theorem d1_11 : decode prog_21_method_1_code 11 = .ok (.putfield 13, 3) := by decide +kernel
theorem d1_14 : decode prog_21_method_1_code 14 = .ok (.aload_n 0, 1) := by decide +kernel
theorem d1_15 : decode prog_21_method_1_code 15 = .ok (.iload_n 3, 1) := by decide +kernel
theorem d1_16 : decode prog_21_method_1_code 16 = .ok (.putfield 16, 3) := by decide +kernel
theorem d1_19 : decode prog_21_method_1_code 19 = .ok (.return_, 1) := by decide +kernel
theorem pn_1 : plainName "com/example/treewrite/treewrite/document/Identifier" = true := by first | (simp [plainName, overriddenIn]; done) | decide +kernel
theorem ef1 (m : MethodId) (oa : Addr) (ps : Int32) (pe : Int32) (pd : Int32) : entryFrame m #[(.ref oa), (.int ps), (.int pe), (.int pd)] 4 = mkF m 0 #[.val (.ref oa), .val (.int ps), .val (.int pe), .val (.int pd)] [] := by first | (simp [entryFrame, mkF, argsToLocals, Value.category]; done) | rfl
def Q1 (Z : State) (oa : Addr) (ps : Int32) (pe : Int32) (pd : Int32) (h0 : Heap) (n0 : Nat) (v : Option Value) (h : Heap) (L : List Loc) : Prop := v = none ∧ Fr n0 L ∧ Keep h0 h [oa] ∧ Exa Z h oa "com/example/treewrite/treewrite/document/Identifier" ∧ Fld Z h oa "com/example/treewrite/treewrite/document/Identifier" "start" "I" (.int ps) ∧ Fld Z h oa "com/example/treewrite/treewrite/document/Identifier" "end" "I" (.int pe) ∧ Fld Z h oa "com/example/treewrite/treewrite/document/Identifier" "depth" "I" (.int pd)
set_option maxRecDepth 65536 in
set_option maxHeartbeats 40000000 in
theorem rm1 (l : Launch) (Z : State) (a0 : Array Value) (hw : ∀ d ∈ tables_1, d.before a0 Z = true) (ws : List Jvm.Cond) (oa : Addr) (ps : Int32) (pe : Int32) (pd : Int32) (h0 : Heap) (n0 : Nat) (Z0 : n0 ≤ h0.size) (E_oa : Exa Z h0 oa "com/example/treewrite/treewrite/document/Identifier") (F_oa_start : Fld Z h0 oa "com/example/treewrite/treewrite/document/Identifier" "start" "I" (.int (0 : Int32))) (F_oa_end : Fld Z h0 oa "com/example/treewrite/treewrite/document/Identifier" "end" "I" (.int (0 : Int32))) (F_oa_depth : Fld Z h0 oa "com/example/treewrite/treewrite/document/Identifier" "depth" "I" (.int (0 : Int32))) (g_oa : n0 ≤ oa) :
    MetFree l (⟨"com/example/treewrite/treewrite/document/Identifier", "<init>", "(III)V"⟩ : MethodName) (head1 (Jvm.Cond.code (⟨"com/example/treewrite/treewrite/document/Identifier", "<init>", "(III)V"⟩ : MethodName) prog_21_method_1_code 4 none :: ws) ({ frames := 2, cells := 0, slots := 0, locals := 24 } : Room)) (fun a U => a = #[(.ref oa), (.int ps), (.int pe), (.int pd)] ∧ Z.Warmed39 U.vm ∧ U.heap = h0) (fun _ _ _ _ _ => True) (fun _ U o U' => ∃ v L, o = .returned v ∧ Q1 Z oa ps pe pd h0 n0 v U'.heap L ∧ FrameEnd U o U' L ({ frames := 2, cells := 0, slots := 0, locals := 24 } : Room).cells ({ frames := 2, cells := 0, slots := 0, locals := 24 } : Room).slots) := by
  refine MetFree.of_bodySF (plainFor_of_name pn_1) hisR ?_
  intro p e s m args below meth c s₁ Bd hml0 hP hK
  obtain ⟨rfl, hZ, hh⟩ := hP
  have hx := Bd.exec
  have hby := Bd.bytes
  have hml : c.maxLocals = 4 := hml0
  have hown : s.vm.findClass "com/example/treewrite/treewrite/document/Identifier" = some m.cls := findClass_of_methodNamed Bd.named
  have hnm := (name_of_methodNamed Bd.named Bd.method).1
  have X0 : Stand p l e ({ frames := 2, cells := 0, slots := 0, locals := 24 } : Room) s m #[(.ref oa), (.int ps), (.int pe), (.int pd)] below meth c s₁ [] 0 0 := Stand.of_body Bd
  have e0 : s₁.heap = h0 := by rw [← hh, Bd.state]; rfl
  have N0 := Fr.nil n0
  refine Goes.by (fun _ k => castTop (ef1 m oa ps pe pd) k) ?_
  show Goes p.tables e below (s₁.setTop (mkF m 0 #[.val (.ref oa), .val (.int ps), .val (.int pe), .val (.int pd)] [])) _
  refine Goes.by (fun _ k => XS.aloadN X0.here hx rfl (hb hby d1_0) rfl rfl k) ?_
  show Goes p.tables e below (s₁.setTop (mkF m 1 #[.val (.ref oa), .val (.int ps), .val (.int pe), .val (.int pd)] [(.ref oa)])) _
  obtain ⟨_, _, ⟨T1, L1, k1, n1⟩, -, X1, ⟨Lc1, hQ1, l1, y1, z1⟩, st1⟩ := X0.specialBack hx (y := (⟨"java/lang/Record", "<init>", "()V"⟩ : MethodName)) rfl hown (mvT hZ (hw _ (List.mem_of_getElem? (i := 6) rfl))) (mvT hZ (hw _ (List.mem_of_getElem? (i := 7) rfl))) (mvT hZ (hw _ (List.mem_of_getElem? (i := 10) rfl))) (by decide) (backOf (W := 0) (rm2 l Z a0 hw [] oa h0 n0 Z0) hZ (hw _ (List.mem_of_getElem? (i := 10) rfl)) (hw _ (List.mem_of_getElem? (i := 9) rfl)) (by decide) (by decide)) (g := (mkF m 1 #[.val (.ref oa), .val (.int ps), .val (.int pe), .val (.int pd)] [(.ref oa)])) rfl (by rw [hml]; rfl) (Steps.refl _) (a := oa) (argsL := []) (rest := []) (lenOf pd_0 rfl) rfl (by show 2 * 0 + _ ≤ _; exact Nat.le_of_eq rfl) (hb hby d1_1) (fun _ _ => ⟨rfl, e0, (by decide : 0 + 0 ≤ _), (by decide : 0 + 0 ≤ _)⟩)
  dsimp only [Pt.U, Pt.locs, Pt.cells, Pt.slots] at X1 l1 y1 z1 st1 hQ1
  subst l1 y1 z1
  obtain ⟨rfl, N1q, e1⟩ := hQ1
  have N1 := Fr.app N0 N1q
  refine Goes.via st1 ?_
  show Goes p.tables e below (T1.setTop (mkF m 4 #[.val (.ref oa), .val (.int ps), .val (.int pe), .val (.int pd)] [])) _
  refine Goes.by (fun _ k => XS.aloadN X1.here hx rfl (hb hby d1_4) rfl rfl k) ?_
  show Goes p.tables e below (T1.setTop (mkF m 5 #[.val (.ref oa), .val (.int ps), .val (.int pe), .val (.int pd)] [(.ref oa)])) _
  refine Goes.by (fun _ k => XS.iloadN X1.here hx rfl (hb hby d1_5) rfl k) ?_
  show Goes p.tables e below (T1.setTop (mkF m 6 #[.val (.ref oa), .val (.int ps), .val (.int pe), .val (.int pd)] [(.int ps), (.ref oa)])) _
  obtain ⟨T2, h2, X2, e2, W2, st2⟩ := putF X1 hx hZ hown (host := "") (Or.inl (hw _ (List.mem_of_getElem? (i := 14) rfl))) Via.refl e1 F_oa_start E_oa (Or.inr ⟨(hw _ (List.mem_of_getElem? (i := 15) rfl)), rfl, hnm⟩) (hw _ (List.mem_of_getElem? (i := 1) rfl)) (ty := .int) (by decide) rfl rfl (g := (mkF m 6 #[.val (.ref oa), .val (.int ps), .val (.int pe), .val (.int pd)] [(.int ps), (.ref oa)])) rfl rfl (hb hby d1_6)
  refine Goes.by st2 ?_
  have F_oa_start : Fld Z h2 oa "com/example/treewrite/treewrite/document/Identifier" "start" "I" (.int ps) := F_oa_start.same W2
  have N2 := Fr.snoc X2 N1 g_oa
  have Zs2 : n0 ≤ h2.size := Nat.le_trans Z0 (Keep.of_wr W2).1
  have K2 : Keep h0 h2 [oa] := (Keep.refl h0 [oa]).wr W2 (Or.inl (List.mem_of_getElem? (i := 0) rfl))
  have E_oa : Exa Z h2 oa "com/example/treewrite/treewrite/document/Identifier" := E_oa.wr W2
  have F_oa_end : Fld Z h2 oa "com/example/treewrite/treewrite/document/Identifier" "end" "I" (.int (0 : Int32)) := F_oa_end.other W2 (Or.inr (slot_ne (Or.inr (hw _ (List.mem_of_getElem? (i := 17) rfl))) (Or.inr (hw _ (List.mem_of_getElem? (i := 15) rfl))) (by decide) (t := .int) (t' := .int) (by decide) (by decide)))
  have F_oa_depth : Fld Z h2 oa "com/example/treewrite/treewrite/document/Identifier" "depth" "I" (.int (0 : Int32)) := F_oa_depth.other W2 (Or.inr (slot_ne (Or.inr (hw _ (List.mem_of_getElem? (i := 19) rfl))) (Or.inr (hw _ (List.mem_of_getElem? (i := 15) rfl))) (by decide) (t := .int) (t' := .int) (by decide) (by decide)))
  show Goes p.tables e below (T2.setTop (mkF m 9 #[.val (.ref oa), .val (.int ps), .val (.int pe), .val (.int pd)] [])) _
  refine Goes.by (fun _ k => XS.aloadN X2.here hx rfl (hb hby d1_9) rfl rfl k) ?_
  show Goes p.tables e below (T2.setTop (mkF m 10 #[.val (.ref oa), .val (.int ps), .val (.int pe), .val (.int pd)] [(.ref oa)])) _
  refine Goes.by (fun _ k => XS.iloadN X2.here hx rfl (hb hby d1_10) rfl k) ?_
  show Goes p.tables e below (T2.setTop (mkF m 11 #[.val (.ref oa), .val (.int ps), .val (.int pe), .val (.int pd)] [(.int pe), (.ref oa)])) _
  obtain ⟨T3, h3, X3, e3, W3, st3⟩ := putF X2 hx hZ hown (host := "") (Or.inl (hw _ (List.mem_of_getElem? (i := 16) rfl))) Via.refl e2 F_oa_end E_oa (Or.inr ⟨(hw _ (List.mem_of_getElem? (i := 17) rfl)), rfl, hnm⟩) (hw _ (List.mem_of_getElem? (i := 1) rfl)) (ty := .int) (by decide) rfl rfl (g := (mkF m 11 #[.val (.ref oa), .val (.int ps), .val (.int pe), .val (.int pd)] [(.int pe), (.ref oa)])) rfl rfl (hb hby d1_11)
  refine Goes.by st3 ?_
  have F_oa_end : Fld Z h3 oa "com/example/treewrite/treewrite/document/Identifier" "end" "I" (.int pe) := F_oa_end.same W3
  have N3 := Fr.snoc X3 N2 g_oa
  have Zs3 : n0 ≤ h3.size := Nat.le_trans Zs2 (Keep.of_wr W3).1
  have K3 : Keep h0 h3 [oa] := K2.wr W3 (Or.inl (List.mem_of_getElem? (i := 0) rfl))
  have E_oa : Exa Z h3 oa "com/example/treewrite/treewrite/document/Identifier" := E_oa.wr W3
  have F_oa_start : Fld Z h3 oa "com/example/treewrite/treewrite/document/Identifier" "start" "I" (.int ps) := F_oa_start.other W3 (Or.inr (slot_ne (Or.inr (hw _ (List.mem_of_getElem? (i := 15) rfl))) (Or.inr (hw _ (List.mem_of_getElem? (i := 17) rfl))) (by decide) (t := .int) (t' := .int) (by decide) (by decide)))
  have F_oa_depth : Fld Z h3 oa "com/example/treewrite/treewrite/document/Identifier" "depth" "I" (.int (0 : Int32)) := F_oa_depth.other W3 (Or.inr (slot_ne (Or.inr (hw _ (List.mem_of_getElem? (i := 19) rfl))) (Or.inr (hw _ (List.mem_of_getElem? (i := 17) rfl))) (by decide) (t := .int) (t' := .int) (by decide) (by decide)))
  show Goes p.tables e below (T3.setTop (mkF m 14 #[.val (.ref oa), .val (.int ps), .val (.int pe), .val (.int pd)] [])) _
  refine Goes.by (fun _ k => XS.aloadN X3.here hx rfl (hb hby d1_14) rfl rfl k) ?_
  show Goes p.tables e below (T3.setTop (mkF m 15 #[.val (.ref oa), .val (.int ps), .val (.int pe), .val (.int pd)] [(.ref oa)])) _
  refine Goes.by (fun _ k => XS.iloadN X3.here hx rfl (hb hby d1_15) rfl k) ?_
  show Goes p.tables e below (T3.setTop (mkF m 16 #[.val (.ref oa), .val (.int ps), .val (.int pe), .val (.int pd)] [(.int pd), (.ref oa)])) _
  obtain ⟨T4, h4, X4, e4, W4, st4⟩ := putF X3 hx hZ hown (host := "") (Or.inl (hw _ (List.mem_of_getElem? (i := 18) rfl))) Via.refl e3 F_oa_depth E_oa (Or.inr ⟨(hw _ (List.mem_of_getElem? (i := 19) rfl)), rfl, hnm⟩) (hw _ (List.mem_of_getElem? (i := 1) rfl)) (ty := .int) (by decide) rfl rfl (g := (mkF m 16 #[.val (.ref oa), .val (.int ps), .val (.int pe), .val (.int pd)] [(.int pd), (.ref oa)])) rfl rfl (hb hby d1_16)
  refine Goes.by st4 ?_
  have F_oa_depth : Fld Z h4 oa "com/example/treewrite/treewrite/document/Identifier" "depth" "I" (.int pd) := F_oa_depth.same W4
  have N4 := Fr.snoc X4 N3 g_oa
  have Zs4 : n0 ≤ h4.size := Nat.le_trans Zs3 (Keep.of_wr W4).1
  have K4 : Keep h0 h4 [oa] := K3.wr W4 (Or.inl (List.mem_of_getElem? (i := 0) rfl))
  have E_oa : Exa Z h4 oa "com/example/treewrite/treewrite/document/Identifier" := E_oa.wr W4
  have F_oa_start : Fld Z h4 oa "com/example/treewrite/treewrite/document/Identifier" "start" "I" (.int ps) := F_oa_start.other W4 (Or.inr (slot_ne (Or.inr (hw _ (List.mem_of_getElem? (i := 15) rfl))) (Or.inr (hw _ (List.mem_of_getElem? (i := 19) rfl))) (by decide) (t := .int) (t' := .int) (by decide) (by decide)))
  have F_oa_end : Fld Z h4 oa "com/example/treewrite/treewrite/document/Identifier" "end" "I" (.int pe) := F_oa_end.other W4 (Or.inr (slot_ne (Or.inr (hw _ (List.mem_of_getElem? (i := 17) rfl))) (Or.inr (hw _ (List.mem_of_getElem? (i := 19) rfl))) (by decide) (t := .int) (t' := .int) (by decide) (by decide)))
  show Goes p.tables e below (T4.setTop (mkF m 19 #[.val (.ref oa), .val (.int ps), .val (.int pe), .val (.int pd)] [])) _
  obtain ⟨fs, hr, hrun, hended, hW, hsame⟩ := X4.leave (v := none) (fun _ => rfl)
  refine ⟨_, _, X4.returnOut hx Bd.returns (hb hby d1_19) hr, hrun, hended, _, _, rfl, ?_, ⟨_, rfl⟩, hW, hsame.mono (by decide) (by decide)⟩
  show Q1 Z oa ps pe pd h0 n0 _ T4.heap _
  rw [e4]
  exact ⟨rfl, N4, K4, E_oa, F_oa_start, F_oa_end, F_oa_depth⟩
theorem d4_0 : decode prog_21_method_4_code 0 = .ok (.aload_n 0, 1) := by decide +kernel
theorem d4_1 : decode prog_21_method_4_code 1 = .ok (.getfield 7, 3) := by decide +kernel
theorem d4_4 : decode prog_21_method_4_code 4 = .ok (.aload_n 1, 1) := by decide +kernel
theorem d4_5 : decode prog_21_method_4_code 5 = .ok (.getfield 7, 3) := by decide +kernel
theorem d4_8 : decode prog_21_method_4_code 8 = .ok (.if_icmp .ge 18, 3) := by decide +kernel
theorem d4_11 : decode prog_21_method_4_code 11 = .ok (.aload_n 1, 1) := by decide +kernel
theorem d4_12 : decode prog_21_method_4_code 12 = .ok (.getfield 7, 3) := by decide +kernel
theorem d4_15 : decode prog_21_method_4_code 15 = .ok (.aload_n 0, 1) := by decide +kernel
theorem d4_16 : decode prog_21_method_4_code 16 = .ok (.getfield 13, 3) := by decide +kernel
theorem d4_19 : decode prog_21_method_4_code 19 = .ok (.if_icmp .gt 7, 3) := by decide +kernel
theorem d4_26 : decode prog_21_method_4_code 26 = .ok (.iconst 0, 1) := by decide +kernel
theorem d4_27 : decode prog_21_method_4_code 27 = .ok (.ireturn, 1) := by decide +kernel
theorem d4_22 : decode prog_21_method_4_code 22 = .ok (.iconst 1, 1) := by decide +kernel
theorem d4_23 : decode prog_21_method_4_code 23 = .ok (.goto 4, 3) := by decide +kernel
def fn4 (us : Int32) (ue : Int32) (uo : Int32) : Int32 := (if us < uo then (if ue < uo then (0 : Int32) else (1 : Int32)) else (0 : Int32))
theorem ef4 (m : MethodId) (oa : Addr) (ob : Addr) : entryFrame m #[(.ref oa), (.ref ob)] 2 = mkF m 0 #[.val (.ref oa), .val (.ref ob)] [] := by first | (simp [entryFrame, mkF, argsToLocals, Value.category]; done) | rfl
def Q4 (Z : State) (oa : Addr) (ob : Addr) (us : Int32) (ue : Int32) (uo : Int32) (h0 : Heap) (n0 : Nat) (v : Option Value) (h : Heap) (L : List Loc) : Prop := v = some (.int (fn4 us ue uo)) ∧ Fr n0 L ∧ h = h0
set_option maxRecDepth 65536 in
set_option maxHeartbeats 40000000 in
theorem rm4 (l : Launch) (Z : State) (a0 : Array Value) (hw : ∀ d ∈ tables_1, d.before a0 Z = true) (ws : List Jvm.Cond) (oa : Addr) (ob : Addr) (us : Int32) (ue : Int32) (uo : Int32) (h0 : Heap) (n0 : Nat) (Z0 : n0 ≤ h0.size) (F_oa_start : Fld Z h0 oa "com/example/treewrite/treewrite/document/Identifier" "start" "I" (.int us)) (F_oa_end : Fld Z h0 oa "com/example/treewrite/treewrite/document/Identifier" "end" "I" (.int ue)) (F_ob_start : Fld Z h0 ob "com/example/treewrite/treewrite/document/Identifier" "start" "I" (.int uo)) :
    MetFree l (⟨"com/example/treewrite/treewrite/document/Identifier", "isAncestorOf", "(Lcom/example/treewrite/treewrite/document/Identifier;)Z"⟩ : MethodName) (head1 (Jvm.Cond.code (⟨"com/example/treewrite/treewrite/document/Identifier", "isAncestorOf", "(Lcom/example/treewrite/treewrite/document/Identifier;)Z"⟩ : MethodName) prog_21_method_4_code 2 (some .boolean) :: ws) ({ frames := 0, cells := 0, slots := 0, locals := 0 } : Room)) (fun a U => a = #[(.ref oa), (.ref ob)] ∧ Z.Warmed39 U.vm ∧ U.heap = h0) (fun _ _ _ _ _ => True) (fun _ U o U' => ∃ v L, o = .returned v ∧ Q4 Z oa ob us ue uo h0 n0 v U'.heap L ∧ FrameEnd U o U' L ({ frames := 0, cells := 0, slots := 0, locals := 0 } : Room).cells ({ frames := 0, cells := 0, slots := 0, locals := 0 } : Room).slots) := by
  refine MetFree.of_bodySF (plainFor_of_name pn_1) hisR ?_
  intro p e s m args below meth c s₁ Bd hml0 hP hK
  obtain ⟨rfl, hZ, hh⟩ := hP
  have hx := Bd.exec
  have hby := Bd.bytes
  have hml : c.maxLocals = 2 := hml0
  have hown : s.vm.findClass "com/example/treewrite/treewrite/document/Identifier" = some m.cls := findClass_of_methodNamed Bd.named
  have hnm := (name_of_methodNamed Bd.named Bd.method).1
  have X0 : Stand p l e ({ frames := 0, cells := 0, slots := 0, locals := 0 } : Room) s m #[(.ref oa), (.ref ob)] below meth c s₁ [] 0 0 := Stand.of_body Bd
  have e0 : s₁.heap = h0 := by rw [← hh, Bd.state]; rfl
  have N0 := Fr.nil n0
  refine Goes.by (fun _ k => castTop (ef4 m oa ob) k) ?_
  show Goes p.tables e below (s₁.setTop (mkF m 0 #[.val (.ref oa), .val (.ref ob)] [])) _
  refine Goes.by (fun _ k => XS.aloadN X0.here hx rfl (hb hby d4_0) rfl rfl k) ?_
  show Goes p.tables e below (s₁.setTop (mkF m 1 #[.val (.ref oa), .val (.ref ob)] [(.ref oa)])) _
  obtain ⟨T1, X1, e1, st1⟩ := getF X0 hx hZ hown (host := "") (Or.inl (hw _ (List.mem_of_getElem? (i := 14) rfl))) Via.refl e0 F_oa_start (g := (mkF m 1 #[.val (.ref oa), .val (.ref ob)] [(.ref oa)])) rfl rfl (hb hby d4_1)
  refine Goes.by st1 ?_
  show Goes p.tables e below (T1.setTop (mkF m 4 #[.val (.ref oa), .val (.ref ob)] [(.int us)])) _
  refine Goes.by (fun _ k => XS.aloadN X1.here hx rfl (hb hby d4_4) rfl rfl k) ?_
  show Goes p.tables e below (T1.setTop (mkF m 5 #[.val (.ref oa), .val (.ref ob)] [(.ref ob), (.int us)])) _
  obtain ⟨T2, X2, e2, st2⟩ := getF X1 hx hZ hown (host := "") (Or.inl (hw _ (List.mem_of_getElem? (i := 14) rfl))) Via.refl e1 F_ob_start (g := (mkF m 5 #[.val (.ref oa), .val (.ref ob)] [(.ref ob), (.int us)])) rfl rfl (hb hby d4_5)
  refine Goes.by st2 ?_
  show Goes p.tables e below (T2.setTop (mkF m 8 #[.val (.ref oa), .val (.ref ob)] [(.int uo), (.int us)])) _
  by_cases hc3 : us < uo
  · refine Goes.by (fun _ k => XS.icmpNo X2.here hx rfl (hb hby d4_8) rfl (tlt hc3).2.1 k) ?_
    show Goes p.tables e below (T2.setTop (mkF m 11 #[.val (.ref oa), .val (.ref ob)] [])) _
    refine Goes.by (fun _ k => XS.aloadN X2.here hx rfl (hb hby d4_11) rfl rfl k) ?_
    show Goes p.tables e below (T2.setTop (mkF m 12 #[.val (.ref oa), .val (.ref ob)] [(.ref ob)])) _
    obtain ⟨T4, X4, e4, st4⟩ := getF X2 hx hZ hown (host := "") (Or.inl (hw _ (List.mem_of_getElem? (i := 14) rfl))) Via.refl e2 F_ob_start (g := (mkF m 12 #[.val (.ref oa), .val (.ref ob)] [(.ref ob)])) rfl rfl (hb hby d4_12)
    refine Goes.by st4 ?_
    show Goes p.tables e below (T4.setTop (mkF m 15 #[.val (.ref oa), .val (.ref ob)] [(.int uo)])) _
    refine Goes.by (fun _ k => XS.aloadN X4.here hx rfl (hb hby d4_15) rfl rfl k) ?_
    show Goes p.tables e below (T4.setTop (mkF m 16 #[.val (.ref oa), .val (.ref ob)] [(.ref oa), (.int uo)])) _
    obtain ⟨T5, X5, e5, st5⟩ := getF X4 hx hZ hown (host := "") (Or.inl (hw _ (List.mem_of_getElem? (i := 16) rfl))) Via.refl e4 F_oa_end (g := (mkF m 16 #[.val (.ref oa), .val (.ref ob)] [(.ref oa), (.int uo)])) rfl rfl (hb hby d4_16)
    refine Goes.by st5 ?_
    show Goes p.tables e below (T5.setTop (mkF m 19 #[.val (.ref oa), .val (.ref ob)] [(.int ue), (.int uo)])) _
    by_cases hc6 : ue < uo
    · refine Goes.by (fun _ k => XS.icmpYes X5.here hx rfl (pc0 := 19) (pc' := 26) rfl (hb hby d4_19) rfl (tlt hc6).2.2.1 (by decide) (by decide) k) ?_
      show Goes p.tables e below (T5.setTop (mkF m 26 #[.val (.ref oa), .val (.ref ob)] [])) _
      refine Goes.by (fun _ k => XS.iconst X5.here hx rfl (hb hby d4_26) k) ?_
      show Goes p.tables e below (T5.setTop (mkF m 27 #[.val (.ref oa), .val (.ref ob)] [(.int (0 : Int32))])) _
      obtain ⟨fs, hr, hrun, hended, hW, hsame⟩ := X5.leave (v := some (.int (0 : Int32))) (fun h => by rw [Bd.returns] at h; cases h)
      refine ⟨_, _, retN X5 hx (t := .boolean) Bd.returns (by simp) (hb hby d4_27) hr, hrun, hended, _, _, rfl, ?_, ⟨_, rfl⟩, hW, hsame.mono (by decide) (by decide)⟩
      show Q4 Z oa ob us ue uo h0 n0 _ T5.heap _
      rw [e5]
      exact ⟨(by rw [fn4, if_pos hc3, if_pos hc6]), N0, rfl⟩
    · refine Goes.by (fun _ k => XS.icmpNo X5.here hx rfl (hb hby d4_19) rfl (flt hc6).2.2.1 k) ?_
      show Goes p.tables e below (T5.setTop (mkF m 22 #[.val (.ref oa), .val (.ref ob)] [])) _
      refine Goes.by (fun _ k => XS.iconst X5.here hx rfl (hb hby d4_22) k) ?_
      show Goes p.tables e below (T5.setTop (mkF m 23 #[.val (.ref oa), .val (.ref ob)] [(.int (1 : Int32))])) _
      refine Goes.by (fun _ k => XS.goto X5.here hx rfl (pc0 := 23) (pc' := 27) rfl (hb hby d4_23) (by decide) (by decide) k) ?_
      show Goes p.tables e below (T5.setTop (mkF m 27 #[.val (.ref oa), .val (.ref ob)] [(.int (1 : Int32))])) _
      obtain ⟨fs, hr, hrun, hended, hW, hsame⟩ := X5.leave (v := some (.int (1 : Int32))) (fun h => by rw [Bd.returns] at h; cases h)
      refine ⟨_, _, retN X5 hx (t := .boolean) Bd.returns (by simp) (hb hby d4_27) hr, hrun, hended, _, _, rfl, ?_, ⟨_, rfl⟩, hW, hsame.mono (by decide) (by decide)⟩
      show Q4 Z oa ob us ue uo h0 n0 _ T5.heap _
      rw [e5]
      exact ⟨(by rw [fn4, if_pos hc3, if_neg hc6]), N0, rfl⟩
  · refine Goes.by (fun _ k => XS.icmpYes X2.here hx rfl (pc0 := 8) (pc' := 26) rfl (hb hby d4_8) rfl (flt hc3).2.1 (by decide) (by decide) k) ?_
    show Goes p.tables e below (T2.setTop (mkF m 26 #[.val (.ref oa), .val (.ref ob)] [])) _
    refine Goes.by (fun _ k => XS.iconst X2.here hx rfl (hb hby d4_26) k) ?_
    show Goes p.tables e below (T2.setTop (mkF m 27 #[.val (.ref oa), .val (.ref ob)] [(.int (0 : Int32))])) _
    obtain ⟨fs, hr, hrun, hended, hW, hsame⟩ := X2.leave (v := some (.int (0 : Int32))) (fun h => by rw [Bd.returns] at h; cases h)
    refine ⟨_, _, retN X2 hx (t := .boolean) Bd.returns (by simp) (hb hby d4_27) hr, hrun, hended, _, _, rfl, ?_, ⟨_, rfl⟩, hW, hsame.mono (by decide) (by decide)⟩
    show Q4 Z oa ob us ue uo h0 n0 _ T2.heap _
    rw [e2]
    exact ⟨(by rw [fn4, if_neg hc3]), N0, rfl⟩
theorem own_anc (s e o : Int32) (af sp : Int64) (h1 : af = o.toInt64 - s.toInt64) (h2 : sp = e.toInt64 - s.toInt64) : fn4 s e o = if af < (1 : Int64) then (0 : Int32) else if sp < af then (0 : Int32) else (1 : Int32) := by
  have a1 := c_lsub o.toInt64 s.toInt64
  have a2 := c_lsub e.toInt64 s.toInt64
  rw [← h1, c_i2l, c_i2l] at a1
  rw [← h2, c_i2l, c_i2l] at a2
  have b1 := rng32 s
  have b2 := rng32 e
  have b3 := rng32 o
  have b4 := rng64 af
  have b5 := rng64 sp
  have e1 : (1 : Int64).toInt = 1 := rfl
  rw [fn4]
  simp only [Int32.lt_iff_toInt_lt, Int64.lt_iff_toInt_lt, e1]
  (repeat' split) <;> first | rfl | (exfalso; omega)
theorem pd_1 : parseMethodDescriptor "(III)V" = some ⟨[.int, .int, .int], none⟩ := by decide +kernel
theorem pd_2 : parseMethodDescriptor "(Lcom/example/treewrite/treewrite/document/Identifier;)Z" = some ⟨[(.object "com/example/treewrite/treewrite/document/Identifier")], some .boolean⟩ := by decide +kernel
theorem pn_2 : plainName "com/example/treewrite/treewrite/document/IdentifierIsAncestorOfPinLaw" = true := by first | (simp [plainName, overriddenIn]; done) | decide +kernel
theorem ef0 (m : MethodId) (ps : Int32) (pe : Int32) (pd : Int32) (pr : Int32) (po : Int32) (pz : Int32) : entryFrame m #[(.int ps), (.int pe), (.int pd), (.int pr), (.int po), (.int pz)] maxLocals = mkF m 0 #[.val (.int ps), .val (.int pe), .val (.int pd), .val (.int pr), .val (.int po), .val (.int pz), .unset, .unset, .unset, .unset, .unset, .unset, .unset, .unset, .unset, .unset] [] := by first | (simp [entryFrame, mkF, argsToLocals, Value.category, maxLocals]; done) | rfl
def Q0 (Z : State) (ps : Int32) (pe : Int32) (pd : Int32) (pr : Int32) (po : Int32) (pz : Int32) (h0 : Heap) (n0 : Nat) (v : Option Value) (h : Heap) (L : List Loc) : Prop := v = some (.int (1 : Int32)) ∧ Fr n0 L
set_option maxRecDepth 65536 in
set_option maxHeartbeats 40000000 in
theorem rm0 (l : Launch) (Z : State) (a0 : Array Value) (hw : ∀ d ∈ tables_1, d.before a0 Z = true) (ws : List Jvm.Cond) (ps : Int32) (pe : Int32) (pd : Int32) (pr : Int32) (po : Int32) (pz : Int32) (h0 : Heap) (n0 : Nat) (Z0 : n0 ≤ h0.size) :
    MetFree l x (head1 (Jvm.Cond.code x code maxLocals ret :: ws) room_1) (fun a U => a = #[(.int ps), (.int pe), (.int pd), (.int pr), (.int po), (.int pz)] ∧ Z.Warmed39 U.vm ∧ U.heap = h0) (fun _ _ _ _ _ => True) (fun _ U o U' => ∃ v L, o = .returned v ∧ Q0 Z ps pe pd pr po pz h0 n0 v U'.heap L ∧ FrameEnd U o U' L room_1.cells room_1.slots) := by
  refine MetFree.of_bodySF (plainFor_of_name pn_2) hisR ?_
  intro p e s m args below meth c s₁ Bd hml0 hP hK
  obtain ⟨rfl, hZ, hh⟩ := hP
  have hx := Bd.exec
  have hby := Bd.bytes
  have hml : c.maxLocals = 16 := hml0
  have hown : s.vm.findClass "com/example/treewrite/treewrite/document/IdentifierIsAncestorOfPinLaw" = some m.cls := findClass_of_methodNamed Bd.named
  have hnm := (name_of_methodNamed Bd.named Bd.method).1
  have X0 : Stand p l e room_1 s m #[(.int ps), (.int pe), (.int pd), (.int pr), (.int po), (.int pz)] below meth c s₁ [] 0 0 := Stand.of_body Bd
  have e0 : s₁.heap = h0 := by rw [← hh, Bd.state]; rfl
  have N0 := Fr.nil n0
  refine Goes.by (fun _ k => castTop (ef0 m ps pe pd pr po pz) k) ?_
  show Goes p.tables e below (s₁.setTop (mkF m 0 #[.val (.int ps), .val (.int pe), .val (.int pd), .val (.int pr), .val (.int po), .val (.int pz), .unset, .unset, .unset, .unset, .unset, .unset, .unset, .unset, .unset, .unset] [])) _
  refine Goes.by (fun _ k => XS.iload X0.here hx rfl (hb hby at_0) rfl k) ?_
  show Goes p.tables e below (s₁.setTop (mkF m 2 #[.val (.int ps), .val (.int pe), .val (.int pd), .val (.int pr), .val (.int po), .val (.int pz), .unset, .unset, .unset, .unset, .unset, .unset, .unset, .unset, .unset, .unset] [(.int pz)])) _
  refine Goes.by (fun _ k => XS.iconst X0.here hx rfl (hb hby at_2) k) ?_
  show Goes p.tables e below (s₁.setTop (mkF m 3 #[.val (.int ps), .val (.int pe), .val (.int pd), .val (.int pr), .val (.int po), .val (.int pz), .unset, .unset, .unset, .unset, .unset, .unset, .unset, .unset, .unset, .unset] [(.int (3 : Int32)), (.int pz)])) _
  refine Goes.by (fun _ k => XS.iand X0.here hx rfl (hb hby at_3) rfl k) ?_
  show Goes p.tables e below (s₁.setTop (mkF m 4 #[.val (.int ps), .val (.int pe), .val (.int pd), .val (.int pr), .val (.int po), .val (.int pz), .unset, .unset, .unset, .unset, .unset, .unset, .unset, .unset, .unset, .unset] [(.int (pz &&& (3 : Int32)))])) _
  obtain ⟨x1, hx1⟩ : ∃ z : Int32, z = (pz &&& (3 : Int32)) := ⟨_, rfl⟩
  refine Goes.by (fun _ k => XS.istore X0.here hx rfl (hb hby at_4) rfl (l' := #[.val (.int ps), .val (.int pe), .val (.int pd), .val (.int pr), .val (.int po), .val (.int pz), .val (.int x1), .unset, .unset, .unset, .unset, .unset, .unset, .unset, .unset, .unset]) (by rw [hx1]; rfl) k) ?_
  show Goes p.tables e below (s₁.setTop (mkF m 6 #[.val (.int ps), .val (.int pe), .val (.int pd), .val (.int pr), .val (.int po), .val (.int pz), .val (.int x1), .unset, .unset, .unset, .unset, .unset, .unset, .unset, .unset, .unset] [])) _
  refine Goes.by (fun _ k => XS.iload X0.here hx rfl (hb hby at_6) rfl k) ?_
  show Goes p.tables e below (s₁.setTop (mkF m 8 #[.val (.int ps), .val (.int pe), .val (.int pd), .val (.int pr), .val (.int po), .val (.int pz), .val (.int x1), .unset, .unset, .unset, .unset, .unset, .unset, .unset, .unset, .unset] [(.int pz)])) _
  refine Goes.by (fun _ k => XS.iconst X0.here hx rfl (hb hby at_8) k) ?_
  show Goes p.tables e below (s₁.setTop (mkF m 9 #[.val (.int ps), .val (.int pe), .val (.int pd), .val (.int pr), .val (.int po), .val (.int pz), .val (.int x1), .unset, .unset, .unset, .unset, .unset, .unset, .unset, .unset, .unset] [(.int (2 : Int32)), (.int pz)])) _
  refine Goes.by (fun _ k => XS.iushr X0.here hx rfl (hb hby at_9) rfl k) ?_
  show Goes p.tables e below (s₁.setTop (mkF m 10 #[.val (.int ps), .val (.int pe), .val (.int pd), .val (.int pr), .val (.int po), .val (.int pz), .val (.int x1), .unset, .unset, .unset, .unset, .unset, .unset, .unset, .unset, .unset] [(.int ((pz.toUInt32 >>> ((2 : Int32) &&& 31).toUInt32).toInt32))])) _
  refine Goes.by (fun _ k => XS.iconst X0.here hx rfl (hb hby at_10) k) ?_
  show Goes p.tables e below (s₁.setTop (mkF m 11 #[.val (.int ps), .val (.int pe), .val (.int pd), .val (.int pr), .val (.int po), .val (.int pz), .val (.int x1), .unset, .unset, .unset, .unset, .unset, .unset, .unset, .unset, .unset] [(.int (3 : Int32)), (.int ((pz.toUInt32 >>> ((2 : Int32) &&& 31).toUInt32).toInt32))])) _
  refine Goes.by (fun _ k => iremM X0 hx rfl (hb hby at_11) rfl (by decide) k) ?_
  show Goes p.tables e below (s₁.setTop (mkF m 12 #[.val (.int ps), .val (.int pe), .val (.int pd), .val (.int pr), .val (.int po), .val (.int pz), .val (.int x1), .unset, .unset, .unset, .unset, .unset, .unset, .unset, .unset, .unset] [(.int (((pz.toUInt32 >>> ((2 : Int32) &&& 31).toUInt32).toInt32) % (3 : Int32)))])) _
  refine Goes.by (fun _ k => XS.iconst X0.here hx rfl (hb hby at_12) k) ?_
  show Goes p.tables e below (s₁.setTop (mkF m 13 #[.val (.int ps), .val (.int pe), .val (.int pd), .val (.int pr), .val (.int po), .val (.int pz), .val (.int x1), .unset, .unset, .unset, .unset, .unset, .unset, .unset, .unset, .unset] [(.int (1 : Int32)), (.int (((pz.toUInt32 >>> ((2 : Int32) &&& 31).toUInt32).toInt32) % (3 : Int32)))])) _
  refine Goes.by (fun _ k => XS.isub X0.here hx rfl (hb hby at_13) rfl k) ?_
  show Goes p.tables e below (s₁.setTop (mkF m 14 #[.val (.int ps), .val (.int pe), .val (.int pd), .val (.int pr), .val (.int po), .val (.int pz), .val (.int x1), .unset, .unset, .unset, .unset, .unset, .unset, .unset, .unset, .unset] [(.int ((((pz.toUInt32 >>> ((2 : Int32) &&& 31).toUInt32).toInt32) % (3 : Int32)) - (1 : Int32)))])) _
  obtain ⟨x2, hx2⟩ : ∃ z : Int32, z = ((((pz.toUInt32 >>> ((2 : Int32) &&& 31).toUInt32).toInt32) % (3 : Int32)) - (1 : Int32)) := ⟨_, rfl⟩
  refine Goes.by (fun _ k => XS.istore X0.here hx rfl (hb hby at_14) rfl (l' := #[.val (.int ps), .val (.int pe), .val (.int pd), .val (.int pr), .val (.int po), .val (.int pz), .val (.int x1), .val (.int x2), .unset, .unset, .unset, .unset, .unset, .unset, .unset, .unset]) (by rw [hx2]; rfl) k) ?_
  show Goes p.tables e below (s₁.setTop (mkF m 16 #[.val (.int ps), .val (.int pe), .val (.int pd), .val (.int pr), .val (.int po), .val (.int pz), .val (.int x1), .val (.int x2), .unset, .unset, .unset, .unset, .unset, .unset, .unset, .unset] [])) _
  refine Goes.by (fun _ k => XS.iload X0.here hx rfl (hb hby at_16) rfl k) ?_
  show Goes p.tables e below (s₁.setTop (mkF m 18 #[.val (.int ps), .val (.int pe), .val (.int pd), .val (.int pr), .val (.int po), .val (.int pz), .val (.int x1), .val (.int x2), .unset, .unset, .unset, .unset, .unset, .unset, .unset, .unset] [(.int x1)])) _
  obtain ⟨v3, hv3⟩ : ∃ z : Int32, z = (if x1 = (0 : Int32) then (ps + x2) else (if x1 = (1 : Int32) then (pe + x2) else pr)) := ⟨_, rfl⟩
  refine Goes.by (t' := s₁.setTop (mkF m 42 #[.val (.int ps), .val (.int pe), .val (.int pd), .val (.int pr), .val (.int po), .val (.int pz), .val (.int x1), .val (.int x2), .unset, .unset, .unset, .unset, .unset, .unset, .unset, .unset] [(.int v3)])) (fun u k => ?_) ?_
  · show Steps p.tables e below (s₁.setTop (mkF m 18 #[.val (.int ps), .val (.int pe), .val (.int pd), .val (.int pr), .val (.int po), .val (.int pz), .val (.int x1), .val (.int x2), .unset, .unset, .unset, .unset, .unset, .unset, .unset, .unset] [(.int x1)])) _
    by_cases hc4 : x1 = (0 : Int32)
    · refine XS.ifNo X0.here hx rfl (hb hby at_18) rfl ((if0 _ _).trans (teq hc4).2) ?_
      show Steps p.tables e below (s₁.setTop (mkF m 21 #[.val (.int ps), .val (.int pe), .val (.int pd), .val (.int pr), .val (.int po), .val (.int pz), .val (.int x1), .val (.int x2), .unset, .unset, .unset, .unset, .unset, .unset, .unset, .unset] [])) _
      refine XS.iloadN X0.here hx rfl (hb hby at_21) rfl ?_
      show Steps p.tables e below (s₁.setTop (mkF m 22 #[.val (.int ps), .val (.int pe), .val (.int pd), .val (.int pr), .val (.int po), .val (.int pz), .val (.int x1), .val (.int x2), .unset, .unset, .unset, .unset, .unset, .unset, .unset, .unset] [(.int ps)])) _
      refine XS.iload X0.here hx rfl (hb hby at_22) rfl ?_
      show Steps p.tables e below (s₁.setTop (mkF m 24 #[.val (.int ps), .val (.int pe), .val (.int pd), .val (.int pr), .val (.int po), .val (.int pz), .val (.int x1), .val (.int x2), .unset, .unset, .unset, .unset, .unset, .unset, .unset, .unset] [(.int x2), (.int ps)])) _
      refine XS.iadd X0.here hx rfl (hb hby at_24) rfl ?_
      show Steps p.tables e below (s₁.setTop (mkF m 25 #[.val (.int ps), .val (.int pe), .val (.int pd), .val (.int pr), .val (.int po), .val (.int pz), .val (.int x1), .val (.int x2), .unset, .unset, .unset, .unset, .unset, .unset, .unset, .unset] [(.int (ps + x2))])) _
      refine XS.goto X0.here hx rfl (pc0 := 25) (pc' := 42) rfl (hb hby at_25) (by decide) (by decide) ?_
      show Steps p.tables e below (s₁.setTop (mkF m 42 #[.val (.int ps), .val (.int pe), .val (.int pd), .val (.int pr), .val (.int po), .val (.int pz), .val (.int x1), .val (.int x2), .unset, .unset, .unset, .unset, .unset, .unset, .unset, .unset] [(.int (ps + x2))])) _
      have qv3 : v3 = (ps + x2) := by rw [hv3, if_pos hc4]
      subst qv3
      exact k
    · refine XS.ifYes X0.here hx rfl (pc0 := 18) (pc' := 28) rfl (hb hby at_18) rfl ((if0 _ _).trans (feq hc4).2) (by decide) (by decide) ?_
      show Steps p.tables e below (s₁.setTop (mkF m 28 #[.val (.int ps), .val (.int pe), .val (.int pd), .val (.int pr), .val (.int po), .val (.int pz), .val (.int x1), .val (.int x2), .unset, .unset, .unset, .unset, .unset, .unset, .unset, .unset] [])) _
      refine XS.iload X0.here hx rfl (hb hby at_28) rfl ?_
      show Steps p.tables e below (s₁.setTop (mkF m 30 #[.val (.int ps), .val (.int pe), .val (.int pd), .val (.int pr), .val (.int po), .val (.int pz), .val (.int x1), .val (.int x2), .unset, .unset, .unset, .unset, .unset, .unset, .unset, .unset] [(.int x1)])) _
      refine XS.iconst X0.here hx rfl (hb hby at_30) ?_
      show Steps p.tables e below (s₁.setTop (mkF m 31 #[.val (.int ps), .val (.int pe), .val (.int pd), .val (.int pr), .val (.int po), .val (.int pz), .val (.int x1), .val (.int x2), .unset, .unset, .unset, .unset, .unset, .unset, .unset, .unset] [(.int (1 : Int32)), (.int x1)])) _
      by_cases hc5 : x1 = (1 : Int32)
      · refine XS.icmpNo X0.here hx rfl (hb hby at_31) rfl (teq hc5).2 ?_
        show Steps p.tables e below (s₁.setTop (mkF m 34 #[.val (.int ps), .val (.int pe), .val (.int pd), .val (.int pr), .val (.int po), .val (.int pz), .val (.int x1), .val (.int x2), .unset, .unset, .unset, .unset, .unset, .unset, .unset, .unset] [])) _
        refine XS.iloadN X0.here hx rfl (hb hby at_34) rfl ?_
        show Steps p.tables e below (s₁.setTop (mkF m 35 #[.val (.int ps), .val (.int pe), .val (.int pd), .val (.int pr), .val (.int po), .val (.int pz), .val (.int x1), .val (.int x2), .unset, .unset, .unset, .unset, .unset, .unset, .unset, .unset] [(.int pe)])) _
        refine XS.iload X0.here hx rfl (hb hby at_35) rfl ?_
        show Steps p.tables e below (s₁.setTop (mkF m 37 #[.val (.int ps), .val (.int pe), .val (.int pd), .val (.int pr), .val (.int po), .val (.int pz), .val (.int x1), .val (.int x2), .unset, .unset, .unset, .unset, .unset, .unset, .unset, .unset] [(.int x2), (.int pe)])) _
        refine XS.iadd X0.here hx rfl (hb hby at_37) rfl ?_
        show Steps p.tables e below (s₁.setTop (mkF m 38 #[.val (.int ps), .val (.int pe), .val (.int pd), .val (.int pr), .val (.int po), .val (.int pz), .val (.int x1), .val (.int x2), .unset, .unset, .unset, .unset, .unset, .unset, .unset, .unset] [(.int (pe + x2))])) _
        refine XS.goto X0.here hx rfl (pc0 := 38) (pc' := 42) rfl (hb hby at_38) (by decide) (by decide) ?_
        show Steps p.tables e below (s₁.setTop (mkF m 42 #[.val (.int ps), .val (.int pe), .val (.int pd), .val (.int pr), .val (.int po), .val (.int pz), .val (.int x1), .val (.int x2), .unset, .unset, .unset, .unset, .unset, .unset, .unset, .unset] [(.int (pe + x2))])) _
        have qv3 : v3 = (pe + x2) := by rw [hv3, if_neg hc4, if_pos hc5]
        subst qv3
        exact k
      · refine XS.icmpYes X0.here hx rfl (pc0 := 31) (pc' := 41) rfl (hb hby at_31) rfl (feq hc5).2 (by decide) (by decide) ?_
        show Steps p.tables e below (s₁.setTop (mkF m 41 #[.val (.int ps), .val (.int pe), .val (.int pd), .val (.int pr), .val (.int po), .val (.int pz), .val (.int x1), .val (.int x2), .unset, .unset, .unset, .unset, .unset, .unset, .unset, .unset] [])) _
        refine XS.iloadN X0.here hx rfl (hb hby at_41) rfl ?_
        show Steps p.tables e below (s₁.setTop (mkF m 42 #[.val (.int ps), .val (.int pe), .val (.int pd), .val (.int pr), .val (.int po), .val (.int pz), .val (.int x1), .val (.int x2), .unset, .unset, .unset, .unset, .unset, .unset, .unset, .unset] [(.int pr)])) _
        have qv3 : v3 = pr := by rw [hv3, if_neg hc4, if_neg hc5]
        subst qv3
        exact k
  show Goes p.tables e below (s₁.setTop (mkF m 42 #[.val (.int ps), .val (.int pe), .val (.int pd), .val (.int pr), .val (.int po), .val (.int pz), .val (.int x1), .val (.int x2), .unset, .unset, .unset, .unset, .unset, .unset, .unset, .unset] [(.int v3)])) _
  refine Goes.by (fun _ k => XS.istore X0.here hx rfl (hb hby at_42) rfl (l' := #[.val (.int ps), .val (.int pe), .val (.int pd), .val (.int pr), .val (.int po), .val (.int pz), .val (.int x1), .val (.int x2), .val (.int v3), .unset, .unset, .unset, .unset, .unset, .unset, .unset]) rfl k) ?_
  show Goes p.tables e below (s₁.setTop (mkF m 44 #[.val (.int ps), .val (.int pe), .val (.int pd), .val (.int pr), .val (.int po), .val (.int pz), .val (.int x1), .val (.int x2), .val (.int v3), .unset, .unset, .unset, .unset, .unset, .unset, .unset] [])) _
  obtain ⟨T6, h6, X6, e6, E6, A6, D6, -, st6⟩ := newO X0 hx hZ hown (hw _ (List.mem_of_getElem? (i := 0) rfl)) (hw _ (List.mem_of_getElem? (i := 1) rfl)) (hw _ (List.mem_of_getElem? (i := 2) rfl)) e0 (g := (mkF m 44 #[.val (.int ps), .val (.int pe), .val (.int pd), .val (.int pr), .val (.int po), .val (.int pz), .val (.int x1), .val (.int x2), .val (.int v3), .unset, .unset, .unset, .unset, .unset, .unset, .unset] [])) rfl (hb hby at_44) (by decide) (by decide)
  obtain ⟨b6, g6⟩ : ∃ z, z = h0.size := ⟨_, rfl⟩
  rw [← g6] at A6 D6 st6
  have g_b6 : n0 ≤ b6 := Nat.le_trans Z0 (Nat.le_of_eq g6.symm)
  have sz_b6 : h0.size ≤ b6 := Nat.le_trans (Keep.refl h0 []).1 (Nat.le_of_eq g6.symm)
  have Zs6 : n0 ≤ h6.size := Nat.le_trans Z0 E6.1
  have K6 : Keep h0 h6 [] := (Keep.refl h0 []).ext E6
  refine Goes.by st6 ?_
  have E_b6 : Exa Z h6 b6 "com/example/treewrite/treewrite/document/Identifier" := A6
  have F_b6_start : Fld Z h6 b6 "com/example/treewrite/treewrite/document/Identifier" "start" "I" (.int (0 : Int32)) := D6 (Or.inr (hw _ (List.mem_of_getElem? (i := 15) rfl))) (ty := .int) (by decide)
  have F_b6_end : Fld Z h6 b6 "com/example/treewrite/treewrite/document/Identifier" "end" "I" (.int (0 : Int32)) := D6 (Or.inr (hw _ (List.mem_of_getElem? (i := 17) rfl))) (ty := .int) (by decide)
  have F_b6_depth : Fld Z h6 b6 "com/example/treewrite/treewrite/document/Identifier" "depth" "I" (.int (0 : Int32)) := D6 (Or.inr (hw _ (List.mem_of_getElem? (i := 19) rfl))) (ty := .int) (by decide)
  show Goes p.tables e below (T6.setTop (mkF m 47 #[.val (.int ps), .val (.int pe), .val (.int pd), .val (.int pr), .val (.int po), .val (.int pz), .val (.int x1), .val (.int x2), .val (.int v3), .unset, .unset, .unset, .unset, .unset, .unset, .unset] [(.ref b6)])) _
  refine Goes.by (fun _ k => XS.dup X6.here hx rfl (hb hby at_47) rfl rfl k) ?_
  show Goes p.tables e below (T6.setTop (mkF m 48 #[.val (.int ps), .val (.int pe), .val (.int pd), .val (.int pr), .val (.int po), .val (.int pz), .val (.int x1), .val (.int x2), .val (.int v3), .unset, .unset, .unset, .unset, .unset, .unset, .unset] [(.ref b6), (.ref b6)])) _
  refine Goes.by (fun _ k => XS.iloadN X6.here hx rfl (hb hby at_48) rfl k) ?_
  show Goes p.tables e below (T6.setTop (mkF m 49 #[.val (.int ps), .val (.int pe), .val (.int pd), .val (.int pr), .val (.int po), .val (.int pz), .val (.int x1), .val (.int x2), .val (.int v3), .unset, .unset, .unset, .unset, .unset, .unset, .unset] [(.int ps), (.ref b6), (.ref b6)])) _
  refine Goes.by (fun _ k => XS.iloadN X6.here hx rfl (hb hby at_49) rfl k) ?_
  show Goes p.tables e below (T6.setTop (mkF m 50 #[.val (.int ps), .val (.int pe), .val (.int pd), .val (.int pr), .val (.int po), .val (.int pz), .val (.int x1), .val (.int x2), .val (.int v3), .unset, .unset, .unset, .unset, .unset, .unset, .unset] [(.int pe), (.int ps), (.ref b6), (.ref b6)])) _
  refine Goes.by (fun _ k => XS.iloadN X6.here hx rfl (hb hby at_50) rfl k) ?_
  show Goes p.tables e below (T6.setTop (mkF m 51 #[.val (.int ps), .val (.int pe), .val (.int pd), .val (.int pr), .val (.int po), .val (.int pz), .val (.int x1), .val (.int x2), .val (.int v3), .unset, .unset, .unset, .unset, .unset, .unset, .unset] [(.int pd), (.int pe), (.int ps), (.ref b6), (.ref b6)])) _
  obtain ⟨_, _, ⟨T7, L7, k7, n7⟩, -, X7, ⟨Lc7, hQ7, l7, y7, z7⟩, st7⟩ := X6.specialBack hx (y := (⟨"com/example/treewrite/treewrite/document/Identifier", "<init>", "(III)V"⟩ : MethodName)) rfl hown (mvT hZ (hw _ (List.mem_of_getElem? (i := 3) rfl))) (mvT hZ (hw _ (List.mem_of_getElem? (i := 4) rfl))) (mvT hZ (hw _ (List.mem_of_getElem? (i := 5) rfl))) (by decide) (backOf (W := 1) (rm1 l Z a0 hw [] b6 ps pe pd h6 n0 Zs6 E_b6 F_b6_start F_b6_end F_b6_depth g_b6) hZ (hw _ (List.mem_of_getElem? (i := 5) rfl)) (hw _ (List.mem_of_getElem? (i := 2) rfl)) (by decide) (by decide)) (g := (mkF m 51 #[.val (.int ps), .val (.int pe), .val (.int pd), .val (.int pr), .val (.int po), .val (.int pz), .val (.int x1), .val (.int x2), .val (.int v3), .unset, .unset, .unset, .unset, .unset, .unset, .unset] [(.int pd), (.int pe), (.int ps), (.ref b6), (.ref b6)])) rfl (by rw [hml]; rfl) (Steps.refl _) (a := b6) (argsL := [(.int ps), (.int pe), (.int pd)]) (rest := [(.ref b6)]) (lenOf pd_1 rfl) rfl (by show 2 * 0 + _ ≤ _; exact Nat.le_of_eq rfl) (hb hby at_51) (fun _ _ => ⟨rfl, e6, (by decide : 1 + 0 ≤ _), (by decide : 3 + 0 ≤ _)⟩)
  dsimp only [Pt.U, Pt.locs, Pt.cells, Pt.slots] at X7 l7 y7 z7 st7 hQ7
  subst l7 y7 z7
  obtain ⟨rfl, N7q, Kq7, po7_0, po7_1, po7_2, po7_3⟩ := hQ7
  have N7 := Fr.app N0 N7q
  refine Goes.via st7 ?_
  have Zs7 : n0 ≤ T7.heap.size := Nat.le_trans Zs6 Kq7.1
  have K7 : Keep h0 T7.heap [] := K6.trans Kq7 (allS (Or.inr sz_b6) all0)
  have E_b6 : Exa Z T7.heap b6 "com/example/treewrite/treewrite/document/Identifier" := E_b6.keep Kq7
  have E_b6 : Exa Z T7.heap b6 "com/example/treewrite/treewrite/document/Identifier" := po7_0
  have F_b6_start : Fld Z T7.heap b6 "com/example/treewrite/treewrite/document/Identifier" "start" "I" (.int ps) := po7_1
  have F_b6_end : Fld Z T7.heap b6 "com/example/treewrite/treewrite/document/Identifier" "end" "I" (.int pe) := po7_2
  have F_b6_depth : Fld Z T7.heap b6 "com/example/treewrite/treewrite/document/Identifier" "depth" "I" (.int pd) := po7_3
  show Goes p.tables e below (T7.setTop (mkF m 54 #[.val (.int ps), .val (.int pe), .val (.int pd), .val (.int pr), .val (.int po), .val (.int pz), .val (.int x1), .val (.int x2), .val (.int v3), .unset, .unset, .unset, .unset, .unset, .unset, .unset] [(.ref b6)])) _
  refine Goes.by (fun _ k => XS.astore X7.here hx rfl (hb hby at_54) rfl rfl (l' := #[.val (.int ps), .val (.int pe), .val (.int pd), .val (.int pr), .val (.int po), .val (.int pz), .val (.int x1), .val (.int x2), .val (.int v3), .val (.ref b6), .unset, .unset, .unset, .unset, .unset, .unset]) rfl k) ?_
  show Goes p.tables e below (T7.setTop (mkF m 56 #[.val (.int ps), .val (.int pe), .val (.int pd), .val (.int pr), .val (.int po), .val (.int pz), .val (.int x1), .val (.int x2), .val (.int v3), .val (.ref b6), .unset, .unset, .unset, .unset, .unset, .unset] [])) _
  obtain ⟨T8, h8, X8, e8, E8, A8, D8, -, st8⟩ := newO X7 hx hZ hown (hw _ (List.mem_of_getElem? (i := 0) rfl)) (hw _ (List.mem_of_getElem? (i := 1) rfl)) (hw _ (List.mem_of_getElem? (i := 2) rfl)) rfl (g := (mkF m 56 #[.val (.int ps), .val (.int pe), .val (.int pd), .val (.int pr), .val (.int po), .val (.int pz), .val (.int x1), .val (.int x2), .val (.int v3), .val (.ref b6), .unset, .unset, .unset, .unset, .unset, .unset] [])) rfl (hb hby at_56) (by decide) (by decide)
  obtain ⟨b8, g8⟩ : ∃ z, z = T7.heap.size := ⟨_, rfl⟩
  rw [← g8] at A8 D8 st8
  have g_b8 : n0 ≤ b8 := Nat.le_trans Zs7 (Nat.le_of_eq g8.symm)
  have sz_b8 : h0.size ≤ b8 := Nat.le_trans K7.1 (Nat.le_of_eq g8.symm)
  have ne_b6_b8 : b6 ≠ b8 := Nat.ne_of_lt (Nat.lt_of_lt_of_le E_b6.lt (Nat.le_of_eq g8.symm))
  have Zs8 : n0 ≤ h8.size := Nat.le_trans Zs7 E8.1
  have K8 : Keep h0 h8 [] := K7.ext E8
  refine Goes.by st8 ?_
  have E_b6 : Exa Z h8 b6 "com/example/treewrite/treewrite/document/Identifier" := E_b6.ext E8
  have F_b6_start : Fld Z h8 b6 "com/example/treewrite/treewrite/document/Identifier" "start" "I" (.int ps) := F_b6_start.ext E8
  have F_b6_end : Fld Z h8 b6 "com/example/treewrite/treewrite/document/Identifier" "end" "I" (.int pe) := F_b6_end.ext E8
  have F_b6_depth : Fld Z h8 b6 "com/example/treewrite/treewrite/document/Identifier" "depth" "I" (.int pd) := F_b6_depth.ext E8
  have E_b8 : Exa Z h8 b8 "com/example/treewrite/treewrite/document/Identifier" := A8
  have F_b8_start : Fld Z h8 b8 "com/example/treewrite/treewrite/document/Identifier" "start" "I" (.int (0 : Int32)) := D8 (Or.inr (hw _ (List.mem_of_getElem? (i := 15) rfl))) (ty := .int) (by decide)
  have F_b8_end : Fld Z h8 b8 "com/example/treewrite/treewrite/document/Identifier" "end" "I" (.int (0 : Int32)) := D8 (Or.inr (hw _ (List.mem_of_getElem? (i := 17) rfl))) (ty := .int) (by decide)
  have F_b8_depth : Fld Z h8 b8 "com/example/treewrite/treewrite/document/Identifier" "depth" "I" (.int (0 : Int32)) := D8 (Or.inr (hw _ (List.mem_of_getElem? (i := 19) rfl))) (ty := .int) (by decide)
  show Goes p.tables e below (T8.setTop (mkF m 59 #[.val (.int ps), .val (.int pe), .val (.int pd), .val (.int pr), .val (.int po), .val (.int pz), .val (.int x1), .val (.int x2), .val (.int v3), .val (.ref b6), .unset, .unset, .unset, .unset, .unset, .unset] [(.ref b8)])) _
  refine Goes.by (fun _ k => XS.dup X8.here hx rfl (hb hby at_59) rfl rfl k) ?_
  show Goes p.tables e below (T8.setTop (mkF m 60 #[.val (.int ps), .val (.int pe), .val (.int pd), .val (.int pr), .val (.int po), .val (.int pz), .val (.int x1), .val (.int x2), .val (.int v3), .val (.ref b6), .unset, .unset, .unset, .unset, .unset, .unset] [(.ref b8), (.ref b8)])) _
  refine Goes.by (fun _ k => XS.iload X8.here hx rfl (hb hby at_60) rfl k) ?_
  show Goes p.tables e below (T8.setTop (mkF m 62 #[.val (.int ps), .val (.int pe), .val (.int pd), .val (.int pr), .val (.int po), .val (.int pz), .val (.int x1), .val (.int x2), .val (.int v3), .val (.ref b6), .unset, .unset, .unset, .unset, .unset, .unset] [(.int v3), (.ref b8), (.ref b8)])) _
  refine Goes.by (fun _ k => XS.iload X8.here hx rfl (hb hby at_62) rfl k) ?_
  show Goes p.tables e below (T8.setTop (mkF m 64 #[.val (.int ps), .val (.int pe), .val (.int pd), .val (.int pr), .val (.int po), .val (.int pz), .val (.int x1), .val (.int x2), .val (.int v3), .val (.ref b6), .unset, .unset, .unset, .unset, .unset, .unset] [(.int po), (.int v3), (.ref b8), (.ref b8)])) _
  refine Goes.by (fun _ k => XS.iloadN X8.here hx rfl (hb hby at_64) rfl k) ?_
  show Goes p.tables e below (T8.setTop (mkF m 65 #[.val (.int ps), .val (.int pe), .val (.int pd), .val (.int pr), .val (.int po), .val (.int pz), .val (.int x1), .val (.int x2), .val (.int v3), .val (.ref b6), .unset, .unset, .unset, .unset, .unset, .unset] [(.int pd), (.int po), (.int v3), (.ref b8), (.ref b8)])) _
  refine Goes.by (fun _ k => XS.iload X8.here hx rfl (hb hby at_65) rfl k) ?_
  show Goes p.tables e below (T8.setTop (mkF m 67 #[.val (.int ps), .val (.int pe), .val (.int pd), .val (.int pr), .val (.int po), .val (.int pz), .val (.int x1), .val (.int x2), .val (.int v3), .val (.ref b6), .unset, .unset, .unset, .unset, .unset, .unset] [(.int pz), (.int pd), (.int po), (.int v3), (.ref b8), (.ref b8)])) _
  refine Goes.by (fun _ k => XS.ixor X8.here hx rfl (hb hby at_67) rfl k) ?_
  show Goes p.tables e below (T8.setTop (mkF m 68 #[.val (.int ps), .val (.int pe), .val (.int pd), .val (.int pr), .val (.int po), .val (.int pz), .val (.int x1), .val (.int x2), .val (.int v3), .val (.ref b6), .unset, .unset, .unset, .unset, .unset, .unset] [(.int (pd ^^^ pz)), (.int po), (.int v3), (.ref b8), (.ref b8)])) _
  obtain ⟨_, _, ⟨T9, L9, k9, n9⟩, -, X9, ⟨Lc9, hQ9, l9, y9, z9⟩, st9⟩ := X8.specialBack hx (y := (⟨"com/example/treewrite/treewrite/document/Identifier", "<init>", "(III)V"⟩ : MethodName)) rfl hown (mvT hZ (hw _ (List.mem_of_getElem? (i := 3) rfl))) (mvT hZ (hw _ (List.mem_of_getElem? (i := 4) rfl))) (mvT hZ (hw _ (List.mem_of_getElem? (i := 5) rfl))) (by decide) (backOf (W := 1) (rm1 l Z a0 hw [] b8 v3 po (pd ^^^ pz) h8 n0 Zs8 E_b8 F_b8_start F_b8_end F_b8_depth g_b8) hZ (hw _ (List.mem_of_getElem? (i := 5) rfl)) (hw _ (List.mem_of_getElem? (i := 2) rfl)) (by decide) (by decide)) (g := (mkF m 68 #[.val (.int ps), .val (.int pe), .val (.int pd), .val (.int pr), .val (.int po), .val (.int pz), .val (.int x1), .val (.int x2), .val (.int v3), .val (.ref b6), .unset, .unset, .unset, .unset, .unset, .unset] [(.int (pd ^^^ pz)), (.int po), (.int v3), (.ref b8), (.ref b8)])) rfl (by rw [hml]; rfl) (Steps.refl _) (a := b8) (argsL := [(.int v3), (.int po), (.int (pd ^^^ pz))]) (rest := [(.ref b8)]) (lenOf pd_1 rfl) rfl (by show 2 * 0 + _ ≤ _; exact Nat.le_of_eq rfl) (hb hby at_68) (fun _ _ => ⟨rfl, e8, (by decide : 2 + 0 ≤ _), (by decide : 6 + 0 ≤ _)⟩)
  dsimp only [Pt.U, Pt.locs, Pt.cells, Pt.slots] at X9 l9 y9 z9 st9 hQ9
  subst l9 y9 z9
  obtain ⟨rfl, N9q, Kq9, po9_0, po9_1, po9_2, po9_3⟩ := hQ9
  have N9 := Fr.app N7 N9q
  refine Goes.via st9 ?_
  have Zs9 : n0 ≤ T9.heap.size := Nat.le_trans Zs8 Kq9.1
  have K9 : Keep h0 T9.heap [] := K8.trans Kq9 (allS (Or.inr sz_b8) all0)
  have E_b6 : Exa Z T9.heap b6 "com/example/treewrite/treewrite/document/Identifier" := E_b6.keep Kq9
  have F_b6_start : Fld Z T9.heap b6 "com/example/treewrite/treewrite/document/Identifier" "start" "I" (.int ps) := F_b6_start.keep Kq9 (ninS ne_b6_b8 nin0)
  have F_b6_end : Fld Z T9.heap b6 "com/example/treewrite/treewrite/document/Identifier" "end" "I" (.int pe) := F_b6_end.keep Kq9 (ninS ne_b6_b8 nin0)
  have F_b6_depth : Fld Z T9.heap b6 "com/example/treewrite/treewrite/document/Identifier" "depth" "I" (.int pd) := F_b6_depth.keep Kq9 (ninS ne_b6_b8 nin0)
  have E_b8 : Exa Z T9.heap b8 "com/example/treewrite/treewrite/document/Identifier" := E_b8.keep Kq9
  have E_b8 : Exa Z T9.heap b8 "com/example/treewrite/treewrite/document/Identifier" := po9_0
  have F_b8_start : Fld Z T9.heap b8 "com/example/treewrite/treewrite/document/Identifier" "start" "I" (.int v3) := po9_1
  have F_b8_end : Fld Z T9.heap b8 "com/example/treewrite/treewrite/document/Identifier" "end" "I" (.int po) := po9_2
  have F_b8_depth : Fld Z T9.heap b8 "com/example/treewrite/treewrite/document/Identifier" "depth" "I" (.int (pd ^^^ pz)) := po9_3
  show Goes p.tables e below (T9.setTop (mkF m 71 #[.val (.int ps), .val (.int pe), .val (.int pd), .val (.int pr), .val (.int po), .val (.int pz), .val (.int x1), .val (.int x2), .val (.int v3), .val (.ref b6), .unset, .unset, .unset, .unset, .unset, .unset] [(.ref b8)])) _
  refine Goes.by (fun _ k => XS.astore X9.here hx rfl (hb hby at_71) rfl rfl (l' := #[.val (.int ps), .val (.int pe), .val (.int pd), .val (.int pr), .val (.int po), .val (.int pz), .val (.int x1), .val (.int x2), .val (.int v3), .val (.ref b6), .val (.ref b8), .unset, .unset, .unset, .unset, .unset]) rfl k) ?_
  show Goes p.tables e below (T9.setTop (mkF m 73 #[.val (.int ps), .val (.int pe), .val (.int pd), .val (.int pr), .val (.int po), .val (.int pz), .val (.int x1), .val (.int x2), .val (.int v3), .val (.ref b6), .val (.ref b8), .unset, .unset, .unset, .unset, .unset] [])) _
  refine Goes.by (fun _ k => XS.iload X9.here hx rfl (hb hby at_73) rfl k) ?_
  show Goes p.tables e below (T9.setTop (mkF m 75 #[.val (.int ps), .val (.int pe), .val (.int pd), .val (.int pr), .val (.int po), .val (.int pz), .val (.int x1), .val (.int x2), .val (.int v3), .val (.ref b6), .val (.ref b8), .unset, .unset, .unset, .unset, .unset] [(.int v3)])) _
  refine Goes.by (fun _ k => XS.i2l X9.here hx rfl (hb hby at_75) rfl k) ?_
  show Goes p.tables e below (T9.setTop (mkF m 76 #[.val (.int ps), .val (.int pe), .val (.int pd), .val (.int pr), .val (.int po), .val (.int pz), .val (.int x1), .val (.int x2), .val (.int v3), .val (.ref b6), .val (.ref b8), .unset, .unset, .unset, .unset, .unset] [(.long (v3.toInt64))])) _
  refine Goes.by (fun _ k => XS.iloadN X9.here hx rfl (hb hby at_76) rfl k) ?_
  show Goes p.tables e below (T9.setTop (mkF m 77 #[.val (.int ps), .val (.int pe), .val (.int pd), .val (.int pr), .val (.int po), .val (.int pz), .val (.int x1), .val (.int x2), .val (.int v3), .val (.ref b6), .val (.ref b8), .unset, .unset, .unset, .unset, .unset] [(.int ps), (.long (v3.toInt64))])) _
  refine Goes.by (fun _ k => XS.i2l X9.here hx rfl (hb hby at_77) rfl k) ?_
  show Goes p.tables e below (T9.setTop (mkF m 78 #[.val (.int ps), .val (.int pe), .val (.int pd), .val (.int pr), .val (.int po), .val (.int pz), .val (.int x1), .val (.int x2), .val (.int v3), .val (.ref b6), .val (.ref b8), .unset, .unset, .unset, .unset, .unset] [(.long (ps.toInt64)), (.long (v3.toInt64))])) _
  refine Goes.by (fun _ k => XS.lsub X9.here hx rfl (hb hby at_78) rfl k) ?_
  show Goes p.tables e below (T9.setTop (mkF m 79 #[.val (.int ps), .val (.int pe), .val (.int pd), .val (.int pr), .val (.int po), .val (.int pz), .val (.int x1), .val (.int x2), .val (.int v3), .val (.ref b6), .val (.ref b8), .unset, .unset, .unset, .unset, .unset] [(.long ((v3.toInt64) - (ps.toInt64)))])) _
  obtain ⟨x10, hx10⟩ : ∃ z : Int64, z = ((v3.toInt64) - (ps.toInt64)) := ⟨_, rfl⟩
  refine Goes.by (fun _ k => XS.lstore X9.here hx rfl (hb hby at_79) rfl (l' := #[.val (.int ps), .val (.int pe), .val (.int pd), .val (.int pr), .val (.int po), .val (.int pz), .val (.int x1), .val (.int x2), .val (.int v3), .val (.ref b6), .val (.ref b8), .val (.long x10), .second, .unset, .unset, .unset]) (by rw [hx10]; rfl) k) ?_
  show Goes p.tables e below (T9.setTop (mkF m 81 #[.val (.int ps), .val (.int pe), .val (.int pd), .val (.int pr), .val (.int po), .val (.int pz), .val (.int x1), .val (.int x2), .val (.int v3), .val (.ref b6), .val (.ref b8), .val (.long x10), .second, .unset, .unset, .unset] [])) _
  refine Goes.by (fun _ k => XS.iloadN X9.here hx rfl (hb hby at_81) rfl k) ?_
  show Goes p.tables e below (T9.setTop (mkF m 82 #[.val (.int ps), .val (.int pe), .val (.int pd), .val (.int pr), .val (.int po), .val (.int pz), .val (.int x1), .val (.int x2), .val (.int v3), .val (.ref b6), .val (.ref b8), .val (.long x10), .second, .unset, .unset, .unset] [(.int pe)])) _
  refine Goes.by (fun _ k => XS.i2l X9.here hx rfl (hb hby at_82) rfl k) ?_
  show Goes p.tables e below (T9.setTop (mkF m 83 #[.val (.int ps), .val (.int pe), .val (.int pd), .val (.int pr), .val (.int po), .val (.int pz), .val (.int x1), .val (.int x2), .val (.int v3), .val (.ref b6), .val (.ref b8), .val (.long x10), .second, .unset, .unset, .unset] [(.long (pe.toInt64))])) _
  refine Goes.by (fun _ k => XS.iloadN X9.here hx rfl (hb hby at_83) rfl k) ?_
  show Goes p.tables e below (T9.setTop (mkF m 84 #[.val (.int ps), .val (.int pe), .val (.int pd), .val (.int pr), .val (.int po), .val (.int pz), .val (.int x1), .val (.int x2), .val (.int v3), .val (.ref b6), .val (.ref b8), .val (.long x10), .second, .unset, .unset, .unset] [(.int ps), (.long (pe.toInt64))])) _
  refine Goes.by (fun _ k => XS.i2l X9.here hx rfl (hb hby at_84) rfl k) ?_
  show Goes p.tables e below (T9.setTop (mkF m 85 #[.val (.int ps), .val (.int pe), .val (.int pd), .val (.int pr), .val (.int po), .val (.int pz), .val (.int x1), .val (.int x2), .val (.int v3), .val (.ref b6), .val (.ref b8), .val (.long x10), .second, .unset, .unset, .unset] [(.long (ps.toInt64)), (.long (pe.toInt64))])) _
  refine Goes.by (fun _ k => XS.lsub X9.here hx rfl (hb hby at_85) rfl k) ?_
  show Goes p.tables e below (T9.setTop (mkF m 86 #[.val (.int ps), .val (.int pe), .val (.int pd), .val (.int pr), .val (.int po), .val (.int pz), .val (.int x1), .val (.int x2), .val (.int v3), .val (.ref b6), .val (.ref b8), .val (.long x10), .second, .unset, .unset, .unset] [(.long ((pe.toInt64) - (ps.toInt64)))])) _
  obtain ⟨x11, hx11⟩ : ∃ z : Int64, z = ((pe.toInt64) - (ps.toInt64)) := ⟨_, rfl⟩
  refine Goes.by (fun _ k => XS.lstore X9.here hx rfl (hb hby at_86) rfl (l' := #[.val (.int ps), .val (.int pe), .val (.int pd), .val (.int pr), .val (.int po), .val (.int pz), .val (.int x1), .val (.int x2), .val (.int v3), .val (.ref b6), .val (.ref b8), .val (.long x10), .second, .val (.long x11), .second, .unset]) (by rw [hx11]; rfl) k) ?_
  show Goes p.tables e below (T9.setTop (mkF m 88 #[.val (.int ps), .val (.int pe), .val (.int pd), .val (.int pr), .val (.int po), .val (.int pz), .val (.int x1), .val (.int x2), .val (.int v3), .val (.ref b6), .val (.ref b8), .val (.long x10), .second, .val (.long x11), .second, .unset] [])) _
  refine Goes.by (fun _ k => XS.lload X9.here hx rfl (hb hby at_88) rfl k) ?_
  show Goes p.tables e below (T9.setTop (mkF m 90 #[.val (.int ps), .val (.int pe), .val (.int pd), .val (.int pr), .val (.int po), .val (.int pz), .val (.int x1), .val (.int x2), .val (.int v3), .val (.ref b6), .val (.ref b8), .val (.long x10), .second, .val (.long x11), .second, .unset] [(.long x10)])) _
  refine Goes.by (fun _ k => XS.lconst X9.here hx rfl (hb hby at_90) k) ?_
  show Goes p.tables e below (T9.setTop (mkF m 91 #[.val (.int ps), .val (.int pe), .val (.int pd), .val (.int pr), .val (.int po), .val (.int pz), .val (.int x1), .val (.int x2), .val (.int v3), .val (.ref b6), .val (.ref b8), .val (.long x10), .second, .val (.long x11), .second, .unset] [(.long (1 : Int64)), (.long x10)])) _
  refine Goes.by (fun _ k => XS.lcmp X9.here hx rfl (hb hby at_91) rfl k) ?_
  show Goes p.tables e below (T9.setTop (mkF m 92 #[.val (.int ps), .val (.int pe), .val (.int pd), .val (.int pr), .val (.int po), .val (.int pz), .val (.int x1), .val (.int x2), .val (.int v3), .val (.ref b6), .val (.ref b8), .val (.long x10), .second, .val (.long x11), .second, .unset] [(.int (lcmpW x10 (1 : Int64)))])) _
  obtain ⟨v12, hv12⟩ : ∃ z : Int32, z = (if x10 < (1 : Int64) then (0 : Int32) else (if x11 < x10 then (0 : Int32) else (1 : Int32))) := ⟨_, rfl⟩
  refine Goes.by (t' := T9.setTop (mkF m 108 #[.val (.int ps), .val (.int pe), .val (.int pd), .val (.int pr), .val (.int po), .val (.int pz), .val (.int x1), .val (.int x2), .val (.int v3), .val (.ref b6), .val (.ref b8), .val (.long x10), .second, .val (.long x11), .second, .unset] [(.int v12)])) (fun u k => ?_) ?_
  · show Steps p.tables e below (T9.setTop (mkF m 92 #[.val (.int ps), .val (.int pe), .val (.int pd), .val (.int pr), .val (.int po), .val (.int pz), .val (.int x1), .val (.int x2), .val (.int v3), .val (.ref b6), .val (.ref b8), .val (.long x10), .second, .val (.long x11), .second, .unset] [(.int (lcmpW x10 (1 : Int64)))])) _
    by_cases hc13 : x10 < (1 : Int64)
    · refine XS.ifYes X9.here hx rfl (pc0 := 92) (pc' := 107) rfl (hb hby at_92) rfl (jl_t hc13).1 (by decide) (by decide) ?_
      show Steps p.tables e below (T9.setTop (mkF m 107 #[.val (.int ps), .val (.int pe), .val (.int pd), .val (.int pr), .val (.int po), .val (.int pz), .val (.int x1), .val (.int x2), .val (.int v3), .val (.ref b6), .val (.ref b8), .val (.long x10), .second, .val (.long x11), .second, .unset] [])) _
      refine XS.iconst X9.here hx rfl (hb hby at_107) ?_
      show Steps p.tables e below (T9.setTop (mkF m 108 #[.val (.int ps), .val (.int pe), .val (.int pd), .val (.int pr), .val (.int po), .val (.int pz), .val (.int x1), .val (.int x2), .val (.int v3), .val (.ref b6), .val (.ref b8), .val (.long x10), .second, .val (.long x11), .second, .unset] [(.int (0 : Int32))])) _
      have qv12 : v12 = (0 : Int32) := by rw [hv12, if_pos hc13]
      subst qv12
      exact k
    · refine XS.ifNo X9.here hx rfl (hb hby at_92) rfl (jl_f hc13).1 ?_
      show Steps p.tables e below (T9.setTop (mkF m 95 #[.val (.int ps), .val (.int pe), .val (.int pd), .val (.int pr), .val (.int po), .val (.int pz), .val (.int x1), .val (.int x2), .val (.int v3), .val (.ref b6), .val (.ref b8), .val (.long x10), .second, .val (.long x11), .second, .unset] [])) _
      refine XS.lload X9.here hx rfl (hb hby at_95) rfl ?_
      show Steps p.tables e below (T9.setTop (mkF m 97 #[.val (.int ps), .val (.int pe), .val (.int pd), .val (.int pr), .val (.int po), .val (.int pz), .val (.int x1), .val (.int x2), .val (.int v3), .val (.ref b6), .val (.ref b8), .val (.long x10), .second, .val (.long x11), .second, .unset] [(.long x10)])) _
      refine XS.lload X9.here hx rfl (hb hby at_97) rfl ?_
      show Steps p.tables e below (T9.setTop (mkF m 99 #[.val (.int ps), .val (.int pe), .val (.int pd), .val (.int pr), .val (.int po), .val (.int pz), .val (.int x1), .val (.int x2), .val (.int v3), .val (.ref b6), .val (.ref b8), .val (.long x10), .second, .val (.long x11), .second, .unset] [(.long x11), (.long x10)])) _
      refine XS.lcmp X9.here hx rfl (hb hby at_99) rfl ?_
      show Steps p.tables e below (T9.setTop (mkF m 100 #[.val (.int ps), .val (.int pe), .val (.int pd), .val (.int pr), .val (.int po), .val (.int pz), .val (.int x1), .val (.int x2), .val (.int v3), .val (.ref b6), .val (.ref b8), .val (.long x10), .second, .val (.long x11), .second, .unset] [(.int (lcmpW x10 x11))])) _
      by_cases hc14 : x11 < x10
      · refine XS.ifYes X9.here hx rfl (pc0 := 100) (pc' := 107) rfl (hb hby at_100) rfl (jg_t hc14).1 (by decide) (by decide) ?_
        show Steps p.tables e below (T9.setTop (mkF m 107 #[.val (.int ps), .val (.int pe), .val (.int pd), .val (.int pr), .val (.int po), .val (.int pz), .val (.int x1), .val (.int x2), .val (.int v3), .val (.ref b6), .val (.ref b8), .val (.long x10), .second, .val (.long x11), .second, .unset] [])) _
        refine XS.iconst X9.here hx rfl (hb hby at_107) ?_
        show Steps p.tables e below (T9.setTop (mkF m 108 #[.val (.int ps), .val (.int pe), .val (.int pd), .val (.int pr), .val (.int po), .val (.int pz), .val (.int x1), .val (.int x2), .val (.int v3), .val (.ref b6), .val (.ref b8), .val (.long x10), .second, .val (.long x11), .second, .unset] [(.int (0 : Int32))])) _
        have qv12 : v12 = (0 : Int32) := by rw [hv12, if_neg hc13, if_pos hc14]
        subst qv12
        exact k
      · refine XS.ifNo X9.here hx rfl (hb hby at_100) rfl (jg_f hc14).1 ?_
        show Steps p.tables e below (T9.setTop (mkF m 103 #[.val (.int ps), .val (.int pe), .val (.int pd), .val (.int pr), .val (.int po), .val (.int pz), .val (.int x1), .val (.int x2), .val (.int v3), .val (.ref b6), .val (.ref b8), .val (.long x10), .second, .val (.long x11), .second, .unset] [])) _
        refine XS.iconst X9.here hx rfl (hb hby at_103) ?_
        show Steps p.tables e below (T9.setTop (mkF m 104 #[.val (.int ps), .val (.int pe), .val (.int pd), .val (.int pr), .val (.int po), .val (.int pz), .val (.int x1), .val (.int x2), .val (.int v3), .val (.ref b6), .val (.ref b8), .val (.long x10), .second, .val (.long x11), .second, .unset] [(.int (1 : Int32))])) _
        refine XS.goto X9.here hx rfl (pc0 := 104) (pc' := 108) rfl (hb hby at_104) (by decide) (by decide) ?_
        show Steps p.tables e below (T9.setTop (mkF m 108 #[.val (.int ps), .val (.int pe), .val (.int pd), .val (.int pr), .val (.int po), .val (.int pz), .val (.int x1), .val (.int x2), .val (.int v3), .val (.ref b6), .val (.ref b8), .val (.long x10), .second, .val (.long x11), .second, .unset] [(.int (1 : Int32))])) _
        have qv12 : v12 = (1 : Int32) := by rw [hv12, if_neg hc13, if_neg hc14]
        subst qv12
        exact k
  show Goes p.tables e below (T9.setTop (mkF m 108 #[.val (.int ps), .val (.int pe), .val (.int pd), .val (.int pr), .val (.int po), .val (.int pz), .val (.int x1), .val (.int x2), .val (.int v3), .val (.ref b6), .val (.ref b8), .val (.long x10), .second, .val (.long x11), .second, .unset] [(.int v12)])) _
  refine Goes.by (fun _ k => XS.istore X9.here hx rfl (hb hby at_108) rfl (l' := #[.val (.int ps), .val (.int pe), .val (.int pd), .val (.int pr), .val (.int po), .val (.int pz), .val (.int x1), .val (.int x2), .val (.int v3), .val (.ref b6), .val (.ref b8), .val (.long x10), .second, .val (.long x11), .second, .val (.int v12)]) rfl k) ?_
  show Goes p.tables e below (T9.setTop (mkF m 110 #[.val (.int ps), .val (.int pe), .val (.int pd), .val (.int pr), .val (.int po), .val (.int pz), .val (.int x1), .val (.int x2), .val (.int v3), .val (.ref b6), .val (.ref b8), .val (.long x10), .second, .val (.long x11), .second, .val (.int v12)] [])) _
  refine Goes.by (fun _ k => XS.aload X9.here hx rfl (hb hby at_110) rfl rfl k) ?_
  show Goes p.tables e below (T9.setTop (mkF m 112 #[.val (.int ps), .val (.int pe), .val (.int pd), .val (.int pr), .val (.int po), .val (.int pz), .val (.int x1), .val (.int x2), .val (.int v3), .val (.ref b6), .val (.ref b8), .val (.long x10), .second, .val (.long x11), .second, .val (.int v12)] [(.ref b6)])) _
  refine Goes.by (fun _ k => XS.aload X9.here hx rfl (hb hby at_112) rfl rfl k) ?_
  show Goes p.tables e below (T9.setTop (mkF m 114 #[.val (.int ps), .val (.int pe), .val (.int pd), .val (.int pr), .val (.int po), .val (.int pz), .val (.int x1), .val (.int x2), .val (.int v3), .val (.ref b6), .val (.ref b8), .val (.long x10), .second, .val (.long x11), .second, .val (.int v12)] [(.ref b8), (.ref b6)])) _
  obtain ⟨cq15, kq15, q15a, q15b, q15c⟩ := isOf hZ rfl E_b6
  obtain ⟨_, _, ⟨T15, L15, k15, n15⟩, -, X15, ⟨Lc15, hQ15, l15, y15, z15⟩, st15⟩ := X9.virtualBack hx (y := (⟨"com/example/treewrite/treewrite/document/Identifier", "isAncestorOf", "(Lcom/example/treewrite/treewrite/document/Identifier;)Z"⟩ : MethodName)) (z := (⟨"com/example/treewrite/treewrite/document/Identifier", "isAncestorOf", "(Lcom/example/treewrite/treewrite/document/Identifier;)Z"⟩ : MethodName)) hown (mvT hZ (hw _ (List.mem_of_getElem? (i := 20) rfl))) (mvT hZ (hw _ (List.mem_of_getElem? (i := 21) rfl))) (notFace_of_selects (args := #[]) (mvT hZ (hw _ (List.mem_of_getElem? (i := 23) rfl)))) (mvT hZ (hw _ (List.mem_of_getElem? (i := 23) rfl))) (mvT hZ (hw _ (List.mem_of_getElem? (i := 22) rfl))) (by decide) (backOf (W := 0) (rm4 l Z a0 hw [] b6 b8 ps pe v3 T9.heap n0 Zs9 F_b6_start F_b6_end F_b8_start) hZ (hw _ (List.mem_of_getElem? (i := 24) rfl)) (hw _ (List.mem_of_getElem? (i := 2) rfl)) (by decide) (by decide)) q15a q15c (g := (mkF m 114 #[.val (.int ps), .val (.int pe), .val (.int pd), .val (.int pr), .val (.int po), .val (.int pz), .val (.int x1), .val (.int x2), .val (.int v3), .val (.ref b6), .val (.ref b8), .val (.long x10), .second, .val (.long x11), .second, .val (.int v12)] [(.ref b8), (.ref b6)])) rfl (by rw [hml]; rfl) (Steps.refl _) (argsL := [(.ref b8)]) (rest := []) (lenOf pd_2 rfl) rfl (by show 2 * 0 + _ ≤ _; exact Nat.le_of_eq rfl) (hb hby at_114) (fun _ _ => ⟨rfl, rfl, (by decide : 2 + 0 ≤ _), (by decide : 6 + 0 ≤ _)⟩)
  dsimp only [Pt.U, Pt.locs, Pt.cells, Pt.slots] at X15 l15 y15 z15 st15 hQ15
  subst l15 y15 z15
  obtain ⟨rfl, N15q, e15⟩ := hQ15
  have N15 := Fr.app N9 N15q
  refine Goes.via st15 ?_
  show Goes p.tables e below (T15.setTop (mkF m 117 #[.val (.int ps), .val (.int pe), .val (.int pd), .val (.int pr), .val (.int po), .val (.int pz), .val (.int x1), .val (.int x2), .val (.int v3), .val (.ref b6), .val (.ref b8), .val (.long x10), .second, .val (.long x11), .second, .val (.int v12)] [(.int (fn4 ps pe v3))])) _
  refine Goes.by (fun _ k => XS.iload X15.here hx rfl (hb hby at_117) rfl k) ?_
  show Goes p.tables e below (T15.setTop (mkF m 119 #[.val (.int ps), .val (.int pe), .val (.int pd), .val (.int pr), .val (.int po), .val (.int pz), .val (.int x1), .val (.int x2), .val (.int v3), .val (.ref b6), .val (.ref b8), .val (.long x10), .second, .val (.long x11), .second, .val (.int v12)] [(.int v12), (.int (fn4 ps pe v3))])) _
  by_cases hc16 : (fn4 ps pe v3) = v12
  · refine Goes.by (fun _ k => XS.icmpNo X15.here hx rfl (hb hby at_119) rfl (teq hc16).2 k) ?_
    show Goes p.tables e below (T15.setTop (mkF m 122 #[.val (.int ps), .val (.int pe), .val (.int pd), .val (.int pr), .val (.int po), .val (.int pz), .val (.int x1), .val (.int x2), .val (.int v3), .val (.ref b6), .val (.ref b8), .val (.long x10), .second, .val (.long x11), .second, .val (.int v12)] [])) _
    refine Goes.by (fun _ k => XS.iconst X15.here hx rfl (hb hby at_122) k) ?_
    show Goes p.tables e below (T15.setTop (mkF m 123 #[.val (.int ps), .val (.int pe), .val (.int pd), .val (.int pr), .val (.int po), .val (.int pz), .val (.int x1), .val (.int x2), .val (.int v3), .val (.ref b6), .val (.ref b8), .val (.long x10), .second, .val (.long x11), .second, .val (.int v12)] [(.int (1 : Int32))])) _
    refine Goes.by (fun _ k => XS.goto X15.here hx rfl (pc0 := 123) (pc' := 127) rfl (hb hby at_123) (by decide) (by decide) k) ?_
    show Goes p.tables e below (T15.setTop (mkF m 127 #[.val (.int ps), .val (.int pe), .val (.int pd), .val (.int pr), .val (.int po), .val (.int pz), .val (.int x1), .val (.int x2), .val (.int v3), .val (.ref b6), .val (.ref b8), .val (.long x10), .second, .val (.long x11), .second, .val (.int v12)] [(.int (1 : Int32))])) _
    obtain ⟨fs, hr, hrun, hended, hW, hsame⟩ := X15.leave (v := some (.int (1 : Int32))) (fun h => by rw [Bd.returns] at h; cases h)
    refine ⟨_, _, retN X15 hx (t := .boolean) Bd.returns (by simp) (hb hby at_127) hr, hrun, hended, _, _, rfl, ?_, ⟨_, rfl⟩, hW, hsame.mono (by decide) (by decide)⟩
    show Q0 Z ps pe pd pr po pz h0 n0 _ T15.heap _
    rw [e15]
    exact ⟨rfl, N15⟩
  · refine Goes.by (fun _ k => XS.icmpYes X15.here hx rfl (pc0 := 119) (pc' := 126) rfl (hb hby at_119) rfl (feq hc16).2 (by decide) (by decide) k) ?_
    show Goes p.tables e below (T15.setTop (mkF m 126 #[.val (.int ps), .val (.int pe), .val (.int pd), .val (.int pr), .val (.int po), .val (.int pz), .val (.int x1), .val (.int x2), .val (.int v3), .val (.ref b6), .val (.ref b8), .val (.long x10), .second, .val (.long x11), .second, .val (.int v12)] [])) _
    refine Goes.by (fun _ k => XS.iconst X15.here hx rfl (hb hby at_126) k) ?_
    show Goes p.tables e below (T15.setTop (mkF m 127 #[.val (.int ps), .val (.int pe), .val (.int pd), .val (.int pr), .val (.int po), .val (.int pz), .val (.int x1), .val (.int x2), .val (.int v3), .val (.ref b6), .val (.ref b8), .val (.long x10), .second, .val (.long x11), .second, .val (.int v12)] [(.int (0 : Int32))])) _
    exfalso
    exact hc16 ((own_anc ps pe v3 x10 x11 hx10 hx11).trans hv12.symm)
set_option maxRecDepth 65536 in
set_option maxHeartbeats 40000000 in
theorem comes_1 {Post : Tables → Env → Array Value → State → Outcome → State → Prop} (hpost : ∀ tb e args s v u, (limb_1_1.after args s (.returned v) u = true ∧ limb_1_2.after args s (.returned v) u = true ∧ True) → FrameEnd s (.returned v) u (Jvm.fieldLocs frame_1_writes args s ++ Jvm.arrayLocs frame_1_arrays args s ++ Jvm.staticLocs frame_1_statics s) 16 128 → Post tb e args s (.returned v) u) :
    ArmFor flags0 classFile x code maxLocals ret World_1 tables_1 room_1 Calls_1 rest_1 Pre_1 Post := by
  intro l hfl _ _ p e ha hc hk s m args below hf hA hF happ hP
  obtain ⟨hcalls, hrest, hpre⟩ := hP
  obtain ⟨-, -, -, hnamed, -, -, -, hat⟩ := (Spec.applies_iff hf).mp happ
  obtain ⟨hg, hn⟩ := and_e (Cond.before_iff.mp (show (Jvm.Cond.and given_1 narrow_1).before args s = true from hpre))
  obtain ⟨g1, g2⟩ := and_e hg
  obtain ⟨g3, g4⟩ := and_e g2
  obtain ⟨g5, g6⟩ := and_e g4
  obtain ⟨g7, g8⟩ := and_e g6
  obtain ⟨g9, g10⟩ := and_e g8
  obtain ⟨g11, g12⟩ := and_e g10
  obtain ⟨w0, w1, w2, w3, w4, w5, rfl⟩ : ∃ w0 w1 w2 w3 w4 w5 : Value, args = #[w0, w1, w2, w3, w4, w5] := by
    have hs : args.size = 6 := by simpa [Cond.value, given_1] using g1
    obtain ⟨L⟩ := args
    match L, hs with
    | [w0, w1, w2, w3, w4, w5], _ => exact ⟨w0, w1, w2, w3, w4, w5, rfl⟩
  have hw := fun d (hd : d ∈ tables_1) => atoms_spec (ws := Jvm.Cond.code x code maxLocals ret :: tables_1) hat d (List.mem_cons_of_mem _ hd)
  have hfit : Fit s := fun {y c} hc i hi => by
    obtain ⟨ha, rfl⟩ := Array.getElem?_eq_some_iff.mp hc
    have q := List.all_eq_true.mp ((Array.all_eq_true_iff_forall_mem.mp hF) _ (Array.getElem_mem ha)) i (List.mem_range.mpr hi)
    simpa [Array.getElem?_eq_getElem hi] using q
  obtain ⟨i0, ei0⟩ := is_v g3
  obtain rfl : w0 = (.int i0) := Option.some.inj ei0
  obtain ⟨i1, ei1⟩ := is_v g5
  obtain rfl : w1 = (.int i1) := Option.some.inj ei1
  obtain ⟨i2, ei2⟩ := is_v g7
  obtain rfl : w2 = (.int i2) := Option.some.inj ei2
  obtain ⟨i3, ei3⟩ := is_v g9
  obtain rfl : w3 = (.int i3) := Option.some.inj ei3
  obtain ⟨i4, ei4⟩ := is_v g11
  obtain rfl : w4 = (.int i4) := Option.some.inj ei4
  obtain ⟨i5, ei5⟩ := is_v g12
  obtain rfl : w5 = (.int i5) := Option.some.inj ei5
  obtain ⟨n, o, h1, h2, h3, _, L, rfl, ⟨hv0, N⟩, hq⟩ := rm0 l s _ hw tables_1 i0 i1 i2 i3 i4 i5 s.heap s.heap.size (Nat.le_refl _) p e ha hc hk s m _ below hf ((Spec.applies_iff_loose hf).mp happ).1 ⟨rfl, State.Warmed39.refl s, rfl⟩ trivial
  subst hv0
  refine ⟨n, _, h1, h2, h3, hpost _ _ _ _ _ _ ⟨Cond.after_iff.mpr rfl, Cond.after_iff.mpr (eq_i res_at (Term.int_eval (1)) rfl), trivial⟩ ⟨hq.1, hq.2.1, (hq.2.2.sift fun y hy => Or.inr (N y hy)).mono (by decide) (by decide)⟩⟩
theorem main_1_1 : Claimed_1_1 := comes_1 fun _ _ _ _ _ _ h hF => ⟨h.1, hF⟩
theorem main_1_2 : Claimed_1_2 := comes_1 fun _ _ _ _ _ _ h hF => ⟨h.2.1, hF⟩
end Jvm.Pilot.@@N@@
namespace Jvm.Pilot.@@N@@
open Jvm Jvm.ClassFile Sem Op Lib Jvm.Free Jvm.Stand Jvm.Pilot.@@N@@.Jvm.D
/-! MADE BY PROGRAM (witnessworld.py) out of the Statement's table words and the real class files: 10 classes; the members and pool entries that the words name. The judged class is class 1, her method 1. -/
namespace start1
open Jvm.ClassFile
def u (s : String) : CpInfo := .utf8 (stringToUtf16 s)
/-- a pool by its gaps: so many unusable entries, then the entry; so many at the end -/
def gap : Nat → List CpInfo → List CpInfo
  | 0, r => r
  | n + 1, r => .unusable :: gap n r
def poolList (es : List (Nat × CpInfo)) (last : Nat) : List CpInfo := es.foldr (fun e r => gap e.1 (e.2 :: r)) (gap last [])
def pool (es : List (Nat × CpInfo)) (last : Nat) : Array CpInfo := ⟨poolList es last⟩
def fileOf (pool : Array CpInfo) (this : Nat) (attrs : Array Attribute := #[]) (ms : Array MethodInfo := #[]) (fl : Nat := 33) (sup : Nat := 0) (ifs : Array Nat := #[]) (fds : Array FieldInfo := #[]) : ClassFile where
  minorVersion := 0
  majorVersion := 65
  constantPool := pool
  accessFlags := fl
  thisClass := this
  superClass := sup
  interfaces := ifs
  fields := fds
  methods := ms
  attributes := attrs
def plain (name : String) (sup : Option ClassId) : Class where
  name := name
  kind := .ordinary
  loader := none
  accessFlags := 33
  super := sup
  interfaces := #[]
  cf := none
  fields := #[]
  methods := #[]
  instanceTypes := #[]
  staticTypes := #[]
  resolved := #[]
  callSites := []
  init := .initialized
  statics := none
  mirror := none

def pool0 : Array CpInfo := pool [(5, u "<init>"), (0, u "()V"), (1, .class_ 10), (1, u "java/lang/Object")] 113

def k0c0 : Code := { maxStack := 0, maxLocals := 1, code := object_method_1_code, exceptionTable := #[], attributes := #[] }
def k0m0 : Method := { name := "<init>", desc := "()V", sig := { parameters := [], returnType := none }, accessFlags := 1, code := some k0c0 }
/-- java/lang/Object -/
def k0 : Class := { plain "java/lang/Object" none with
  accessFlags := 33
  interfaces := #[]
  cf := some (fileOf pool0 8 #[] #[{ accessFlags := 1, nameIndex := 5, descriptorIndex := 6, attributes := #[] }] 33 0 #[] #[])
  fields := #[]
  methods := #[k0m0]
  instanceTypes := #[]
  staticTypes := #[]
  resolved := Array.replicate 124 none
  statics := none }

def pool1 : Array CpInfo := pool [(2, .class_ 4), (1, u "java/lang/Object"), (0, u "<init>"), (0, u "()V"), (0, .class_ 8), (0, u "com/example/treewrite/treewrite/document/Identifier"), (0, .methodref 7 10), (0, .nameAndType 5 11), (0, u "(III)V"), (0, .methodref 7 13), (0, .nameAndType 14 15), (0, u "isAncestorOf"), (0, u "(Lcom/example/treewrite/treewrite/document/Identifier;)Z"), (0, .class_ 17), (0, u "com/example/treewrite/treewrite/document/IdentifierIsAncestorOfPinLaw"), (2, u "law"), (0, u "(IIIIII)Z")] 3

def k1m0 : Method := { name := "<init>", desc := "()V", sig := { parameters := [], returnType := none }, accessFlags := 1, code := none }
def k1c1 : Code := { maxStack := 6, maxLocals := 16, code := code, exceptionTable := #[], attributes := #[] }
def k1m1 : Method := { name := "law", desc := "(IIIIII)Z", sig := { parameters := [.int, .int, .int, .int, .int, .int], returnType := some .boolean }, accessFlags := 9, code := some k1c1 }
/-- com/example/treewrite/treewrite/document/IdentifierIsAncestorOfPinLaw -/
def k1 : Class := { plain "com/example/treewrite/treewrite/document/IdentifierIsAncestorOfPinLaw" (some 0) with
  accessFlags := 49
  interfaces := #[]
  cf := some (fileOf pool1 16 #[] #[{ accessFlags := 1, nameIndex := 5, descriptorIndex := 6, attributes := #[] }, { accessFlags := 9, nameIndex := 20, descriptorIndex := 21, attributes := #[] }] 49 2 #[] #[])
  fields := #[]
  methods := #[k1m0, k1m1]
  instanceTypes := #[]
  staticTypes := #[]
  resolved := Array.replicate 25 none
  statics := none }

def pool2 : Array CpInfo := pool [(1, .methodref 2 3), (0, .class_ 4), (0, .nameAndType 5 6), (0, u "java/lang/Object"), (0, u "<init>"), (0, u "()V"), (0, .class_ 8), (0, u "java/lang/Record")] 13

def k2c0 : Code := { maxStack := 1, maxLocals := 1, code := jdk_30_method_1_code, exceptionTable := #[], attributes := #[] }
def k2m0 : Method := { name := "<init>", desc := "()V", sig := { parameters := [], returnType := none }, accessFlags := 4, code := some k2c0 }
/-- java/lang/Record -/
def k2 : Class := { plain "java/lang/Record" (some 0) with
  accessFlags := 1057
  interfaces := #[]
  cf := some (fileOf pool2 7 #[] #[{ accessFlags := 4, nameIndex := 5, descriptorIndex := 6, attributes := #[] }] 1057 2 #[] #[])
  fields := #[]
  methods := #[k2m0]
  instanceTypes := #[]
  staticTypes := #[]
  resolved := Array.replicate 22 none
  statics := none }

def pool3 : Array CpInfo := pool [(1, .methodref 2 3), (0, .class_ 4), (0, .nameAndType 5 6), (0, u "java/lang/Record"), (0, u "<init>"), (0, u "()V"), (0, .fieldref 8 9), (0, .class_ 10), (0, .nameAndType 11 12), (0, u "com/example/treewrite/treewrite/document/Identifier"), (0, u "start"), (0, u "I"), (0, .fieldref 8 14), (0, .nameAndType 15 12), (0, u "end"), (0, .fieldref 8 17), (0, .nameAndType 18 12), (0, u "depth"), (24, u "(III)V"), (2, u "isAncestorOf"), (0, u "(Lcom/example/treewrite/treewrite/document/Identifier;)Z")] 46

def k3c0 : Code := { maxStack := 2, maxLocals := 4, code := prog_21_method_1_code, exceptionTable := #[], attributes := #[] }
def k3m0 : Method := { name := "<init>", desc := "(III)V", sig := { parameters := [.int, .int, .int], returnType := none }, accessFlags := 1, code := some k3c0 }
def k3c1 : Code := { maxStack := 2, maxLocals := 2, code := prog_21_method_4_code, exceptionTable := #[], attributes := #[] }
def k3m1 : Method := { name := "isAncestorOf", desc := "(Lcom/example/treewrite/treewrite/document/Identifier;)Z", sig := { parameters := [(.object "com/example/treewrite/treewrite/document/Identifier")], returnType := some .boolean }, accessFlags := 1, code := some k3c1 }
/-- com/example/treewrite/treewrite/document/Identifier -/
def k3 : Class := { plain "com/example/treewrite/treewrite/document/Identifier" (some 2) with
  accessFlags := 49
  interfaces := #[]
  cf := some (fileOf pool3 8 #[] #[{ accessFlags := 1, nameIndex := 5, descriptorIndex := 43, attributes := #[] }, { accessFlags := 1, nameIndex := 46, descriptorIndex := 47, attributes := #[] }] 49 2 #[] #[{ accessFlags := 18, nameIndex := 11, descriptorIndex := 12, attributes := #[] }, { accessFlags := 18, nameIndex := 15, descriptorIndex := 12, attributes := #[] }, { accessFlags := 18, nameIndex := 18, descriptorIndex := 12, attributes := #[] }])
  fields := #[{ name := "start", type := .int, accessFlags := 18, slot := 0, constantValue := 0 }, { name := "end", type := .int, accessFlags := 18, slot := 1, constantValue := 0 }, { name := "depth", type := .int, accessFlags := 18, slot := 2, constantValue := 0 }]
  methods := #[k3m0, k3m1]
  instanceTypes := #[.int, .int, .int]
  staticTypes := #[]
  resolved := Array.replicate 94 none
  statics := none }

def pool4 : Array CpInfo := pool [(1, u "java/lang/Cloneable"), (0, .class_ 1), (0, u "java/lang/Object"), (0, .class_ 3)] 3

/-- java/lang/Cloneable -/
def k4 : Class := { plain "java/lang/Cloneable" (some 0) with
  accessFlags := 1537
  interfaces := #[]
  cf := some (fileOf pool4 2 #[] #[] 1537 4 #[] #[])
  fields := #[]
  methods := #[]
  instanceTypes := #[]
  staticTypes := #[]
  resolved := Array.replicate 8 none
  statics := none }

def pool5 : Array CpInfo := pool [(1, u "java/io/Serializable"), (0, .class_ 1), (0, u "java/lang/Object"), (0, .class_ 3)] 3

/-- java/io/Serializable -/
def k5 : Class := { plain "java/io/Serializable" (some 0) with
  accessFlags := 1537
  interfaces := #[]
  cf := some (fileOf pool5 2 #[] #[] 1537 4 #[] #[])
  fields := #[]
  methods := #[]
  instanceTypes := #[]
  staticTypes := #[]
  resolved := Array.replicate 8 none
  statics := none }

/-- the primitive byte -/
def k6 : Class := { plain "byte" none with kind := .primitive 'B', accessFlags := 0x411 }
/-- [B -/
def k7 : Class := { plain "[B" (some 0) with kind := .array 6 .byte, interfaces := #[4, 5], accessFlags := 1041 }

/-- the primitive int -/
def k8 : Class := { plain "int" none with kind := .primitive 'I', accessFlags := 0x411 }
/-- [I -/
def k9 : Class := { plain "[I" (some 0) with kind := .array 8 .int, interfaces := #[4, 5], accessFlags := 1041 }

def heap : Heap := #[]
def classes : Array Class := #[k0, k1, k2, k3, k4, k5, k6, k7, k8, k9]
def interned : List (Array UInt16 × Addr) := []
def slotsUsed : Nat := 0
def theMethod : MethodId := ⟨1, 1⟩
def args0 : Array Value := #[.int 5, .int 5, .int 5, .int 5, .int 5, .int 5]
def aboutOver (below : List Frame) : State where
  vm := { classes := classes, interned := interned.toArray }
  heap := heap
  slotsUsed := slotsUsed
  threads := #[{ frames := .invoking theMethod args0 :: below }]
def below0 : List Frame := [.native { method := ⟨0, 0⟩, args := #[] }]
def about1 : State := aboutOver below0
def p0 : Program := .bare "" "" ""
def e0 : Env := launch0.env 0 0 0
theorem w_frames : about1.frames = Frame.invoking theMethod args0 :: below0 := rfl
set_option maxRecDepth 65536 in
theorem w_args : argsFit about1.vm theMethod args0 = true := by decide +kernel
set_option maxRecDepth 65536 in
theorem w_heap : heapFits about1 = true := by decide +kernel
set_option maxRecDepth 65536 in
theorem w_runnable : about1.curStatus? = some .runnable := by decide +kernel
set_option maxRecDepth 65536 in
theorem w_alone : about1.alone = true := by decide +kernel
set_option maxRecDepth 65536 in
theorem w_named : about1.methodNamed? x = some theMethod := by decide +kernel
set_option maxRecDepth 65536 in
theorem w_hears : about1.hears theMethod below0 = true := by decide +kernel
set_option maxRecDepth 65536 in
theorem w_ripe : about1.ripe theMethod args0 below0 = true := by decide +kernel
theorem w_running : about1.status = .running := rfl
set_option maxRecDepth 65536 in
theorem w_room : about1.hasRoom e0.platform room_1 = true :=
  launch0.hasRoom_least _ room_1 (by decide +kernel) (by decide +kernel) (by decide +kernel) (by decide +kernel) (by decide +kernel) (by decide +kernel)
theorem allAtoms_all (ts : List Jvm.Cond) (a : Array Jvm.Value) (st : Jvm.State) : (allAtoms ts).before a st = ts.all (fun c => c.before a st) := by
  induction ts with
  | nil => rfl
  | cons c t ih =>
    show (Jvm.Cond.and c (allAtoms t)).before a st = _
    rw [Jvm.Cond.before_and, ih, List.all_cons]
def words1 : List Jvm.Cond := Jvm.Cond.code x code maxLocals ret :: tables_1
/-- a 'code' word, met by the world's own term for the bytes: nothing is compared byte by byte -/
theorem code_word {y : MethodName} {bytes : ByteArray} {mx : Nat} {rt : Option FieldType} {a : Array Value} {s : State} {m : MethodId} {meth : Method} {c : Code} (h1 : s.methodNamed? y = some m) (h2 : s.vm.method? m = some meth) (h3 : meth.code = some c) (h4 : c.code = bytes)
    (h5 : (c.maxLocals == mx && c.exceptionTable.isEmpty && decide (c.maxStack ≤ mostOperands) && decide (meth.sig.returnType = rt) && !meth.locks && decide (parseMethodDescriptor y.desc = some meth.sig)) = true) : (Jvm.Cond.code y bytes mx rt).before a s = true := by
  simp only [Bool.and_eq_true, beq_iff_eq, Bool.not_eq_true', decide_eq_true_eq] at h5
  obtain ⟨⟨⟨⟨⟨g1, g2⟩, g3⟩, g4⟩, g5⟩, g6⟩ := h5
  simp [Cond.before, Cond.holds, Cond.value, h1, h2, h3, h4, g1, g2, g3, g4, g5, g6]
def isCode : Jvm.Cond → Bool
  | .code _ _ _ _ => true
  | _ => false
theorem all_split {L : List Jvm.Cond} {P : Jvm.Cond → Bool} (h1 : L.all (fun c => isCode c || P c) = true) (h2 : ∀ c ∈ L.filter isCode, P c = true) : L.all P = true := by
  refine List.all_eq_true.mpr fun c hc => ?_
  have h := List.all_eq_true.mp h1 c hc
  rcases Bool.eq_false_or_eq_true (isCode c) with hi | hi
  · exact h2 c (List.mem_filter.mpr ⟨hc, hi⟩)
  · simpa [hi] using h
set_option maxRecDepth 65536 in
theorem w_c0 : (Jvm.Cond.code x code maxLocals ret).before args0 about1 = true := code_word (m := ⟨1, 1⟩) (meth := k1m1) (c := k1c1) (by decide +kernel) rfl rfl rfl (by decide +kernel)
set_option maxRecDepth 65536 in
theorem w_c1 : (Jvm.Cond.code ({ cls := "com/example/treewrite/treewrite/document/Identifier", name := "<init>", desc := "(III)V" } : Jvm.MethodName) prog_21_method_1_code (4 : Nat) (Option.none : Option Jvm.ClassFile.FieldType)).before args0 about1 = true := code_word (m := ⟨3, 0⟩) (meth := k3m0) (c := k3c0) (by decide +kernel) rfl rfl rfl (by decide +kernel)
set_option maxRecDepth 65536 in
theorem w_c2 : (Jvm.Cond.code ({ cls := "java/lang/Record", name := "<init>", desc := "()V" } : Jvm.MethodName) jdk_30_method_1_code (1 : Nat) (Option.none : Option Jvm.ClassFile.FieldType)).before args0 about1 = true := code_word (m := ⟨2, 0⟩) (meth := k2m0) (c := k2c0) (by decide +kernel) rfl rfl rfl (by decide +kernel)
set_option maxRecDepth 65536 in
theorem w_c3 : (Jvm.Cond.code ({ cls := "java/lang/Object", name := "<init>", desc := "()V" } : Jvm.MethodName) object_method_1_code (1 : Nat) (Option.none : Option Jvm.ClassFile.FieldType)).before args0 about1 = true := code_word (m := ⟨0, 0⟩) (meth := k0m0) (c := k0c0) (by decide +kernel) rfl rfl rfl (by decide +kernel)
set_option maxRecDepth 65536 in
theorem w_c4 : (Jvm.Cond.code ({ cls := "com/example/treewrite/treewrite/document/Identifier", name := "isAncestorOf", desc := "(Lcom/example/treewrite/treewrite/document/Identifier;)Z" } : Jvm.MethodName) prog_21_method_4_code (2 : Nat) (Option.some Jvm.ClassFile.FieldType.boolean)).before args0 about1 = true := code_word (m := ⟨3, 1⟩) (meth := k3m1) (c := k3c1) (by decide +kernel) rfl rfl rfl (by decide +kernel)
def codes1 : List Jvm.Cond := [Jvm.Cond.code x code maxLocals ret, Jvm.Cond.code ({ cls := "com/example/treewrite/treewrite/document/Identifier", name := "<init>", desc := "(III)V" } : Jvm.MethodName) prog_21_method_1_code (4 : Nat) (Option.none : Option Jvm.ClassFile.FieldType), Jvm.Cond.code ({ cls := "java/lang/Record", name := "<init>", desc := "()V" } : Jvm.MethodName) jdk_30_method_1_code (1 : Nat) (Option.none : Option Jvm.ClassFile.FieldType), Jvm.Cond.code ({ cls := "java/lang/Object", name := "<init>", desc := "()V" } : Jvm.MethodName) object_method_1_code (1 : Nat) (Option.none : Option Jvm.ClassFile.FieldType), Jvm.Cond.code ({ cls := "com/example/treewrite/treewrite/document/Identifier", name := "isAncestorOf", desc := "(Lcom/example/treewrite/treewrite/document/Identifier;)Z" } : Jvm.MethodName) prog_21_method_4_code (2 : Nat) (Option.some Jvm.ClassFile.FieldType.boolean)]
set_option maxRecDepth 65536 in
theorem codes_eq : words1.filter isCode = codes1 := rfl
theorem w_codes : ∀ c ∈ words1.filter isCode, c.before args0 about1 = true := by
  rw [codes_eq]
  intro c hc
  simp only [codes1, List.mem_cons, List.not_mem_nil, or_false] at hc
  rcases hc with rfl | rfl | rfl | rfl | rfl
  · exact w_c0
  · exact w_c1
  · exact w_c2
  · exact w_c3
  · exact w_c4
set_option maxRecDepth 65536 in
theorem w_t1 : (words1.take 24).all (fun c => isCode c || c.before args0 about1) = true := by decide +kernel
set_option maxRecDepth 65536 in
theorem w_t2 : (words1.drop 24).all (fun c => isCode c || c.before args0 about1) = true := by decide +kernel
theorem w_tables : (allAtoms (Jvm.Cond.code x code maxLocals ret :: tables_1)).before args0 about1 = true := by
  rw [allAtoms_all]
  show words1.all (fun c => c.before args0 about1) = true
  refine all_split ?_ w_codes
  rw [← List.take_append_drop 24 words1, List.all_append, w_t1, w_t2]
  rfl
set_option maxRecDepth 65536 in
theorem w_case : (Jvm.Cond.and given_1 narrow_1).before args0 about1 = true := by decide +kernel
theorem w_applies : (headSpec (Jvm.Cond.code x code maxLocals ret :: tables_1) room_1).applies x e0.platform about1 = true :=
  (Spec.applies_iff w_frames).mpr ⟨w_running, w_runnable, w_alone, w_named, w_hears, w_ripe, w_room, w_tables⟩
theorem atStart : AtStart classFile x code maxLocals ret World_1 tables_1 room_1 Calls_1 rest_1 Pre_1 launch0 p0 e0 about1 theMethod args0 below0 :=
  ⟨lists_1, trivial, launch0.admits_env _ _ _, launch0.least_env, fairChoices_fair.cas, fairChoices_fair.clock, w_frames, w_args, w_heap, w_applies, trivial, trivial, w_case⟩
end start1
theorem witness_1 : WitnessClaimed_1 := ⟨start1.p0, start1.e0, start1.about1, start1.theMethod, start1.args0, start1.below0, start1.atStart⟩
end Jvm.Pilot.@@N@@

import JvmDerived
import JvmDerived.Pilot.@@N@@Statement
import JvmDerived.Pilot.@@N@@Code
set_option linter.unusedVariables false
set_option linter.unusedSimpArgs false
namespace Jvm.Pilot.@@N@@.OwnKit
open Jvm Sem ClassFile Op Lib Jvm.Stand Jvm.Free Jvm.LawKit Jvm.RoadKit
section New
variable {p : Program} {l : Launch} {e : Env} {R : Room} {s : State} {m : MethodId} {args : Array Value} {below : List Frame} {meth : Method} {c : Code} {T : State} {locs : List Loc} {cells slots : Nat}
theorem retI (X : Stand p l e R s m args below meth c T locs cells slots) (hx : p.tables.exec = Jvm.exec) {pc : Nat} {Ls : Array Slot} {z : Int32} {rest : List Value} (hret : meth.sig.returnType = some .int) (hd : decode c.code pc = .ok (.ireturn, 1)) {fs : List Frame}
    (hl : ∀ (f : JFrame) (acts : List Action), f.method = m → f.locked = none → f.entered = [] → (doReturn e (T.setTop f) acts (some (.int z))).1 = T.setFrames fs) : Steps p.tables e below (T.setTop (mkF m pc Ls (.int z :: rest))) (T.setFrames fs) :=
  retOut X hx hret rfl (Or.inl ⟨rfl, Or.inl rfl, _, rfl⟩) hd hl
theorem lremM {g : JFrame} {target : State} (X : Stand p l e R s m args below meth c T locs cells slots) (hx : p.tables.exec = Jvm.exec) (hg : g.method = m) {x y : Int64} {rest : List Value} (hd : decode c.code g.pc = .ok (.lrem, 1)) (hs : g.stack = .long y :: .long x :: rest) (hy : y ≠ 0)
    (hr : Steps p.tables e below (T.setTop { g with pc := g.pc + 1, stack := .long (x % y) :: rest }) target) : Steps p.tables e below (T.setTop g) target := by
  have q : x - x / y * y = x % y := by
    have g1 := rng64 (x % y)
    have g2 : (x % y).toInt = x.toInt.tmod y.toInt := Int64.toInt_mod x y
    have g3 := Int.tmod_def x.toInt y.toInt
    have g4 : (x / y).toInt = (x.toInt.tdiv y.toInt).bmod (2 ^ 64) := Int64.toInt_div x y
    apply Int64.toInt_inj.mp
    rw [Int64.toInt_sub, Int64.toInt_mul, g4, Int.bmod_mul_bmod, Int.sub_bmod_bmod, Int.mul_comm (x.toInt.tdiv y.toInt), ← g3, ← g2]
    exact Int.bmod_eq_of_le_mul_two (by omega) (by omega)
  exact XS.lrem X.here hx hg hd hs hy (by rw [q]; exact hr)
end New
/-- from here the run ends, and as G says -/
def Goes (tb : Tables) (e : Env) (below : List Frame) (t : State) (G : State → Outcome → Prop) : Prop := ∃ s₂ o, Steps tb e below t s₂ ∧ s₂.status = .running ∧ Ended s₂ below o ∧ G s₂ o
variable {tb : Tables} {e : Env} {below : List Frame} {t t' : State} {G : State → Outcome → Prop}
theorem Goes.by (k : ∀ u, Steps tb e below t' u → Steps tb e below t u) (h : Goes tb e below t' G) : Goes tb e below t G := by
  obtain ⟨s₂, o, h1, h2⟩ := h; exact ⟨s₂, o, k _ h1, h2⟩
theorem Goes.via (k : Steps tb e below t t') (h : Goes tb e below t' G) : Goes tb e below t G := by
  obtain ⟨s₂, o, h1, h2⟩ := h; exact ⟨s₂, o, k.trans h1, h2⟩
theorem jl_t {x y : Int64} (h : x < y) : ifCond.holds .lt (lcmpW x y) = true ∧ ifCond.holds .ge (lcmpW x y) = false := ⟨(if0 _ _).trans (tlt ((lw_lt x y).mpr h)).1, (if0 _ _).trans (tlt ((lw_lt x y).mpr h)).2.1⟩
theorem jl_f {x y : Int64} (h : ¬ x < y) : ifCond.holds .lt (lcmpW x y) = false ∧ ifCond.holds .ge (lcmpW x y) = true := ⟨(if0 _ _).trans (flt (fun q => h ((lw_lt x y).mp q))).1, (if0 _ _).trans (flt (fun q => h ((lw_lt x y).mp q))).2.1⟩
theorem jg_t {x y : Int64} (h : y < x) : ifCond.holds .gt (lcmpW x y) = true ∧ ifCond.holds .le (lcmpW x y) = false := ⟨(if0 _ _).trans (tlt ((lw_gt x y).mpr h)).2.2.1, (if0 _ _).trans (tlt ((lw_gt x y).mpr h)).2.2.2⟩
theorem jg_f {x y : Int64} (h : ¬ y < x) : ifCond.holds .gt (lcmpW x y) = false ∧ ifCond.holds .le (lcmpW x y) = true := ⟨(if0 _ _).trans (flt (fun q => h ((lw_gt x y).mp q))).2.2.1, (if0 _ _).trans (flt (fun q => h ((lw_gt x y).mp q))).2.2.2⟩
theorem je_t {x y : Int64} (h : x = y) : ifCond.holds .eq (lcmpW x y) = true ∧ ifCond.holds .ne (lcmpW x y) = false := ⟨(if0 _ _).trans (teq ((lw_eq x y).mpr h)).1, (if0 _ _).trans (teq ((lw_eq x y).mpr h)).2⟩
theorem je_f {x y : Int64} (h : ¬ x = y) : ifCond.holds .eq (lcmpW x y) = false ∧ ifCond.holds .ne (lcmpW x y) = true := ⟨(if0 _ _).trans (feq (fun q => h ((lw_eq x y).mp q))).1, (if0 _ _).trans (feq (fun q => h ((lw_eq x y).mp q))).2⟩
theorem selP {Z s : State} {a0 args : Array Value} {y : MethodName} {n : Nat} (hZ : Z.Warmed39 s.vm) (wi : (Cond.instantiable y.cls n).before a0 Z = true) (wp : (Cond.privateMethod y).before a0 Z = true) (win : (Cond.instanceMethod y).before a0 Z = true) (hy : y.cls ≠ "java/lang/invoke/MethodHandle" ∧ y.cls ≠ "java/lang/invoke/VarHandle") : (Cond.selects y.cls y y).before args s = true := by
  have w1 : (Cond.instantiable y.cls n).before args s = true := mv hZ wi
  obtain ⟨c, k, h1, h2, -, h4, -⟩ := Cond.instantiable_spec w1
  rw [Bool.or_eq_false_iff] at h4
  exact selects_self_of_private h1 h2 h4.1 (Cond.privateMethod_at (mvP hZ wp (args := args))) (mv hZ win) hy
theorem narR {t : FieldType} {w : Value} (h : t.isReference = true) : narrow t w = w := by cases t <;> first | (cases h; done) | (cases w <;> rfl)
end Jvm.Pilot.@@N@@.OwnKit
namespace Jvm.Pilot.@@N@@
open Jvm Jvm.ClassFile Sem Op Lib Jvm.Free Jvm.Stand Jvm.LawKit Jvm.RoadKit Bundle Jvm.Pilot.@@N@@.Jvm.D Jvm.Pilot.@@N@@.OwnKit
theorem d2_0 : decode jdk_30_method_1_code 0 = .ok (.aload_n 0, 1) := by decide +kernel
theorem d2_1 : decode jdk_30_method_1_code 1 = .ok (.invokespecial 1, 3) := by decide +kernel
theorem d2_4 : decode jdk_30_method_1_code 4 = .ok (.return_, 1) := by decide +kernel
theorem pn_0 : plainName "java/lang/Record" = true := by first | (simp [plainName, overriddenIn]; done) | decide +kernel
theorem ef2 (m : MethodId) (oa : Addr) : entryFrame m #[(.ref oa)] 1 = mkF m 0 #[.val (.ref oa)] [] := by first | (simp [entryFrame, mkF, argsToLocals, Value.category]; done) | rfl
def Q2 (Z : State) (oa : Addr) (h0 : Heap) (n0 : Nat) (v : Option Value) (h : Heap) (L : List Loc) : Prop := v = none ∧ Fr n0 L ∧ h = h0
set_option maxRecDepth 65536 in
set_option maxHeartbeats 40000000 in
theorem rm2 (l : Launch) (Z : State) (a0 : Array Value) (hw : ∀ d ∈ tables_1, d.before a0 Z = true) (ws : List Jvm.Cond) (oa : Addr) (h0 : Heap) (n0 : Nat) (Z0 : n0 ≤ h0.size) :
    MetFree l (⟨"java/lang/Record", "<init>", "()V"⟩ : MethodName) (head1 (Jvm.Cond.code (⟨"java/lang/Record", "<init>", "()V"⟩ : MethodName) jdk_30_method_1_code 1 none :: ws) ({ frames := 1, cells := 0, slots := 0, locals := 12 } : Room)) (fun a U => a = #[(.ref oa)] ∧ Z.Warmed39 U.vm ∧ U.heap = h0) (fun _ _ _ _ _ => True) (fun _ U o U' => ∃ v L, o = .returned v ∧ Q2 Z oa h0 n0 v U'.heap L ∧ FrameEnd U o U' L ({ frames := 1, cells := 0, slots := 0, locals := 12 } : Room).cells ({ frames := 1, cells := 0, slots := 0, locals := 12 } : Room).slots) := by
  refine MetFree.of_bodySF (plainFor_of_name pn_0) hisR ?_
  intro p e s m args below meth c s₁ Bd hml0 hP hK
  obtain ⟨rfl, hZ, hh⟩ := hP
  have hx := Bd.exec
  have hby := Bd.bytes
  have hml : c.maxLocals = 1 := hml0
  have hown : s.vm.findClass "java/lang/Record" = some m.cls := findClass_of_methodNamed Bd.named
  have hnm := (name_of_methodNamed Bd.named Bd.method).1
  have X0 : Stand p l e ({ frames := 1, cells := 0, slots := 0, locals := 12 } : Room) s m #[(.ref oa)] below meth c s₁ [] 0 0 := Stand.of_body Bd
  have e0 : s₁.heap = h0 := by rw [← hh, Bd.state]; rfl
  have N0 := Fr.nil n0
  refine Goes.by (fun _ k => castTop (ef2 m oa) k) ?_
  show Goes p.tables e below (s₁.setTop (mkF m 0 #[.val (.ref oa)] [])) _
  refine Goes.by (fun _ k => XS.aloadN X0.here hx rfl (hb hby d2_0) rfl rfl k) ?_
  show Goes p.tables e below (s₁.setTop (mkF m 1 #[.val (.ref oa)] [(.ref oa)])) _
  obtain ⟨T1, X1, e1, st1⟩ := initO X0 hx hZ hown (hw _ (List.mem_of_getElem? (i := 11) rfl)) (hw _ (List.mem_of_getElem? (i := 12) rfl)) (hw _ (List.mem_of_getElem? (i := 13) rfl)) e0 (g := (mkF m 1 #[.val (.ref oa)] [(.ref oa)])) rfl (by rw [hml]; rfl) rfl (hb hby d2_1) (by decide) (W := 0) (by show 2 * 0 + _ ≤ _; exact Nat.le_of_eq rfl) (by decide)
  refine Goes.by st1 ?_
  show Goes p.tables e below (T1.setTop (mkF m 4 #[.val (.ref oa)] [])) _
  obtain ⟨fs, hr, hrun, hended, hW, hsame⟩ := X1.leave (v := none) (fun _ => rfl)
  refine ⟨_, _, X1.returnOut hx Bd.returns (hb hby d2_4) hr, hrun, hended, _, _, rfl, ?_, ⟨_, rfl⟩, hW, hsame.mono (by decide) (by decide)⟩
  show Q2 Z oa h0 n0 _ T1.heap _
  rw [e1]
  exact ⟨rfl, N0, rfl⟩
theorem d1_0 : decode prog_21_method_1_code 0 = .ok (.aload_n 0, 1) := by decide +kernel
theorem d1_1 : decode prog_21_method_1_code 1 = .ok (.invokespecial 1, 3) := by decide +kernel
theorem pd_0 : parseMethodDescriptor "()V" = some ⟨[], none⟩ := by decide +kernel
theorem d1_4 : decode prog_21_method_1_code 4 = .ok (.aload_n 0, 1) := by decide +kernel
theorem d1_5 : decode prog_21_method_1_code 5 = .ok (.iload_n 1, 1) := by decide +kernel
theorem d1_6 : decode prog_21_method_1_code 6 = .ok (.putfield 7, 3) := by decide +kernel
theorem d1_9 : decode prog_21_method_1_code 9 = .ok (.aload_n 0, 1) := by decide +kernel
theorem d1_10 : decode prog_21_method_1_code 10 = .ok (.iload_n 2, 1) := by decide +kernel
theorem d1_11 : decode prog_21_method_1_code 11 = .ok (.putfield 13, 3) := by decide +kernel
theorem d1_14 : decode prog_21_method_1_code 14 = .ok (.aload_n 0, 1) := by decide +kernel
theorem d1_15 : decode prog_21_method_1_code 15 = .ok (.iload_n 3, 1) := by decide +kernel
theorem d1_16 : decode prog_21_method_1_code 16 = .ok (.putfield 16, 3) := by decide +kernel
theorem d1_19 : decode prog_21_method_1_code 19 = .ok (.return_, 1) := by decide +kernel
theorem pn_1 : plainName "com/example/treewrite/treewrite/document/Identifier" = true := by first | (simp [plainName, overriddenIn]; done) | decide +kernel
theorem ef1 (m : MethodId) (oa : Addr) (ps : Int32) (pe : Int32) (pd : Int32) : entryFrame m #[(.ref oa), (.int ps), (.int pe), (.int pd)] 4 = mkF m 0 #[.val (.ref oa), .val (.int ps), .val (.int pe), .val (.int pd)] [] := by first | (simp [entryFrame, mkF, argsToLocals, Value.category]; done) | rfl
def Q1 (Z : State) (oa : Addr) (ps : Int32) (pe : Int32) (pd : Int32) (h0 : Heap) (n0 : Nat) (v : Option Value) (h : Heap) (L : List Loc) : Prop := v = none ∧ Fr n0 L ∧ Keep h0 h [oa] ∧ Exa Z h oa "com/example/treewrite/treewrite/document/Identifier" ∧ Fld Z h oa "com/example/treewrite/treewrite/document/Identifier" "start" "I" (.int ps) ∧ Fld Z h oa "com/example/treewrite/treewrite/document/Identifier" "end" "I" (.int pe) ∧ Fld Z h oa "com/example/treewrite/treewrite/document/Identifier" "depth" "I" (.int pd)
set_option maxRecDepth 65536 in
set_option maxHeartbeats 40000000 in
theorem rm1 (l : Launch) (Z : State) (a0 : Array Value) (hw : ∀ d ∈ tables_1, d.before a0 Z = true) (ws : List Jvm.Cond) (oa : Addr) (ps : Int32) (pe : Int32) (pd : Int32) (h0 : Heap) (n0 : Nat) (Z0 : n0 ≤ h0.size) (E_oa : Exa Z h0 oa "com/example/treewrite/treewrite/document/Identifier") (F_oa_start : Fld Z h0 oa "com/example/treewrite/treewrite/document/Identifier" "start" "I" (.int (0 : Int32))) (F_oa_end : Fld Z h0 oa "com/example/treewrite/treewrite/document/Identifier" "end" "I" (.int (0 : Int32))) (F_oa_depth : Fld Z h0 oa "com/example/treewrite/treewrite/document/Identifier" "depth" "I" (.int (0 : Int32))) (g_oa : n0 ≤ oa) :
    MetFree l (⟨"com/example/treewrite/treewrite/document/Identifier", "<init>", "(III)V"⟩ : MethodName) (head1 (Jvm.Cond.code (⟨"com/example/treewrite/treewrite/document/Identifier", "<init>", "(III)V"⟩ : MethodName) prog_21_method_1_code 4 none :: ws) ({ frames := 2, cells := 0, slots := 0, locals := 24 } : Room)) (fun a U => a = #[(.ref oa), (.int ps), (.int pe), (.int pd)] ∧ Z.Warmed39 U.vm ∧ U.heap = h0) (fun _ _ _ _ _ => True) (fun _ U o U' => ∃ v L, o = .returned v ∧ Q1 Z oa ps pe pd h0 n0 v U'.heap L ∧ FrameEnd U o U' L ({ frames := 2, cells := 0, slots := 0, locals := 24 } : Room).cells ({ frames := 2, cells := 0, slots := 0, locals := 24 } : Room).slots) := by
  refine MetFree.of_bodySF (plainFor_of_name pn_1) hisR ?_
  intro p e s m args below meth c s₁ Bd hml0 hP hK
  obtain ⟨rfl, hZ, hh⟩ := hP
  have hx := Bd.exec
  have hby := Bd.bytes
  have hml : c.maxLocals = 4 := hml0
  have hown : s.vm.findClass "com/example/treewrite/treewrite/document/Identifier" = some m.cls := findClass_of_methodNamed Bd.named
  have hnm := (name_of_methodNamed Bd.named Bd.method).1
  have X0 : Stand p l e ({ frames := 2, cells := 0, slots := 0, locals := 24 } : Room) s m #[(.ref oa), (.int ps), (.int pe), (.int pd)] below meth c s₁ [] 0 0 := Stand.of_body Bd
  have e0 : s₁.heap = h0 := by rw [← hh, Bd.state]; rfl
  have N0 := Fr.nil n0
  refine Goes.by (fun _ k => castTop (ef1 m oa ps pe pd) k) ?_
  show Goes p.tables e below (s₁.setTop (mkF m 0 #[.val (.ref oa), .val (.int ps), .val (.int pe), .val (.int pd)] [])) _
  refine Goes.by (fun _ k => XS.aloadN X0.here hx rfl (hb hby d1_0) rfl rfl k) ?_
  show Goes p.tables e below (s₁.setTop (mkF m 1 #[.val (.ref oa), .val (.int ps), .val (.int pe), .val (.int pd)] [(.ref oa)])) _
  obtain ⟨_, _, ⟨T1, L1, k1, n1⟩, -, X1, ⟨Lc1, hQ1, l1, y1, z1⟩, st1⟩ := X0.specialBack hx (y := (⟨"java/lang/Record", "<init>", "()V"⟩ : MethodName)) rfl hown (mvT hZ (hw _ (List.mem_of_getElem? (i := 6) rfl))) (mvT hZ (hw _ (List.mem_of_getElem? (i := 7) rfl))) (mvT hZ (hw _ (List.mem_of_getElem? (i := 10) rfl))) (by decide) (backOf (W := 0) (rm2 l Z a0 hw [] oa h0 n0 Z0) hZ (hw _ (List.mem_of_getElem? (i := 10) rfl)) (hw _ (List.mem_of_getElem? (i := 9) rfl)) (by decide) (by decide)) (g := (mkF m 1 #[.val (.ref oa), .val (.int ps), .val (.int pe), .val (.int pd)] [(.ref oa)])) rfl (by rw [hml]; rfl) (Steps.refl _) (a := oa) (argsL := []) (rest := []) (lenOf pd_0 rfl) rfl (by show 2 * 0 + _ ≤ _; exact Nat.le_of_eq rfl) (hb hby d1_1) (fun _ _ => ⟨rfl, e0, (by decide : 0 + 0 ≤ _), (by decide : 0 + 0 ≤ _)⟩)
  dsimp only [Pt.U, Pt.locs, Pt.cells, Pt.slots] at X1 l1 y1 z1 st1 hQ1
  subst l1 y1 z1
  obtain ⟨rfl, N1q, e1⟩ := hQ1
  have N1 := Fr.app N0 N1q
  refine Goes.via st1 ?_
  show Goes p.tables e below (T1.setTop (mkF m 4 #[.val (.ref oa), .val (.int ps), .val (.int pe), .val (.int pd)] [])) _
  refine Goes.by (fun _ k => XS.aloadN X1.here hx rfl (hb hby d1_4) rfl rfl k) ?_
  show Goes p.tables e below (T1.setTop (mkF m 5 #[.val (.ref oa), .val (.int ps), .val (.int pe), .val (.int pd)] [(.ref oa)])) _
  refine Goes.by (fun _ k => XS.iloadN X1.here hx rfl (hb hby d1_5) rfl k) ?_
  show Goes p.tables e below (T1.setTop (mkF m 6 #[.val (.ref oa), .val (.int ps), .val (.int pe), .val (.int pd)] [(.int ps), (.ref oa)])) _
  obtain ⟨T2, h2, X2, e2, W2, st2⟩ := putF X1 hx hZ hown (host := "") (Or.inl (hw _ (List.mem_of_getElem? (i := 14) rfl))) Via.refl e1 F_oa_start E_oa (Or.inr ⟨(hw _ (List.mem_of_getElem? (i := 15) rfl)), rfl, hnm⟩) (hw _ (List.mem_of_getElem? (i := 1) rfl)) (ty := .int) (by decide) rfl rfl (g := (mkF m 6 #[.val (.ref oa), .val (.int ps), .val (.int pe), .val (.int pd)] [(.int ps), (.ref oa)])) rfl rfl (hb hby d1_6)
  refine Goes.by st2 ?_
  have F_oa_start : Fld Z h2 oa "com/example/treewrite/treewrite/document/Identifier" "start" "I" (.int ps) := F_oa_start.same W2
  have N2 := Fr.snoc X2 N1 g_oa
  have Zs2 : n0 ≤ h2.size := Nat.le_trans Z0 (Keep.of_wr W2).1
  have K2 : Keep h0 h2 [oa] := (Keep.refl h0 [oa]).wr W2 (Or.inl (List.mem_of_getElem? (i := 0) rfl))
  have E_oa : Exa Z h2 oa "com/example/treewrite/treewrite/document/Identifier" := E_oa.wr W2
  have F_oa_end : Fld Z h2 oa "com/example/treewrite/treewrite/document/Identifier" "end" "I" (.int (0 : Int32)) := F_oa_end.other W2 (Or.inr (slot_ne (Or.inr (hw _ (List.mem_of_getElem? (i := 17) rfl))) (Or.inr (hw _ (List.mem_of_getElem? (i := 15) rfl))) (by decide) (t := .int) (t' := .int) (by decide) (by decide)))
  have F_oa_depth : Fld Z h2 oa "com/example/treewrite/treewrite/document/Identifier" "depth" "I" (.int (0 : Int32)) := F_oa_depth.other W2 (Or.inr (slot_ne (Or.inr (hw _ (List.mem_of_getElem? (i := 19) rfl))) (Or.inr (hw _ (List.mem_of_getElem? (i := 15) rfl))) (by decide) (t := .int) (t' := .int) (by decide) (by decide)))
  show Goes p.tables e below (T2.setTop (mkF m 9 #[.val (.ref oa), .val (.int ps), .val (.int pe), .val (.int pd)] [])) _
  refine Goes.by (fun _ k => XS.aloadN X2.here hx rfl (hb hby d1_9) rfl rfl k) ?_
  show Goes p.tables e below (T2.setTop (mkF m 10 #[.val (.ref oa), .val (.int ps), .val (.int pe), .val (.int pd)] [(.ref oa)])) _
  refine Goes.by (fun _ k => XS.iloadN X2.here hx rfl (hb hby d1_10) rfl k) ?_
  show Goes p.tables e below (T2.setTop (mkF m 11 #[.val (.ref oa), .val (.int ps), .val (.int pe), .val (.int pd)] [(.int pe), (.ref oa)])) _
  obtain ⟨T3, h3, X3, e3, W3, st3⟩ := putF X2 hx hZ hown (host := "") (Or.inl (hw _ (List.mem_of_getElem? (i := 16) rfl))) Via.refl e2 F_oa_end E_oa (Or.inr ⟨(hw _ (List.mem_of_getElem? (i := 17) rfl)), rfl, hnm⟩) (hw _ (List.mem_of_getElem? (i := 1) rfl)) (ty := .int) (by decide) rfl rfl (g := (mkF m 11 #[.val (.ref oa), .val (.int ps), .val (.int pe), .val (.int pd)] [(.int pe), (.ref oa)])) rfl rfl (hb hby d1_11)
  refine Goes.by st3 ?_
  have F_oa_end : Fld Z h3 oa "com/example/treewrite/treewrite/document/Identifier" "end" "I" (.int pe) := F_oa_end.same W3
  have N3 := Fr.snoc X3 N2 g_oa
  have Zs3 : n0 ≤ h3.size := Nat.le_trans Zs2 (Keep.of_wr W3).1
  have K3 : Keep h0 h3 [oa] := K2.wr W3 (Or.inl (List.mem_of_getElem? (i := 0) rfl))
  have E_oa : Exa Z h3 oa "com/example/treewrite/treewrite/document/Identifier" := E_oa.wr W3
  have F_oa_start : Fld Z h3 oa "com/example/treewrite/treewrite/document/Identifier" "start" "I" (.int ps) := F_oa_start.other W3 (Or.inr (slot_ne (Or.inr (hw _ (List.mem_of_getElem? (i := 15) rfl))) (Or.inr (hw _ (List.mem_of_getElem? (i := 17) rfl))) (by decide) (t := .int) (t' := .int) (by decide) (by decide)))
  have F_oa_depth : Fld Z h3 oa "com/example/treewrite/treewrite/document/Identifier" "depth" "I" (.int (0 : Int32)) := F_oa_depth.other W3 (Or.inr (slot_ne (Or.inr (hw _ (List.mem_of_getElem? (i := 19) rfl))) (Or.inr (hw _ (List.mem_of_getElem? (i := 17) rfl))) (by decide) (t := .int) (t' := .int) (by decide) (by decide)))
  show Goes p.tables e below (T3.setTop (mkF m 14 #[.val (.ref oa), .val (.int ps), .val (.int pe), .val (.int pd)] [])) _
  refine Goes.by (fun _ k => XS.aloadN X3.here hx rfl (hb hby d1_14) rfl rfl k) ?_
  show Goes p.tables e below (T3.setTop (mkF m 15 #[.val (.ref oa), .val (.int ps), .val (.int pe), .val (.int pd)] [(.ref oa)])) _
  refine Goes.by (fun _ k => XS.iloadN X3.here hx rfl (hb hby d1_15) rfl k) ?_
  show Goes p.tables e below (T3.setTop (mkF m 16 #[.val (.ref oa), .val (.int ps), .val (.int pe), .val (.int pd)] [(.int pd), (.ref oa)])) _
  obtain ⟨T4, h4, X4, e4, W4, st4⟩ := putF X3 hx hZ hown (host := "") (Or.inl (hw _ (List.mem_of_getElem? (i := 18) rfl))) Via.refl e3 F_oa_depth E_oa (Or.inr ⟨(hw _ (List.mem_of_getElem? (i := 19) rfl)), rfl, hnm⟩) (hw _ (List.mem_of_getElem? (i := 1) rfl)) (ty := .int) (by decide) rfl rfl (g := (mkF m 16 #[.val (.ref oa), .val (.int ps), .val (.int pe), .val (.int pd)] [(.int pd), (.ref oa)])) rfl rfl (hb hby d1_16)
  refine Goes.by st4 ?_
  have F_oa_depth : Fld Z h4 oa "com/example/treewrite/treewrite/document/Identifier" "depth" "I" (.int pd) := F_oa_depth.same W4
  have N4 := Fr.snoc X4 N3 g_oa
  have Zs4 : n0 ≤ h4.size := Nat.le_trans Zs3 (Keep.of_wr W4).1
  have K4 : Keep h0 h4 [oa] := K3.wr W4 (Or.inl (List.mem_of_getElem? (i := 0) rfl))
  have E_oa : Exa Z h4 oa "com/example/treewrite/treewrite/document/Identifier" := E_oa.wr W4
  have F_oa_start : Fld Z h4 oa "com/example/treewrite/treewrite/document/Identifier" "start" "I" (.int ps) := F_oa_start.other W4 (Or.inr (slot_ne (Or.inr (hw _ (List.mem_of_getElem? (i := 15) rfl))) (Or.inr (hw _ (List.mem_of_getElem? (i := 19) rfl))) (by decide) (t := .int) (t' := .int) (by decide) (by decide)))
  have F_oa_end : Fld Z h4 oa "com/example/treewrite/treewrite/document/Identifier" "end" "I" (.int pe) := F_oa_end.other W4 (Or.inr (slot_ne (Or.inr (hw _ (List.mem_of_getElem? (i := 17) rfl))) (Or.inr (hw _ (List.mem_of_getElem? (i := 19) rfl))) (by decide) (t := .int) (t' := .int) (by decide) (by decide)))
  show Goes p.tables e below (T4.setTop (mkF m 19 #[.val (.ref oa), .val (.int ps), .val (.int pe), .val (.int pd)] [])) _
  obtain ⟨fs, hr, hrun, hended, hW, hsame⟩ := X4.leave (v := none) (fun _ => rfl)
  refine ⟨_, _, X4.returnOut hx Bd.returns (hb hby d1_19) hr, hrun, hended, _, _, rfl, ?_, ⟨_, rfl⟩, hW, hsame.mono (by decide) (by decide)⟩
  show Q1 Z oa ps pe pd h0 n0 _ T4.heap _
  rw [e4]
  exact ⟨rfl, N4, K4, E_oa, F_oa_start, F_oa_end, F_oa_depth⟩
theorem d4_0 : decode prog_21_method_8_code 0 = .ok (.bipush 31, 2) := by decide +kernel
theorem d4_2 : decode prog_21_method_8_code 2 = .ok (.aload_n 0, 1) := by decide +kernel
theorem d4_3 : decode prog_21_method_8_code 3 = .ok (.getfield 7, 3) := by decide +kernel
theorem d4_6 : decode prog_21_method_8_code 6 = .ok (.imul, 1) := by decide +kernel
theorem d4_7 : decode prog_21_method_8_code 7 = .ok (.aload_n 0, 1) := by decide +kernel
theorem d4_8 : decode prog_21_method_8_code 8 = .ok (.getfield 13, 3) := by decide +kernel
theorem d4_11 : decode prog_21_method_8_code 11 = .ok (.iadd, 1) := by decide +kernel
theorem d4_12 : decode prog_21_method_8_code 12 = .ok (.bipush 31, 2) := by decide +kernel
theorem d4_14 : decode prog_21_method_8_code 14 = .ok (.imul, 1) := by decide +kernel
theorem d4_15 : decode prog_21_method_8_code 15 = .ok (.aload_n 0, 1) := by decide +kernel
theorem d4_16 : decode prog_21_method_8_code 16 = .ok (.getfield 16, 3) := by decide +kernel
theorem d4_19 : decode prog_21_method_8_code 19 = .ok (.iadd, 1) := by decide +kernel
theorem d4_20 : decode prog_21_method_8_code 20 = .ok (.ireturn, 1) := by decide +kernel
theorem ef4 (m : MethodId) (oa : Addr) : entryFrame m #[(.ref oa)] 1 = mkF m 0 #[.val (.ref oa)] [] := by first | (simp [entryFrame, mkF, argsToLocals, Value.category]; done) | rfl
def Q4 (Z : State) (oa : Addr) (us : Int32) (ue : Int32) (ud : Int32) (h0 : Heap) (n0 : Nat) (v : Option Value) (h : Heap) (L : List Loc) : Prop := v = some (.int (((((31 : Int32) * us) + ue) * (31 : Int32)) + ud)) ∧ Fr n0 L ∧ h = h0
set_option maxRecDepth 65536 in
set_option maxHeartbeats 40000000 in
theorem rm4 (l : Launch) (Z : State) (a0 : Array Value) (hw : ∀ d ∈ tables_1, d.before a0 Z = true) (ws : List Jvm.Cond) (oa : Addr) (us : Int32) (ue : Int32) (ud : Int32) (h0 : Heap) (n0 : Nat) (Z0 : n0 ≤ h0.size) (F_oa_start : Fld Z h0 oa "com/example/treewrite/treewrite/document/Identifier" "start" "I" (.int us)) (F_oa_end : Fld Z h0 oa "com/example/treewrite/treewrite/document/Identifier" "end" "I" (.int ue)) (F_oa_depth : Fld Z h0 oa "com/example/treewrite/treewrite/document/Identifier" "depth" "I" (.int ud)) :
    MetFree l (⟨"com/example/treewrite/treewrite/document/Identifier", "hashCode", "()I"⟩ : MethodName) (head1 (Jvm.Cond.code (⟨"com/example/treewrite/treewrite/document/Identifier", "hashCode", "()I"⟩ : MethodName) prog_21_method_8_code 1 (some .int) :: ws) ({ frames := 0, cells := 0, slots := 0, locals := 0 } : Room)) (fun a U => a = #[(.ref oa)] ∧ Z.Warmed39 U.vm ∧ U.heap = h0) (fun _ _ _ _ _ => True) (fun _ U o U' => ∃ v L, o = .returned v ∧ Q4 Z oa us ue ud h0 n0 v U'.heap L ∧ FrameEnd U o U' L ({ frames := 0, cells := 0, slots := 0, locals := 0 } : Room).cells ({ frames := 0, cells := 0, slots := 0, locals := 0 } : Room).slots) := by
  refine MetFree.of_bodySF (plainFor_of_name pn_1) hisR ?_
  intro p e s m args below meth c s₁ Bd hml0 hP hK
  obtain ⟨rfl, hZ, hh⟩ := hP
  have hx := Bd.exec
  have hby := Bd.bytes
  have hml : c.maxLocals = 1 := hml0
  have hown : s.vm.findClass "com/example/treewrite/treewrite/document/Identifier" = some m.cls := findClass_of_methodNamed Bd.named
  have hnm := (name_of_methodNamed Bd.named Bd.method).1
  have X0 : Stand p l e ({ frames := 0, cells := 0, slots := 0, locals := 0 } : Room) s m #[(.ref oa)] below meth c s₁ [] 0 0 := Stand.of_body Bd
  have e0 : s₁.heap = h0 := by rw [← hh, Bd.state]; rfl
  have N0 := Fr.nil n0
  refine Goes.by (fun _ k => castTop (ef4 m oa) k) ?_
  show Goes p.tables e below (s₁.setTop (mkF m 0 #[.val (.ref oa)] [])) _
  refine Goes.by (fun _ k => XS.bipush X0.here hx rfl (hb hby d4_0) k) ?_
  show Goes p.tables e below (s₁.setTop (mkF m 2 #[.val (.ref oa)] [(.int (31 : Int32))])) _
  refine Goes.by (fun _ k => XS.aloadN X0.here hx rfl (hb hby d4_2) rfl rfl k) ?_
  show Goes p.tables e below (s₁.setTop (mkF m 3 #[.val (.ref oa)] [(.ref oa), (.int (31 : Int32))])) _
  obtain ⟨T1, X1, e1, st1⟩ := getF X0 hx hZ hown (host := "") (Or.inl (hw _ (List.mem_of_getElem? (i := 14) rfl))) Via.refl e0 F_oa_start (g := (mkF m 3 #[.val (.ref oa)] [(.ref oa), (.int (31 : Int32))])) rfl rfl (hb hby d4_3)
  refine Goes.by st1 ?_
  show Goes p.tables e below (T1.setTop (mkF m 6 #[.val (.ref oa)] [(.int us), (.int (31 : Int32))])) _
  refine Goes.by (fun _ k => XS.imul X1.here hx rfl (hb hby d4_6) rfl k) ?_
  show Goes p.tables e below (T1.setTop (mkF m 7 #[.val (.ref oa)] [(.int ((31 : Int32) * us))])) _
  refine Goes.by (fun _ k => XS.aloadN X1.here hx rfl (hb hby d4_7) rfl rfl k) ?_
  show Goes p.tables e below (T1.setTop (mkF m 8 #[.val (.ref oa)] [(.ref oa), (.int ((31 : Int32) * us))])) _
  obtain ⟨T2, X2, e2, st2⟩ := getF X1 hx hZ hown (host := "") (Or.inl (hw _ (List.mem_of_getElem? (i := 16) rfl))) Via.refl e1 F_oa_end (g := (mkF m 8 #[.val (.ref oa)] [(.ref oa), (.int ((31 : Int32) * us))])) rfl rfl (hb hby d4_8)
  refine Goes.by st2 ?_
  show Goes p.tables e below (T2.setTop (mkF m 11 #[.val (.ref oa)] [(.int ue), (.int ((31 : Int32) * us))])) _
  refine Goes.by (fun _ k => XS.iadd X2.here hx rfl (hb hby d4_11) rfl k) ?_
  show Goes p.tables e below (T2.setTop (mkF m 12 #[.val (.ref oa)] [(.int (((31 : Int32) * us) + ue))])) _
  refine Goes.by (fun _ k => XS.bipush X2.here hx rfl (hb hby d4_12) k) ?_
  show Goes p.tables e below (T2.setTop (mkF m 14 #[.val (.ref oa)] [(.int (31 : Int32)), (.int (((31 : Int32) * us) + ue))])) _
  refine Goes.by (fun _ k => XS.imul X2.here hx rfl (hb hby d4_14) rfl k) ?_
  show Goes p.tables e below (T2.setTop (mkF m 15 #[.val (.ref oa)] [(.int ((((31 : Int32) * us) + ue) * (31 : Int32)))])) _
  refine Goes.by (fun _ k => XS.aloadN X2.here hx rfl (hb hby d4_15) rfl rfl k) ?_
  show Goes p.tables e below (T2.setTop (mkF m 16 #[.val (.ref oa)] [(.ref oa), (.int ((((31 : Int32) * us) + ue) * (31 : Int32)))])) _
  obtain ⟨T3, X3, e3, st3⟩ := getF X2 hx hZ hown (host := "") (Or.inl (hw _ (List.mem_of_getElem? (i := 18) rfl))) Via.refl e2 F_oa_depth (g := (mkF m 16 #[.val (.ref oa)] [(.ref oa), (.int ((((31 : Int32) * us) + ue) * (31 : Int32)))])) rfl rfl (hb hby d4_16)
  refine Goes.by st3 ?_
  show Goes p.tables e below (T3.setTop (mkF m 19 #[.val (.ref oa)] [(.int ud), (.int ((((31 : Int32) * us) + ue) * (31 : Int32)))])) _
  refine Goes.by (fun _ k => XS.iadd X3.here hx rfl (hb hby d4_19) rfl k) ?_
  show Goes p.tables e below (T3.setTop (mkF m 20 #[.val (.ref oa)] [(.int (((((31 : Int32) * us) + ue) * (31 : Int32)) + ud))])) _
  obtain ⟨fs, hr, hrun, hended, hW, hsame⟩ := X3.leave (v := some (.int (((((31 : Int32) * us) + ue) * (31 : Int32)) + ud))) (fun h => by rw [Bd.returns] at h; cases h)
  refine ⟨_, _, retI X3 hx Bd.returns (hb hby d4_20) hr, hrun, hended, _, _, rfl, ?_, ⟨_, rfl⟩, hW, hsame.mono (by decide) (by decide)⟩
  show Q4 Z oa us ue ud h0 n0 _ T3.heap _
  rw [e3]
  exact ⟨rfl, N0, rfl⟩
def own_h (s e d : Int32) : Int32 := ((((31 : Int32) * s) + e) * (31 : Int32)) + d
theorem own_hI (s e d : Int32) : ((own_h s e d).toInt - (961 * s.toInt + 31 * e.toInt + d.toInt)) % 4294967296 = 0 := by
  have a1 := c_imul 31 s
  have a2 := c_iadd (31 * s) e
  have a3 := c_imul (31 * s + e) 31
  have a4 := c_iadd ((31 * s + e) * 31) d
  have e31 : (31 : Int32).toInt = 31 := rfl
  rw [e31] at a1 a3
  show (((31 * s + e) * 31 + d).toInt - _) % _ = 0
  omega
theorem own_step (s e d s' e' d' k : Int32) (hk : (961 * s'.toInt + 31 * e'.toInt + d'.toInt - (961 * s.toInt + 31 * e.toInt + d.toInt) - k.toInt) % 4294967296 = 0) : own_h s' e' d' - own_h s e d = k := by
  have a1 := own_hI s e d
  have a2 := own_hI s' e' d'
  have a3 := c_isub (own_h s' e' d') (own_h s e d)
  have r1 := rng32 (own_h s' e' d' - own_h s e d)
  have r2 := rng32 k
  apply Int32.toInt_inj.mp
  omega
theorem pd_1 : parseMethodDescriptor "(III)V" = some ⟨[.int, .int, .int], none⟩ := by decide +kernel
theorem pd_2 : parseMethodDescriptor "()I" = some ⟨[], some .int⟩ := by decide +kernel
theorem pn_2 : plainName "com/example/treewrite/treewrite/document/IdentifierHashCodePinLaw" = true := by first | (simp [plainName, overriddenIn]; done) | decide +kernel
theorem ef0 (m : MethodId) (ps : Int32) (pe : Int32) (pd : Int32) : entryFrame m #[(.int ps), (.int pe), (.int pd)] maxLocals = mkF m 0 #[.val (.int ps), .val (.int pe), .val (.int pd), .unset, .unset, .unset, .unset, .unset, .unset, .unset, .unset, .unset] [] := by first | (simp [entryFrame, mkF, argsToLocals, Value.category, maxLocals]; done) | rfl
def Q0 (Z : State) (ps : Int32) (pe : Int32) (pd : Int32) (h0 : Heap) (n0 : Nat) (v : Option Value) (h : Heap) (L : List Loc) : Prop := v = some (.int (1 : Int32)) ∧ Fr n0 L
set_option maxRecDepth 65536 in
set_option maxHeartbeats 40000000 in
theorem rm0 (l : Launch) (Z : State) (a0 : Array Value) (hw : ∀ d ∈ tables_1, d.before a0 Z = true) (ws : List Jvm.Cond) (ps : Int32) (pe : Int32) (pd : Int32) (h0 : Heap) (n0 : Nat) (Z0 : n0 ≤ h0.size) :
    MetFree l x (head1 (Jvm.Cond.code x code maxLocals ret :: ws) room_1) (fun a U => a = #[(.int ps), (.int pe), (.int pd)] ∧ Z.Warmed39 U.vm ∧ U.heap = h0) (fun _ _ _ _ _ => True) (fun _ U o U' => ∃ v L, o = .returned v ∧ Q0 Z ps pe pd h0 n0 v U'.heap L ∧ FrameEnd U o U' L room_1.cells room_1.slots) := by
  refine MetFree.of_bodySF (plainFor_of_name pn_2) hisR ?_
  intro p e s m args below meth c s₁ Bd hml0 hP hK
  obtain ⟨rfl, hZ, hh⟩ := hP
  have hx := Bd.exec
  have hby := Bd.bytes
  have hml : c.maxLocals = 12 := hml0
  have hown : s.vm.findClass "com/example/treewrite/treewrite/document/IdentifierHashCodePinLaw" = some m.cls := findClass_of_methodNamed Bd.named
  have hnm := (name_of_methodNamed Bd.named Bd.method).1
  have X0 : Stand p l e room_1 s m #[(.int ps), (.int pe), (.int pd)] below meth c s₁ [] 0 0 := Stand.of_body Bd
  have e0 : s₁.heap = h0 := by rw [← hh, Bd.state]; rfl
  have N0 := Fr.nil n0
  refine Goes.by (fun _ k => castTop (ef0 m ps pe pd) k) ?_
  show Goes p.tables e below (s₁.setTop (mkF m 0 #[.val (.int ps), .val (.int pe), .val (.int pd), .unset, .unset, .unset, .unset, .unset, .unset, .unset, .unset, .unset] [])) _
  obtain ⟨T1, h1, X1, e1, E1, A1, D1, -, st1⟩ := newO X0 hx hZ hown (hw _ (List.mem_of_getElem? (i := 0) rfl)) (hw _ (List.mem_of_getElem? (i := 1) rfl)) (hw _ (List.mem_of_getElem? (i := 2) rfl)) e0 (g := (mkF m 0 #[.val (.int ps), .val (.int pe), .val (.int pd), .unset, .unset, .unset, .unset, .unset, .unset, .unset, .unset, .unset] [])) rfl (hb hby at_0) (by decide) (by decide)
  obtain ⟨b1, g1⟩ : ∃ z, z = h0.size := ⟨_, rfl⟩
  rw [← g1] at A1 D1 st1
  have g_b1 : n0 ≤ b1 := Nat.le_trans Z0 (Nat.le_of_eq g1.symm)
  have sz_b1 : h0.size ≤ b1 := Nat.le_trans (Keep.refl h0 []).1 (Nat.le_of_eq g1.symm)
  have Zs1 : n0 ≤ h1.size := Nat.le_trans Z0 E1.1
  have K1 : Keep h0 h1 [] := (Keep.refl h0 []).ext E1
  refine Goes.by st1 ?_
  have E_b1 : Exa Z h1 b1 "com/example/treewrite/treewrite/document/Identifier" := A1
  have F_b1_start : Fld Z h1 b1 "com/example/treewrite/treewrite/document/Identifier" "start" "I" (.int (0 : Int32)) := D1 (Or.inr (hw _ (List.mem_of_getElem? (i := 15) rfl))) (ty := .int) (by decide)
  have F_b1_end : Fld Z h1 b1 "com/example/treewrite/treewrite/document/Identifier" "end" "I" (.int (0 : Int32)) := D1 (Or.inr (hw _ (List.mem_of_getElem? (i := 17) rfl))) (ty := .int) (by decide)
  have F_b1_depth : Fld Z h1 b1 "com/example/treewrite/treewrite/document/Identifier" "depth" "I" (.int (0 : Int32)) := D1 (Or.inr (hw _ (List.mem_of_getElem? (i := 19) rfl))) (ty := .int) (by decide)
  show Goes p.tables e below (T1.setTop (mkF m 3 #[.val (.int ps), .val (.int pe), .val (.int pd), .unset, .unset, .unset, .unset, .unset, .unset, .unset, .unset, .unset] [(.ref b1)])) _
  refine Goes.by (fun _ k => XS.dup X1.here hx rfl (hb hby at_3) rfl rfl k) ?_
  show Goes p.tables e below (T1.setTop (mkF m 4 #[.val (.int ps), .val (.int pe), .val (.int pd), .unset, .unset, .unset, .unset, .unset, .unset, .unset, .unset, .unset] [(.ref b1), (.ref b1)])) _
  refine Goes.by (fun _ k => XS.iloadN X1.here hx rfl (hb hby at_4) rfl k) ?_
  show Goes p.tables e below (T1.setTop (mkF m 5 #[.val (.int ps), .val (.int pe), .val (.int pd), .unset, .unset, .unset, .unset, .unset, .unset, .unset, .unset, .unset] [(.int ps), (.ref b1), (.ref b1)])) _
  refine Goes.by (fun _ k => XS.iloadN X1.here hx rfl (hb hby at_5) rfl k) ?_
  show Goes p.tables e below (T1.setTop (mkF m 6 #[.val (.int ps), .val (.int pe), .val (.int pd), .unset, .unset, .unset, .unset, .unset, .unset, .unset, .unset, .unset] [(.int pe), (.int ps), (.ref b1), (.ref b1)])) _
  refine Goes.by (fun _ k => XS.iloadN X1.here hx rfl (hb hby at_6) rfl k) ?_
  show Goes p.tables e below (T1.setTop (mkF m 7 #[.val (.int ps), .val (.int pe), .val (.int pd), .unset, .unset, .unset, .unset, .unset, .unset, .unset, .unset, .unset] [(.int pd), (.int pe), (.int ps), (.ref b1), (.ref b1)])) _
  obtain ⟨_, _, ⟨T2, L2, k2, n2⟩, -, X2, ⟨Lc2, hQ2, l2, y2, z2⟩, st2⟩ := X1.specialBack hx (y := (⟨"com/example/treewrite/treewrite/document/Identifier", "<init>", "(III)V"⟩ : MethodName)) rfl hown (mvT hZ (hw _ (List.mem_of_getElem? (i := 3) rfl))) (mvT hZ (hw _ (List.mem_of_getElem? (i := 4) rfl))) (mvT hZ (hw _ (List.mem_of_getElem? (i := 5) rfl))) (by decide) (backOf (W := 1) (rm1 l Z a0 hw [] b1 ps pe pd h1 n0 Zs1 E_b1 F_b1_start F_b1_end F_b1_depth g_b1) hZ (hw _ (List.mem_of_getElem? (i := 5) rfl)) (hw _ (List.mem_of_getElem? (i := 2) rfl)) (by decide) (by decide)) (g := (mkF m 7 #[.val (.int ps), .val (.int pe), .val (.int pd), .unset, .unset, .unset, .unset, .unset, .unset, .unset, .unset, .unset] [(.int pd), (.int pe), (.int ps), (.ref b1), (.ref b1)])) rfl (by rw [hml]; rfl) (Steps.refl _) (a := b1) (argsL := [(.int ps), (.int pe), (.int pd)]) (rest := [(.ref b1)]) (lenOf pd_1 rfl) rfl (by show 2 * 0 + _ ≤ _; exact Nat.le_of_eq rfl) (hb hby at_7) (fun _ _ => ⟨rfl, e1, (by decide : 1 + 0 ≤ _), (by decide : 3 + 0 ≤ _)⟩)
  dsimp only [Pt.U, Pt.locs, Pt.cells, Pt.slots] at X2 l2 y2 z2 st2 hQ2
  subst l2 y2 z2
  obtain ⟨rfl, N2q, Kq2, po2_0, po2_1, po2_2, po2_3⟩ := hQ2
  have N2 := Fr.app N0 N2q
  refine Goes.via st2 ?_
  have Zs2 : n0 ≤ T2.heap.size := Nat.le_trans Zs1 Kq2.1
  have K2 : Keep h0 T2.heap [] := K1.trans Kq2 (allS (Or.inr sz_b1) all0)
  have E_b1 : Exa Z T2.heap b1 "com/example/treewrite/treewrite/document/Identifier" := E_b1.keep Kq2
  have E_b1 : Exa Z T2.heap b1 "com/example/treewrite/treewrite/document/Identifier" := po2_0
  have F_b1_start : Fld Z T2.heap b1 "com/example/treewrite/treewrite/document/Identifier" "start" "I" (.int ps) := po2_1
  have F_b1_end : Fld Z T2.heap b1 "com/example/treewrite/treewrite/document/Identifier" "end" "I" (.int pe) := po2_2
  have F_b1_depth : Fld Z T2.heap b1 "com/example/treewrite/treewrite/document/Identifier" "depth" "I" (.int pd) := po2_3
  show Goes p.tables e below (T2.setTop (mkF m 10 #[.val (.int ps), .val (.int pe), .val (.int pd), .unset, .unset, .unset, .unset, .unset, .unset, .unset, .unset, .unset] [(.ref b1)])) _
  obtain ⟨cq3, kq3, q3a, q3b, q3c⟩ := isOf hZ rfl E_b1
  obtain ⟨_, _, ⟨T3, L3, k3, n3⟩, -, X3, ⟨Lc3, hQ3, l3, y3, z3⟩, st3⟩ := X2.virtualBack hx (y := (⟨"com/example/treewrite/treewrite/document/Identifier", "hashCode", "()I"⟩ : MethodName)) (z := (⟨"com/example/treewrite/treewrite/document/Identifier", "hashCode", "()I"⟩ : MethodName)) hown (mvT hZ (hw _ (List.mem_of_getElem? (i := 20) rfl))) (mvT hZ (hw _ (List.mem_of_getElem? (i := 21) rfl))) (notFace_of_selects (args := #[]) (mvT hZ (hw _ (List.mem_of_getElem? (i := 23) rfl)))) (mvT hZ (hw _ (List.mem_of_getElem? (i := 23) rfl))) (mvT hZ (hw _ (List.mem_of_getElem? (i := 22) rfl))) (by decide) (backOf (W := 0) (rm4 l Z a0 hw [] b1 ps pe pd T2.heap n0 Zs2 F_b1_start F_b1_end F_b1_depth) hZ (hw _ (List.mem_of_getElem? (i := 24) rfl)) (hw _ (List.mem_of_getElem? (i := 2) rfl)) (by decide) (by decide)) q3a q3c (g := (mkF m 10 #[.val (.int ps), .val (.int pe), .val (.int pd), .unset, .unset, .unset, .unset, .unset, .unset, .unset, .unset, .unset] [(.ref b1)])) rfl (by rw [hml]; rfl) (Steps.refl _) (argsL := []) (rest := []) (lenOf pd_2 rfl) rfl (by show 2 * 0 + _ ≤ _; exact Nat.le_of_eq rfl) (hb hby at_10) (fun _ _ => ⟨rfl, rfl, (by decide : 1 + 0 ≤ _), (by decide : 3 + 0 ≤ _)⟩)
  dsimp only [Pt.U, Pt.locs, Pt.cells, Pt.slots] at X3 l3 y3 z3 st3 hQ3
  subst l3 y3 z3
  obtain ⟨rfl, N3q, e3⟩ := hQ3
  have N3 := Fr.app N2 N3q
  refine Goes.via st3 ?_
  show Goes p.tables e below (T3.setTop (mkF m 13 #[.val (.int ps), .val (.int pe), .val (.int pd), .unset, .unset, .unset, .unset, .unset, .unset, .unset, .unset, .unset] [(.int (((((31 : Int32) * ps) + pe) * (31 : Int32)) + pd))])) _
  obtain ⟨x4, hx4⟩ : ∃ z : Int32, z = (((((31 : Int32) * ps) + pe) * (31 : Int32)) + pd) := ⟨_, rfl⟩
  refine Goes.by (fun _ k => XS.istoreN X3.here hx rfl (hb hby at_13) rfl (l' := #[.val (.int ps), .val (.int pe), .val (.int pd), .val (.int x4), .unset, .unset, .unset, .unset, .unset, .unset, .unset, .unset]) (by rw [hx4]; rfl) k) ?_
  show Goes p.tables e below (T3.setTop (mkF m 14 #[.val (.int ps), .val (.int pe), .val (.int pd), .val (.int x4), .unset, .unset, .unset, .unset, .unset, .unset, .unset, .unset] [])) _
  obtain ⟨T5, h5, X5, e5, E5, A5, D5, -, st5⟩ := newO X3 hx hZ hown (hw _ (List.mem_of_getElem? (i := 0) rfl)) (hw _ (List.mem_of_getElem? (i := 1) rfl)) (hw _ (List.mem_of_getElem? (i := 2) rfl)) e3 (g := (mkF m 14 #[.val (.int ps), .val (.int pe), .val (.int pd), .val (.int x4), .unset, .unset, .unset, .unset, .unset, .unset, .unset, .unset] [])) rfl (hb hby at_14) (by decide) (by decide)
  obtain ⟨b5, g5⟩ : ∃ z, z = T2.heap.size := ⟨_, rfl⟩
  rw [← g5] at A5 D5 st5
  have g_b5 : n0 ≤ b5 := Nat.le_trans Zs2 (Nat.le_of_eq g5.symm)
  have sz_b5 : h0.size ≤ b5 := Nat.le_trans K2.1 (Nat.le_of_eq g5.symm)
  have ne_b1_b5 : b1 ≠ b5 := Nat.ne_of_lt (Nat.lt_of_lt_of_le E_b1.lt (Nat.le_of_eq g5.symm))
  have Zs5 : n0 ≤ h5.size := Nat.le_trans Zs2 E5.1
  have K5 : Keep h0 h5 [] := K2.ext E5
  refine Goes.by st5 ?_
  have E_b1 : Exa Z h5 b1 "com/example/treewrite/treewrite/document/Identifier" := E_b1.ext E5
  have F_b1_start : Fld Z h5 b1 "com/example/treewrite/treewrite/document/Identifier" "start" "I" (.int ps) := F_b1_start.ext E5
  have F_b1_end : Fld Z h5 b1 "com/example/treewrite/treewrite/document/Identifier" "end" "I" (.int pe) := F_b1_end.ext E5
  have F_b1_depth : Fld Z h5 b1 "com/example/treewrite/treewrite/document/Identifier" "depth" "I" (.int pd) := F_b1_depth.ext E5
  have E_b5 : Exa Z h5 b5 "com/example/treewrite/treewrite/document/Identifier" := A5
  have F_b5_start : Fld Z h5 b5 "com/example/treewrite/treewrite/document/Identifier" "start" "I" (.int (0 : Int32)) := D5 (Or.inr (hw _ (List.mem_of_getElem? (i := 15) rfl))) (ty := .int) (by decide)
  have F_b5_end : Fld Z h5 b5 "com/example/treewrite/treewrite/document/Identifier" "end" "I" (.int (0 : Int32)) := D5 (Or.inr (hw _ (List.mem_of_getElem? (i := 17) rfl))) (ty := .int) (by decide)
  have F_b5_depth : Fld Z h5 b5 "com/example/treewrite/treewrite/document/Identifier" "depth" "I" (.int (0 : Int32)) := D5 (Or.inr (hw _ (List.mem_of_getElem? (i := 19) rfl))) (ty := .int) (by decide)
  show Goes p.tables e below (T5.setTop (mkF m 17 #[.val (.int ps), .val (.int pe), .val (.int pd), .val (.int x4), .unset, .unset, .unset, .unset, .unset, .unset, .unset, .unset] [(.ref b5)])) _
  refine Goes.by (fun _ k => XS.dup X5.here hx rfl (hb hby at_17) rfl rfl k) ?_
  show Goes p.tables e below (T5.setTop (mkF m 18 #[.val (.int ps), .val (.int pe), .val (.int pd), .val (.int x4), .unset, .unset, .unset, .unset, .unset, .unset, .unset, .unset] [(.ref b5), (.ref b5)])) _
  refine Goes.by (fun _ k => XS.iloadN X5.here hx rfl (hb hby at_18) rfl k) ?_
  show Goes p.tables e below (T5.setTop (mkF m 19 #[.val (.int ps), .val (.int pe), .val (.int pd), .val (.int x4), .unset, .unset, .unset, .unset, .unset, .unset, .unset, .unset] [(.int ps), (.ref b5), (.ref b5)])) _
  refine Goes.by (fun _ k => XS.iloadN X5.here hx rfl (hb hby at_19) rfl k) ?_
  show Goes p.tables e below (T5.setTop (mkF m 20 #[.val (.int ps), .val (.int pe), .val (.int pd), .val (.int x4), .unset, .unset, .unset, .unset, .unset, .unset, .unset, .unset] [(.int pe), (.int ps), (.ref b5), (.ref b5)])) _
  refine Goes.by (fun _ k => XS.iloadN X5.here hx rfl (hb hby at_20) rfl k) ?_
  show Goes p.tables e below (T5.setTop (mkF m 21 #[.val (.int ps), .val (.int pe), .val (.int pd), .val (.int x4), .unset, .unset, .unset, .unset, .unset, .unset, .unset, .unset] [(.int pd), (.int pe), (.int ps), (.ref b5), (.ref b5)])) _
  refine Goes.by (fun _ k => XS.iconst X5.here hx rfl (hb hby at_21) k) ?_
  show Goes p.tables e below (T5.setTop (mkF m 22 #[.val (.int ps), .val (.int pe), .val (.int pd), .val (.int x4), .unset, .unset, .unset, .unset, .unset, .unset, .unset, .unset] [(.int (1 : Int32)), (.int pd), (.int pe), (.int ps), (.ref b5), (.ref b5)])) _
  refine Goes.by (fun _ k => XS.iadd X5.here hx rfl (hb hby at_22) rfl k) ?_
  show Goes p.tables e below (T5.setTop (mkF m 23 #[.val (.int ps), .val (.int pe), .val (.int pd), .val (.int x4), .unset, .unset, .unset, .unset, .unset, .unset, .unset, .unset] [(.int (pd + (1 : Int32))), (.int pe), (.int ps), (.ref b5), (.ref b5)])) _
  obtain ⟨_, _, ⟨T6, L6, k6, n6⟩, -, X6, ⟨Lc6, hQ6, l6, y6, z6⟩, st6⟩ := X5.specialBack hx (y := (⟨"com/example/treewrite/treewrite/document/Identifier", "<init>", "(III)V"⟩ : MethodName)) rfl hown (mvT hZ (hw _ (List.mem_of_getElem? (i := 3) rfl))) (mvT hZ (hw _ (List.mem_of_getElem? (i := 4) rfl))) (mvT hZ (hw _ (List.mem_of_getElem? (i := 5) rfl))) (by decide) (backOf (W := 1) (rm1 l Z a0 hw [] b5 ps pe (pd + (1 : Int32)) h5 n0 Zs5 E_b5 F_b5_start F_b5_end F_b5_depth g_b5) hZ (hw _ (List.mem_of_getElem? (i := 5) rfl)) (hw _ (List.mem_of_getElem? (i := 2) rfl)) (by decide) (by decide)) (g := (mkF m 23 #[.val (.int ps), .val (.int pe), .val (.int pd), .val (.int x4), .unset, .unset, .unset, .unset, .unset, .unset, .unset, .unset] [(.int (pd + (1 : Int32))), (.int pe), (.int ps), (.ref b5), (.ref b5)])) rfl (by rw [hml]; rfl) (Steps.refl _) (a := b5) (argsL := [(.int ps), (.int pe), (.int (pd + (1 : Int32)))]) (rest := [(.ref b5)]) (lenOf pd_1 rfl) rfl (by show 2 * 0 + _ ≤ _; exact Nat.le_of_eq rfl) (hb hby at_23) (fun _ _ => ⟨rfl, e5, (by decide : 2 + 0 ≤ _), (by decide : 6 + 0 ≤ _)⟩)
  dsimp only [Pt.U, Pt.locs, Pt.cells, Pt.slots] at X6 l6 y6 z6 st6 hQ6
  subst l6 y6 z6
  obtain ⟨rfl, N6q, Kq6, po6_0, po6_1, po6_2, po6_3⟩ := hQ6
  have N6 := Fr.app N3 N6q
  refine Goes.via st6 ?_
  have Zs6 : n0 ≤ T6.heap.size := Nat.le_trans Zs5 Kq6.1
  have K6 : Keep h0 T6.heap [] := K5.trans Kq6 (allS (Or.inr sz_b5) all0)
  have E_b1 : Exa Z T6.heap b1 "com/example/treewrite/treewrite/document/Identifier" := E_b1.keep Kq6
  have F_b1_start : Fld Z T6.heap b1 "com/example/treewrite/treewrite/document/Identifier" "start" "I" (.int ps) := F_b1_start.keep Kq6 (ninS ne_b1_b5 nin0)
  have F_b1_end : Fld Z T6.heap b1 "com/example/treewrite/treewrite/document/Identifier" "end" "I" (.int pe) := F_b1_end.keep Kq6 (ninS ne_b1_b5 nin0)
  have F_b1_depth : Fld Z T6.heap b1 "com/example/treewrite/treewrite/document/Identifier" "depth" "I" (.int pd) := F_b1_depth.keep Kq6 (ninS ne_b1_b5 nin0)
  have E_b5 : Exa Z T6.heap b5 "com/example/treewrite/treewrite/document/Identifier" := E_b5.keep Kq6
  have E_b5 : Exa Z T6.heap b5 "com/example/treewrite/treewrite/document/Identifier" := po6_0
  have F_b5_start : Fld Z T6.heap b5 "com/example/treewrite/treewrite/document/Identifier" "start" "I" (.int ps) := po6_1
  have F_b5_end : Fld Z T6.heap b5 "com/example/treewrite/treewrite/document/Identifier" "end" "I" (.int pe) := po6_2
  have F_b5_depth : Fld Z T6.heap b5 "com/example/treewrite/treewrite/document/Identifier" "depth" "I" (.int (pd + (1 : Int32))) := po6_3
  show Goes p.tables e below (T6.setTop (mkF m 26 #[.val (.int ps), .val (.int pe), .val (.int pd), .val (.int x4), .unset, .unset, .unset, .unset, .unset, .unset, .unset, .unset] [(.ref b5)])) _
  obtain ⟨cq7, kq7, q7a, q7b, q7c⟩ := isOf hZ rfl E_b5
  obtain ⟨_, _, ⟨T7, L7, k7, n7⟩, -, X7, ⟨Lc7, hQ7, l7, y7, z7⟩, st7⟩ := X6.virtualBack hx (y := (⟨"com/example/treewrite/treewrite/document/Identifier", "hashCode", "()I"⟩ : MethodName)) (z := (⟨"com/example/treewrite/treewrite/document/Identifier", "hashCode", "()I"⟩ : MethodName)) hown (mvT hZ (hw _ (List.mem_of_getElem? (i := 20) rfl))) (mvT hZ (hw _ (List.mem_of_getElem? (i := 21) rfl))) (notFace_of_selects (args := #[]) (mvT hZ (hw _ (List.mem_of_getElem? (i := 23) rfl)))) (mvT hZ (hw _ (List.mem_of_getElem? (i := 23) rfl))) (mvT hZ (hw _ (List.mem_of_getElem? (i := 22) rfl))) (by decide) (backOf (W := 0) (rm4 l Z a0 hw [] b5 ps pe (pd + (1 : Int32)) T6.heap n0 Zs6 F_b5_start F_b5_end F_b5_depth) hZ (hw _ (List.mem_of_getElem? (i := 24) rfl)) (hw _ (List.mem_of_getElem? (i := 2) rfl)) (by decide) (by decide)) q7a q7c (g := (mkF m 26 #[.val (.int ps), .val (.int pe), .val (.int pd), .val (.int x4), .unset, .unset, .unset, .unset, .unset, .unset, .unset, .unset] [(.ref b5)])) rfl (by rw [hml]; rfl) (Steps.refl _) (argsL := []) (rest := []) (lenOf pd_2 rfl) rfl (by show 2 * 0 + _ ≤ _; exact Nat.le_of_eq rfl) (hb hby at_26) (fun _ _ => ⟨rfl, rfl, (by decide : 2 + 0 ≤ _), (by decide : 6 + 0 ≤ _)⟩)
  dsimp only [Pt.U, Pt.locs, Pt.cells, Pt.slots] at X7 l7 y7 z7 st7 hQ7
  subst l7 y7 z7
  obtain ⟨rfl, N7q, e7⟩ := hQ7
  have N7 := Fr.app N6 N7q
  refine Goes.via st7 ?_
  show Goes p.tables e below (T7.setTop (mkF m 29 #[.val (.int ps), .val (.int pe), .val (.int pd), .val (.int x4), .unset, .unset, .unset, .unset, .unset, .unset, .unset, .unset] [(.int (((((31 : Int32) * ps) + pe) * (31 : Int32)) + (pd + (1 : Int32))))])) _
  obtain ⟨x8, hx8⟩ : ∃ z : Int32, z = (((((31 : Int32) * ps) + pe) * (31 : Int32)) + (pd + (1 : Int32))) := ⟨_, rfl⟩
  refine Goes.by (fun _ k => XS.istore X7.here hx rfl (hb hby at_29) rfl (l' := #[.val (.int ps), .val (.int pe), .val (.int pd), .val (.int x4), .val (.int x8), .unset, .unset, .unset, .unset, .unset, .unset, .unset]) (by rw [hx8]; rfl) k) ?_
  show Goes p.tables e below (T7.setTop (mkF m 31 #[.val (.int ps), .val (.int pe), .val (.int pd), .val (.int x4), .val (.int x8), .unset, .unset, .unset, .unset, .unset, .unset, .unset] [])) _
  obtain ⟨T9, h9, X9, e9, E9, A9, D9, -, st9⟩ := newO X7 hx hZ hown (hw _ (List.mem_of_getElem? (i := 0) rfl)) (hw _ (List.mem_of_getElem? (i := 1) rfl)) (hw _ (List.mem_of_getElem? (i := 2) rfl)) e7 (g := (mkF m 31 #[.val (.int ps), .val (.int pe), .val (.int pd), .val (.int x4), .val (.int x8), .unset, .unset, .unset, .unset, .unset, .unset, .unset] [])) rfl (hb hby at_31) (by decide) (by decide)
  obtain ⟨b9, g9⟩ : ∃ z, z = T6.heap.size := ⟨_, rfl⟩
  rw [← g9] at A9 D9 st9
  have g_b9 : n0 ≤ b9 := Nat.le_trans Zs6 (Nat.le_of_eq g9.symm)
  have sz_b9 : h0.size ≤ b9 := Nat.le_trans K6.1 (Nat.le_of_eq g9.symm)
  have ne_b1_b9 : b1 ≠ b9 := Nat.ne_of_lt (Nat.lt_of_lt_of_le E_b1.lt (Nat.le_of_eq g9.symm))
  have ne_b5_b9 : b5 ≠ b9 := Nat.ne_of_lt (Nat.lt_of_lt_of_le E_b5.lt (Nat.le_of_eq g9.symm))
  have Zs9 : n0 ≤ h9.size := Nat.le_trans Zs6 E9.1
  have K9 : Keep h0 h9 [] := K6.ext E9
  refine Goes.by st9 ?_
  have E_b1 : Exa Z h9 b1 "com/example/treewrite/treewrite/document/Identifier" := E_b1.ext E9
  have F_b1_start : Fld Z h9 b1 "com/example/treewrite/treewrite/document/Identifier" "start" "I" (.int ps) := F_b1_start.ext E9
  have F_b1_end : Fld Z h9 b1 "com/example/treewrite/treewrite/document/Identifier" "end" "I" (.int pe) := F_b1_end.ext E9
  have F_b1_depth : Fld Z h9 b1 "com/example/treewrite/treewrite/document/Identifier" "depth" "I" (.int pd) := F_b1_depth.ext E9
  have E_b5 : Exa Z h9 b5 "com/example/treewrite/treewrite/document/Identifier" := E_b5.ext E9
  have F_b5_start : Fld Z h9 b5 "com/example/treewrite/treewrite/document/Identifier" "start" "I" (.int ps) := F_b5_start.ext E9
  have F_b5_end : Fld Z h9 b5 "com/example/treewrite/treewrite/document/Identifier" "end" "I" (.int pe) := F_b5_end.ext E9
  have F_b5_depth : Fld Z h9 b5 "com/example/treewrite/treewrite/document/Identifier" "depth" "I" (.int (pd + (1 : Int32))) := F_b5_depth.ext E9
  have E_b9 : Exa Z h9 b9 "com/example/treewrite/treewrite/document/Identifier" := A9
  have F_b9_start : Fld Z h9 b9 "com/example/treewrite/treewrite/document/Identifier" "start" "I" (.int (0 : Int32)) := D9 (Or.inr (hw _ (List.mem_of_getElem? (i := 15) rfl))) (ty := .int) (by decide)
  have F_b9_end : Fld Z h9 b9 "com/example/treewrite/treewrite/document/Identifier" "end" "I" (.int (0 : Int32)) := D9 (Or.inr (hw _ (List.mem_of_getElem? (i := 17) rfl))) (ty := .int) (by decide)
  have F_b9_depth : Fld Z h9 b9 "com/example/treewrite/treewrite/document/Identifier" "depth" "I" (.int (0 : Int32)) := D9 (Or.inr (hw _ (List.mem_of_getElem? (i := 19) rfl))) (ty := .int) (by decide)
  show Goes p.tables e below (T9.setTop (mkF m 34 #[.val (.int ps), .val (.int pe), .val (.int pd), .val (.int x4), .val (.int x8), .unset, .unset, .unset, .unset, .unset, .unset, .unset] [(.ref b9)])) _
  refine Goes.by (fun _ k => XS.dup X9.here hx rfl (hb hby at_34) rfl rfl k) ?_
  show Goes p.tables e below (T9.setTop (mkF m 35 #[.val (.int ps), .val (.int pe), .val (.int pd), .val (.int x4), .val (.int x8), .unset, .unset, .unset, .unset, .unset, .unset, .unset] [(.ref b9), (.ref b9)])) _
  refine Goes.by (fun _ k => XS.iloadN X9.here hx rfl (hb hby at_35) rfl k) ?_
  show Goes p.tables e below (T9.setTop (mkF m 36 #[.val (.int ps), .val (.int pe), .val (.int pd), .val (.int x4), .val (.int x8), .unset, .unset, .unset, .unset, .unset, .unset, .unset] [(.int ps), (.ref b9), (.ref b9)])) _
  refine Goes.by (fun _ k => XS.iloadN X9.here hx rfl (hb hby at_36) rfl k) ?_
  show Goes p.tables e below (T9.setTop (mkF m 37 #[.val (.int ps), .val (.int pe), .val (.int pd), .val (.int x4), .val (.int x8), .unset, .unset, .unset, .unset, .unset, .unset, .unset] [(.int pe), (.int ps), (.ref b9), (.ref b9)])) _
  refine Goes.by (fun _ k => XS.iconst X9.here hx rfl (hb hby at_37) k) ?_
  show Goes p.tables e below (T9.setTop (mkF m 38 #[.val (.int ps), .val (.int pe), .val (.int pd), .val (.int x4), .val (.int x8), .unset, .unset, .unset, .unset, .unset, .unset, .unset] [(.int (1 : Int32)), (.int pe), (.int ps), (.ref b9), (.ref b9)])) _
  refine Goes.by (fun _ k => XS.iadd X9.here hx rfl (hb hby at_38) rfl k) ?_
  show Goes p.tables e below (T9.setTop (mkF m 39 #[.val (.int ps), .val (.int pe), .val (.int pd), .val (.int x4), .val (.int x8), .unset, .unset, .unset, .unset, .unset, .unset, .unset] [(.int (pe + (1 : Int32))), (.int ps), (.ref b9), (.ref b9)])) _
  refine Goes.by (fun _ k => XS.iloadN X9.here hx rfl (hb hby at_39) rfl k) ?_
  show Goes p.tables e below (T9.setTop (mkF m 40 #[.val (.int ps), .val (.int pe), .val (.int pd), .val (.int x4), .val (.int x8), .unset, .unset, .unset, .unset, .unset, .unset, .unset] [(.int pd), (.int (pe + (1 : Int32))), (.int ps), (.ref b9), (.ref b9)])) _
  obtain ⟨_, _, ⟨T10, L10, k10, n10⟩, -, X10, ⟨Lc10, hQ10, l10, y10, z10⟩, st10⟩ := X9.specialBack hx (y := (⟨"com/example/treewrite/treewrite/document/Identifier", "<init>", "(III)V"⟩ : MethodName)) rfl hown (mvT hZ (hw _ (List.mem_of_getElem? (i := 3) rfl))) (mvT hZ (hw _ (List.mem_of_getElem? (i := 4) rfl))) (mvT hZ (hw _ (List.mem_of_getElem? (i := 5) rfl))) (by decide) (backOf (W := 1) (rm1 l Z a0 hw [] b9 ps (pe + (1 : Int32)) pd h9 n0 Zs9 E_b9 F_b9_start F_b9_end F_b9_depth g_b9) hZ (hw _ (List.mem_of_getElem? (i := 5) rfl)) (hw _ (List.mem_of_getElem? (i := 2) rfl)) (by decide) (by decide)) (g := (mkF m 40 #[.val (.int ps), .val (.int pe), .val (.int pd), .val (.int x4), .val (.int x8), .unset, .unset, .unset, .unset, .unset, .unset, .unset] [(.int pd), (.int (pe + (1 : Int32))), (.int ps), (.ref b9), (.ref b9)])) rfl (by rw [hml]; rfl) (Steps.refl _) (a := b9) (argsL := [(.int ps), (.int (pe + (1 : Int32))), (.int pd)]) (rest := [(.ref b9)]) (lenOf pd_1 rfl) rfl (by show 2 * 0 + _ ≤ _; exact Nat.le_of_eq rfl) (hb hby at_40) (fun _ _ => ⟨rfl, e9, (by decide : 3 + 0 ≤ _), (by decide : 9 + 0 ≤ _)⟩)
  dsimp only [Pt.U, Pt.locs, Pt.cells, Pt.slots] at X10 l10 y10 z10 st10 hQ10
  subst l10 y10 z10
  obtain ⟨rfl, N10q, Kq10, po10_0, po10_1, po10_2, po10_3⟩ := hQ10
  have N10 := Fr.app N7 N10q
  refine Goes.via st10 ?_
  have Zs10 : n0 ≤ T10.heap.size := Nat.le_trans Zs9 Kq10.1
  have K10 : Keep h0 T10.heap [] := K9.trans Kq10 (allS (Or.inr sz_b9) all0)
  have E_b1 : Exa Z T10.heap b1 "com/example/treewrite/treewrite/document/Identifier" := E_b1.keep Kq10
  have F_b1_start : Fld Z T10.heap b1 "com/example/treewrite/treewrite/document/Identifier" "start" "I" (.int ps) := F_b1_start.keep Kq10 (ninS ne_b1_b9 nin0)
  have F_b1_end : Fld Z T10.heap b1 "com/example/treewrite/treewrite/document/Identifier" "end" "I" (.int pe) := F_b1_end.keep Kq10 (ninS ne_b1_b9 nin0)
  have F_b1_depth : Fld Z T10.heap b1 "com/example/treewrite/treewrite/document/Identifier" "depth" "I" (.int pd) := F_b1_depth.keep Kq10 (ninS ne_b1_b9 nin0)
  have E_b5 : Exa Z T10.heap b5 "com/example/treewrite/treewrite/document/Identifier" := E_b5.keep Kq10
  have F_b5_start : Fld Z T10.heap b5 "com/example/treewrite/treewrite/document/Identifier" "start" "I" (.int ps) := F_b5_start.keep Kq10 (ninS ne_b5_b9 nin0)
  have F_b5_end : Fld Z T10.heap b5 "com/example/treewrite/treewrite/document/Identifier" "end" "I" (.int pe) := F_b5_end.keep Kq10 (ninS ne_b5_b9 nin0)
  have F_b5_depth : Fld Z T10.heap b5 "com/example/treewrite/treewrite/document/Identifier" "depth" "I" (.int (pd + (1 : Int32))) := F_b5_depth.keep Kq10 (ninS ne_b5_b9 nin0)
  have E_b9 : Exa Z T10.heap b9 "com/example/treewrite/treewrite/document/Identifier" := E_b9.keep Kq10
  have E_b9 : Exa Z T10.heap b9 "com/example/treewrite/treewrite/document/Identifier" := po10_0
  have F_b9_start : Fld Z T10.heap b9 "com/example/treewrite/treewrite/document/Identifier" "start" "I" (.int ps) := po10_1
  have F_b9_end : Fld Z T10.heap b9 "com/example/treewrite/treewrite/document/Identifier" "end" "I" (.int (pe + (1 : Int32))) := po10_2
  have F_b9_depth : Fld Z T10.heap b9 "com/example/treewrite/treewrite/document/Identifier" "depth" "I" (.int pd) := po10_3
  show Goes p.tables e below (T10.setTop (mkF m 43 #[.val (.int ps), .val (.int pe), .val (.int pd), .val (.int x4), .val (.int x8), .unset, .unset, .unset, .unset, .unset, .unset, .unset] [(.ref b9)])) _
  obtain ⟨cq11, kq11, q11a, q11b, q11c⟩ := isOf hZ rfl E_b9
  obtain ⟨_, _, ⟨T11, L11, k11, n11⟩, -, X11, ⟨Lc11, hQ11, l11, y11, z11⟩, st11⟩ := X10.virtualBack hx (y := (⟨"com/example/treewrite/treewrite/document/Identifier", "hashCode", "()I"⟩ : MethodName)) (z := (⟨"com/example/treewrite/treewrite/document/Identifier", "hashCode", "()I"⟩ : MethodName)) hown (mvT hZ (hw _ (List.mem_of_getElem? (i := 20) rfl))) (mvT hZ (hw _ (List.mem_of_getElem? (i := 21) rfl))) (notFace_of_selects (args := #[]) (mvT hZ (hw _ (List.mem_of_getElem? (i := 23) rfl)))) (mvT hZ (hw _ (List.mem_of_getElem? (i := 23) rfl))) (mvT hZ (hw _ (List.mem_of_getElem? (i := 22) rfl))) (by decide) (backOf (W := 0) (rm4 l Z a0 hw [] b9 ps (pe + (1 : Int32)) pd T10.heap n0 Zs10 F_b9_start F_b9_end F_b9_depth) hZ (hw _ (List.mem_of_getElem? (i := 24) rfl)) (hw _ (List.mem_of_getElem? (i := 2) rfl)) (by decide) (by decide)) q11a q11c (g := (mkF m 43 #[.val (.int ps), .val (.int pe), .val (.int pd), .val (.int x4), .val (.int x8), .unset, .unset, .unset, .unset, .unset, .unset, .unset] [(.ref b9)])) rfl (by rw [hml]; rfl) (Steps.refl _) (argsL := []) (rest := []) (lenOf pd_2 rfl) rfl (by show 2 * 0 + _ ≤ _; exact Nat.le_of_eq rfl) (hb hby at_43) (fun _ _ => ⟨rfl, rfl, (by decide : 3 + 0 ≤ _), (by decide : 9 + 0 ≤ _)⟩)
  dsimp only [Pt.U, Pt.locs, Pt.cells, Pt.slots] at X11 l11 y11 z11 st11 hQ11
  subst l11 y11 z11
  obtain ⟨rfl, N11q, e11⟩ := hQ11
  have N11 := Fr.app N10 N11q
  refine Goes.via st11 ?_
  show Goes p.tables e below (T11.setTop (mkF m 46 #[.val (.int ps), .val (.int pe), .val (.int pd), .val (.int x4), .val (.int x8), .unset, .unset, .unset, .unset, .unset, .unset, .unset] [(.int (((((31 : Int32) * ps) + (pe + (1 : Int32))) * (31 : Int32)) + pd))])) _
  obtain ⟨x12, hx12⟩ : ∃ z : Int32, z = (((((31 : Int32) * ps) + (pe + (1 : Int32))) * (31 : Int32)) + pd) := ⟨_, rfl⟩
  refine Goes.by (fun _ k => XS.istore X11.here hx rfl (hb hby at_46) rfl (l' := #[.val (.int ps), .val (.int pe), .val (.int pd), .val (.int x4), .val (.int x8), .val (.int x12), .unset, .unset, .unset, .unset, .unset, .unset]) (by rw [hx12]; rfl) k) ?_
  show Goes p.tables e below (T11.setTop (mkF m 48 #[.val (.int ps), .val (.int pe), .val (.int pd), .val (.int x4), .val (.int x8), .val (.int x12), .unset, .unset, .unset, .unset, .unset, .unset] [])) _
  obtain ⟨T13, h13, X13, e13, E13, A13, D13, -, st13⟩ := newO X11 hx hZ hown (hw _ (List.mem_of_getElem? (i := 0) rfl)) (hw _ (List.mem_of_getElem? (i := 1) rfl)) (hw _ (List.mem_of_getElem? (i := 2) rfl)) e11 (g := (mkF m 48 #[.val (.int ps), .val (.int pe), .val (.int pd), .val (.int x4), .val (.int x8), .val (.int x12), .unset, .unset, .unset, .unset, .unset, .unset] [])) rfl (hb hby at_48) (by decide) (by decide)
  obtain ⟨b13, g13⟩ : ∃ z, z = T10.heap.size := ⟨_, rfl⟩
  rw [← g13] at A13 D13 st13
  have g_b13 : n0 ≤ b13 := Nat.le_trans Zs10 (Nat.le_of_eq g13.symm)
  have sz_b13 : h0.size ≤ b13 := Nat.le_trans K10.1 (Nat.le_of_eq g13.symm)
  have ne_b1_b13 : b1 ≠ b13 := Nat.ne_of_lt (Nat.lt_of_lt_of_le E_b1.lt (Nat.le_of_eq g13.symm))
  have ne_b5_b13 : b5 ≠ b13 := Nat.ne_of_lt (Nat.lt_of_lt_of_le E_b5.lt (Nat.le_of_eq g13.symm))
  have ne_b9_b13 : b9 ≠ b13 := Nat.ne_of_lt (Nat.lt_of_lt_of_le E_b9.lt (Nat.le_of_eq g13.symm))
  have Zs13 : n0 ≤ h13.size := Nat.le_trans Zs10 E13.1
  have K13 : Keep h0 h13 [] := K10.ext E13
  refine Goes.by st13 ?_
  have E_b1 : Exa Z h13 b1 "com/example/treewrite/treewrite/document/Identifier" := E_b1.ext E13
  have F_b1_start : Fld Z h13 b1 "com/example/treewrite/treewrite/document/Identifier" "start" "I" (.int ps) := F_b1_start.ext E13
  have F_b1_end : Fld Z h13 b1 "com/example/treewrite/treewrite/document/Identifier" "end" "I" (.int pe) := F_b1_end.ext E13
  have F_b1_depth : Fld Z h13 b1 "com/example/treewrite/treewrite/document/Identifier" "depth" "I" (.int pd) := F_b1_depth.ext E13
  have E_b5 : Exa Z h13 b5 "com/example/treewrite/treewrite/document/Identifier" := E_b5.ext E13
  have F_b5_start : Fld Z h13 b5 "com/example/treewrite/treewrite/document/Identifier" "start" "I" (.int ps) := F_b5_start.ext E13
  have F_b5_end : Fld Z h13 b5 "com/example/treewrite/treewrite/document/Identifier" "end" "I" (.int pe) := F_b5_end.ext E13
  have F_b5_depth : Fld Z h13 b5 "com/example/treewrite/treewrite/document/Identifier" "depth" "I" (.int (pd + (1 : Int32))) := F_b5_depth.ext E13
  have E_b9 : Exa Z h13 b9 "com/example/treewrite/treewrite/document/Identifier" := E_b9.ext E13
  have F_b9_start : Fld Z h13 b9 "com/example/treewrite/treewrite/document/Identifier" "start" "I" (.int ps) := F_b9_start.ext E13
  have F_b9_end : Fld Z h13 b9 "com/example/treewrite/treewrite/document/Identifier" "end" "I" (.int (pe + (1 : Int32))) := F_b9_end.ext E13
  have F_b9_depth : Fld Z h13 b9 "com/example/treewrite/treewrite/document/Identifier" "depth" "I" (.int pd) := F_b9_depth.ext E13
  have E_b13 : Exa Z h13 b13 "com/example/treewrite/treewrite/document/Identifier" := A13
  have F_b13_start : Fld Z h13 b13 "com/example/treewrite/treewrite/document/Identifier" "start" "I" (.int (0 : Int32)) := D13 (Or.inr (hw _ (List.mem_of_getElem? (i := 15) rfl))) (ty := .int) (by decide)
  have F_b13_end : Fld Z h13 b13 "com/example/treewrite/treewrite/document/Identifier" "end" "I" (.int (0 : Int32)) := D13 (Or.inr (hw _ (List.mem_of_getElem? (i := 17) rfl))) (ty := .int) (by decide)
  have F_b13_depth : Fld Z h13 b13 "com/example/treewrite/treewrite/document/Identifier" "depth" "I" (.int (0 : Int32)) := D13 (Or.inr (hw _ (List.mem_of_getElem? (i := 19) rfl))) (ty := .int) (by decide)
  show Goes p.tables e below (T13.setTop (mkF m 51 #[.val (.int ps), .val (.int pe), .val (.int pd), .val (.int x4), .val (.int x8), .val (.int x12), .unset, .unset, .unset, .unset, .unset, .unset] [(.ref b13)])) _
  refine Goes.by (fun _ k => XS.dup X13.here hx rfl (hb hby at_51) rfl rfl k) ?_
  show Goes p.tables e below (T13.setTop (mkF m 52 #[.val (.int ps), .val (.int pe), .val (.int pd), .val (.int x4), .val (.int x8), .val (.int x12), .unset, .unset, .unset, .unset, .unset, .unset] [(.ref b13), (.ref b13)])) _
  refine Goes.by (fun _ k => XS.iloadN X13.here hx rfl (hb hby at_52) rfl k) ?_
  show Goes p.tables e below (T13.setTop (mkF m 53 #[.val (.int ps), .val (.int pe), .val (.int pd), .val (.int x4), .val (.int x8), .val (.int x12), .unset, .unset, .unset, .unset, .unset, .unset] [(.int ps), (.ref b13), (.ref b13)])) _
  refine Goes.by (fun _ k => XS.iconst X13.here hx rfl (hb hby at_53) k) ?_
  show Goes p.tables e below (T13.setTop (mkF m 54 #[.val (.int ps), .val (.int pe), .val (.int pd), .val (.int x4), .val (.int x8), .val (.int x12), .unset, .unset, .unset, .unset, .unset, .unset] [(.int (1 : Int32)), (.int ps), (.ref b13), (.ref b13)])) _
  refine Goes.by (fun _ k => XS.iadd X13.here hx rfl (hb hby at_54) rfl k) ?_
  show Goes p.tables e below (T13.setTop (mkF m 55 #[.val (.int ps), .val (.int pe), .val (.int pd), .val (.int x4), .val (.int x8), .val (.int x12), .unset, .unset, .unset, .unset, .unset, .unset] [(.int (ps + (1 : Int32))), (.ref b13), (.ref b13)])) _
  refine Goes.by (fun _ k => XS.iloadN X13.here hx rfl (hb hby at_55) rfl k) ?_
  show Goes p.tables e below (T13.setTop (mkF m 56 #[.val (.int ps), .val (.int pe), .val (.int pd), .val (.int x4), .val (.int x8), .val (.int x12), .unset, .unset, .unset, .unset, .unset, .unset] [(.int pe), (.int (ps + (1 : Int32))), (.ref b13), (.ref b13)])) _
  refine Goes.by (fun _ k => XS.iloadN X13.here hx rfl (hb hby at_56) rfl k) ?_
  show Goes p.tables e below (T13.setTop (mkF m 57 #[.val (.int ps), .val (.int pe), .val (.int pd), .val (.int x4), .val (.int x8), .val (.int x12), .unset, .unset, .unset, .unset, .unset, .unset] [(.int pd), (.int pe), (.int (ps + (1 : Int32))), (.ref b13), (.ref b13)])) _
  obtain ⟨_, _, ⟨T14, L14, k14, n14⟩, -, X14, ⟨Lc14, hQ14, l14, y14, z14⟩, st14⟩ := X13.specialBack hx (y := (⟨"com/example/treewrite/treewrite/document/Identifier", "<init>", "(III)V"⟩ : MethodName)) rfl hown (mvT hZ (hw _ (List.mem_of_getElem? (i := 3) rfl))) (mvT hZ (hw _ (List.mem_of_getElem? (i := 4) rfl))) (mvT hZ (hw _ (List.mem_of_getElem? (i := 5) rfl))) (by decide) (backOf (W := 1) (rm1 l Z a0 hw [] b13 (ps + (1 : Int32)) pe pd h13 n0 Zs13 E_b13 F_b13_start F_b13_end F_b13_depth g_b13) hZ (hw _ (List.mem_of_getElem? (i := 5) rfl)) (hw _ (List.mem_of_getElem? (i := 2) rfl)) (by decide) (by decide)) (g := (mkF m 57 #[.val (.int ps), .val (.int pe), .val (.int pd), .val (.int x4), .val (.int x8), .val (.int x12), .unset, .unset, .unset, .unset, .unset, .unset] [(.int pd), (.int pe), (.int (ps + (1 : Int32))), (.ref b13), (.ref b13)])) rfl (by rw [hml]; rfl) (Steps.refl _) (a := b13) (argsL := [(.int (ps + (1 : Int32))), (.int pe), (.int pd)]) (rest := [(.ref b13)]) (lenOf pd_1 rfl) rfl (by show 2 * 0 + _ ≤ _; exact Nat.le_of_eq rfl) (hb hby at_57) (fun _ _ => ⟨rfl, e13, (by decide : 4 + 0 ≤ _), (by decide : 12 + 0 ≤ _)⟩)
  dsimp only [Pt.U, Pt.locs, Pt.cells, Pt.slots] at X14 l14 y14 z14 st14 hQ14
  subst l14 y14 z14
  obtain ⟨rfl, N14q, Kq14, po14_0, po14_1, po14_2, po14_3⟩ := hQ14
  have N14 := Fr.app N11 N14q
  refine Goes.via st14 ?_
  have Zs14 : n0 ≤ T14.heap.size := Nat.le_trans Zs13 Kq14.1
  have K14 : Keep h0 T14.heap [] := K13.trans Kq14 (allS (Or.inr sz_b13) all0)
  have E_b1 : Exa Z T14.heap b1 "com/example/treewrite/treewrite/document/Identifier" := E_b1.keep Kq14
  have F_b1_start : Fld Z T14.heap b1 "com/example/treewrite/treewrite/document/Identifier" "start" "I" (.int ps) := F_b1_start.keep Kq14 (ninS ne_b1_b13 nin0)
  have F_b1_end : Fld Z T14.heap b1 "com/example/treewrite/treewrite/document/Identifier" "end" "I" (.int pe) := F_b1_end.keep Kq14 (ninS ne_b1_b13 nin0)
  have F_b1_depth : Fld Z T14.heap b1 "com/example/treewrite/treewrite/document/Identifier" "depth" "I" (.int pd) := F_b1_depth.keep Kq14 (ninS ne_b1_b13 nin0)
  have E_b5 : Exa Z T14.heap b5 "com/example/treewrite/treewrite/document/Identifier" := E_b5.keep Kq14
  have F_b5_start : Fld Z T14.heap b5 "com/example/treewrite/treewrite/document/Identifier" "start" "I" (.int ps) := F_b5_start.keep Kq14 (ninS ne_b5_b13 nin0)
  have F_b5_end : Fld Z T14.heap b5 "com/example/treewrite/treewrite/document/Identifier" "end" "I" (.int pe) := F_b5_end.keep Kq14 (ninS ne_b5_b13 nin0)
  have F_b5_depth : Fld Z T14.heap b5 "com/example/treewrite/treewrite/document/Identifier" "depth" "I" (.int (pd + (1 : Int32))) := F_b5_depth.keep Kq14 (ninS ne_b5_b13 nin0)
  have E_b9 : Exa Z T14.heap b9 "com/example/treewrite/treewrite/document/Identifier" := E_b9.keep Kq14
  have F_b9_start : Fld Z T14.heap b9 "com/example/treewrite/treewrite/document/Identifier" "start" "I" (.int ps) := F_b9_start.keep Kq14 (ninS ne_b9_b13 nin0)
  have F_b9_end : Fld Z T14.heap b9 "com/example/treewrite/treewrite/document/Identifier" "end" "I" (.int (pe + (1 : Int32))) := F_b9_end.keep Kq14 (ninS ne_b9_b13 nin0)
  have F_b9_depth : Fld Z T14.heap b9 "com/example/treewrite/treewrite/document/Identifier" "depth" "I" (.int pd) := F_b9_depth.keep Kq14 (ninS ne_b9_b13 nin0)
  have E_b13 : Exa Z T14.heap b13 "com/example/treewrite/treewrite/document/Identifier" := E_b13.keep Kq14
  have E_b13 : Exa Z T14.heap b13 "com/example/treewrite/treewrite/document/Identifier" := po14_0
  have F_b13_start : Fld Z T14.heap b13 "com/example/treewrite/treewrite/document/Identifier" "start" "I" (.int (ps + (1 : Int32))) := po14_1
  have F_b13_end : Fld Z T14.heap b13 "com/example/treewrite/treewrite/document/Identifier" "end" "I" (.int pe) := po14_2
  have F_b13_depth : Fld Z T14.heap b13 "com/example/treewrite/treewrite/document/Identifier" "depth" "I" (.int pd) := po14_3
  show Goes p.tables e below (T14.setTop (mkF m 60 #[.val (.int ps), .val (.int pe), .val (.int pd), .val (.int x4), .val (.int x8), .val (.int x12), .unset, .unset, .unset, .unset, .unset, .unset] [(.ref b13)])) _
  obtain ⟨cq15, kq15, q15a, q15b, q15c⟩ := isOf hZ rfl E_b13
  obtain ⟨_, _, ⟨T15, L15, k15, n15⟩, -, X15, ⟨Lc15, hQ15, l15, y15, z15⟩, st15⟩ := X14.virtualBack hx (y := (⟨"com/example/treewrite/treewrite/document/Identifier", "hashCode", "()I"⟩ : MethodName)) (z := (⟨"com/example/treewrite/treewrite/document/Identifier", "hashCode", "()I"⟩ : MethodName)) hown (mvT hZ (hw _ (List.mem_of_getElem? (i := 20) rfl))) (mvT hZ (hw _ (List.mem_of_getElem? (i := 21) rfl))) (notFace_of_selects (args := #[]) (mvT hZ (hw _ (List.mem_of_getElem? (i := 23) rfl)))) (mvT hZ (hw _ (List.mem_of_getElem? (i := 23) rfl))) (mvT hZ (hw _ (List.mem_of_getElem? (i := 22) rfl))) (by decide) (backOf (W := 0) (rm4 l Z a0 hw [] b13 (ps + (1 : Int32)) pe pd T14.heap n0 Zs14 F_b13_start F_b13_end F_b13_depth) hZ (hw _ (List.mem_of_getElem? (i := 24) rfl)) (hw _ (List.mem_of_getElem? (i := 2) rfl)) (by decide) (by decide)) q15a q15c (g := (mkF m 60 #[.val (.int ps), .val (.int pe), .val (.int pd), .val (.int x4), .val (.int x8), .val (.int x12), .unset, .unset, .unset, .unset, .unset, .unset] [(.ref b13)])) rfl (by rw [hml]; rfl) (Steps.refl _) (argsL := []) (rest := []) (lenOf pd_2 rfl) rfl (by show 2 * 0 + _ ≤ _; exact Nat.le_of_eq rfl) (hb hby at_60) (fun _ _ => ⟨rfl, rfl, (by decide : 4 + 0 ≤ _), (by decide : 12 + 0 ≤ _)⟩)
  dsimp only [Pt.U, Pt.locs, Pt.cells, Pt.slots] at X15 l15 y15 z15 st15 hQ15
  subst l15 y15 z15
  obtain ⟨rfl, N15q, e15⟩ := hQ15
  have N15 := Fr.app N14 N15q
  refine Goes.via st15 ?_
  show Goes p.tables e below (T15.setTop (mkF m 63 #[.val (.int ps), .val (.int pe), .val (.int pd), .val (.int x4), .val (.int x8), .val (.int x12), .unset, .unset, .unset, .unset, .unset, .unset] [(.int (((((31 : Int32) * (ps + (1 : Int32))) + pe) * (31 : Int32)) + pd))])) _
  obtain ⟨x16, hx16⟩ : ∃ z : Int32, z = (((((31 : Int32) * (ps + (1 : Int32))) + pe) * (31 : Int32)) + pd) := ⟨_, rfl⟩
  refine Goes.by (fun _ k => XS.istore X15.here hx rfl (hb hby at_63) rfl (l' := #[.val (.int ps), .val (.int pe), .val (.int pd), .val (.int x4), .val (.int x8), .val (.int x12), .val (.int x16), .unset, .unset, .unset, .unset, .unset]) (by rw [hx16]; rfl) k) ?_
  show Goes p.tables e below (T15.setTop (mkF m 65 #[.val (.int ps), .val (.int pe), .val (.int pd), .val (.int x4), .val (.int x8), .val (.int x12), .val (.int x16), .unset, .unset, .unset, .unset, .unset] [])) _
  obtain ⟨T17, h17, X17, e17, E17, A17, D17, -, st17⟩ := newO X15 hx hZ hown (hw _ (List.mem_of_getElem? (i := 0) rfl)) (hw _ (List.mem_of_getElem? (i := 1) rfl)) (hw _ (List.mem_of_getElem? (i := 2) rfl)) e15 (g := (mkF m 65 #[.val (.int ps), .val (.int pe), .val (.int pd), .val (.int x4), .val (.int x8), .val (.int x12), .val (.int x16), .unset, .unset, .unset, .unset, .unset] [])) rfl (hb hby at_65) (by decide) (by decide)
  obtain ⟨b17, g17⟩ : ∃ z, z = T14.heap.size := ⟨_, rfl⟩
  rw [← g17] at A17 D17 st17
  have g_b17 : n0 ≤ b17 := Nat.le_trans Zs14 (Nat.le_of_eq g17.symm)
  have sz_b17 : h0.size ≤ b17 := Nat.le_trans K14.1 (Nat.le_of_eq g17.symm)
  have ne_b1_b17 : b1 ≠ b17 := Nat.ne_of_lt (Nat.lt_of_lt_of_le E_b1.lt (Nat.le_of_eq g17.symm))
  have ne_b5_b17 : b5 ≠ b17 := Nat.ne_of_lt (Nat.lt_of_lt_of_le E_b5.lt (Nat.le_of_eq g17.symm))
  have ne_b9_b17 : b9 ≠ b17 := Nat.ne_of_lt (Nat.lt_of_lt_of_le E_b9.lt (Nat.le_of_eq g17.symm))
  have ne_b13_b17 : b13 ≠ b17 := Nat.ne_of_lt (Nat.lt_of_lt_of_le E_b13.lt (Nat.le_of_eq g17.symm))
  have Zs17 : n0 ≤ h17.size := Nat.le_trans Zs14 E17.1
  have K17 : Keep h0 h17 [] := K14.ext E17
  refine Goes.by st17 ?_
  have E_b1 : Exa Z h17 b1 "com/example/treewrite/treewrite/document/Identifier" := E_b1.ext E17
  have F_b1_start : Fld Z h17 b1 "com/example/treewrite/treewrite/document/Identifier" "start" "I" (.int ps) := F_b1_start.ext E17
  have F_b1_end : Fld Z h17 b1 "com/example/treewrite/treewrite/document/Identifier" "end" "I" (.int pe) := F_b1_end.ext E17
  have F_b1_depth : Fld Z h17 b1 "com/example/treewrite/treewrite/document/Identifier" "depth" "I" (.int pd) := F_b1_depth.ext E17
  have E_b5 : Exa Z h17 b5 "com/example/treewrite/treewrite/document/Identifier" := E_b5.ext E17
  have F_b5_start : Fld Z h17 b5 "com/example/treewrite/treewrite/document/Identifier" "start" "I" (.int ps) := F_b5_start.ext E17
  have F_b5_end : Fld Z h17 b5 "com/example/treewrite/treewrite/document/Identifier" "end" "I" (.int pe) := F_b5_end.ext E17
  have F_b5_depth : Fld Z h17 b5 "com/example/treewrite/treewrite/document/Identifier" "depth" "I" (.int (pd + (1 : Int32))) := F_b5_depth.ext E17
  have E_b9 : Exa Z h17 b9 "com/example/treewrite/treewrite/document/Identifier" := E_b9.ext E17
  have F_b9_start : Fld Z h17 b9 "com/example/treewrite/treewrite/document/Identifier" "start" "I" (.int ps) := F_b9_start.ext E17
  have F_b9_end : Fld Z h17 b9 "com/example/treewrite/treewrite/document/Identifier" "end" "I" (.int (pe + (1 : Int32))) := F_b9_end.ext E17
  have F_b9_depth : Fld Z h17 b9 "com/example/treewrite/treewrite/document/Identifier" "depth" "I" (.int pd) := F_b9_depth.ext E17
  have E_b13 : Exa Z h17 b13 "com/example/treewrite/treewrite/document/Identifier" := E_b13.ext E17
  have F_b13_start : Fld Z h17 b13 "com/example/treewrite/treewrite/document/Identifier" "start" "I" (.int (ps + (1 : Int32))) := F_b13_start.ext E17
  have F_b13_end : Fld Z h17 b13 "com/example/treewrite/treewrite/document/Identifier" "end" "I" (.int pe) := F_b13_end.ext E17
  have F_b13_depth : Fld Z h17 b13 "com/example/treewrite/treewrite/document/Identifier" "depth" "I" (.int pd) := F_b13_depth.ext E17
  have E_b17 : Exa Z h17 b17 "com/example/treewrite/treewrite/document/Identifier" := A17
  have F_b17_start : Fld Z h17 b17 "com/example/treewrite/treewrite/document/Identifier" "start" "I" (.int (0 : Int32)) := D17 (Or.inr (hw _ (List.mem_of_getElem? (i := 15) rfl))) (ty := .int) (by decide)
  have F_b17_end : Fld Z h17 b17 "com/example/treewrite/treewrite/document/Identifier" "end" "I" (.int (0 : Int32)) := D17 (Or.inr (hw _ (List.mem_of_getElem? (i := 17) rfl))) (ty := .int) (by decide)
  have F_b17_depth : Fld Z h17 b17 "com/example/treewrite/treewrite/document/Identifier" "depth" "I" (.int (0 : Int32)) := D17 (Or.inr (hw _ (List.mem_of_getElem? (i := 19) rfl))) (ty := .int) (by decide)
  show Goes p.tables e below (T17.setTop (mkF m 68 #[.val (.int ps), .val (.int pe), .val (.int pd), .val (.int x4), .val (.int x8), .val (.int x12), .val (.int x16), .unset, .unset, .unset, .unset, .unset] [(.ref b17)])) _
  refine Goes.by (fun _ k => XS.dup X17.here hx rfl (hb hby at_68) rfl rfl k) ?_
  show Goes p.tables e below (T17.setTop (mkF m 69 #[.val (.int ps), .val (.int pe), .val (.int pd), .val (.int x4), .val (.int x8), .val (.int x12), .val (.int x16), .unset, .unset, .unset, .unset, .unset] [(.ref b17), (.ref b17)])) _
  refine Goes.by (fun _ k => XS.iconst X17.here hx rfl (hb hby at_69) k) ?_
  show Goes p.tables e below (T17.setTop (mkF m 70 #[.val (.int ps), .val (.int pe), .val (.int pd), .val (.int x4), .val (.int x8), .val (.int x12), .val (.int x16), .unset, .unset, .unset, .unset, .unset] [(.int (0 : Int32)), (.ref b17), (.ref b17)])) _
  refine Goes.by (fun _ k => XS.iconst X17.here hx rfl (hb hby at_70) k) ?_
  show Goes p.tables e below (T17.setTop (mkF m 71 #[.val (.int ps), .val (.int pe), .val (.int pd), .val (.int x4), .val (.int x8), .val (.int x12), .val (.int x16), .unset, .unset, .unset, .unset, .unset] [(.int (0 : Int32)), (.int (0 : Int32)), (.ref b17), (.ref b17)])) _
  refine Goes.by (fun _ k => XS.iconst X17.here hx rfl (hb hby at_71) k) ?_
  show Goes p.tables e below (T17.setTop (mkF m 72 #[.val (.int ps), .val (.int pe), .val (.int pd), .val (.int x4), .val (.int x8), .val (.int x12), .val (.int x16), .unset, .unset, .unset, .unset, .unset] [(.int (0 : Int32)), (.int (0 : Int32)), (.int (0 : Int32)), (.ref b17), (.ref b17)])) _
  obtain ⟨_, _, ⟨T18, L18, k18, n18⟩, -, X18, ⟨Lc18, hQ18, l18, y18, z18⟩, st18⟩ := X17.specialBack hx (y := (⟨"com/example/treewrite/treewrite/document/Identifier", "<init>", "(III)V"⟩ : MethodName)) rfl hown (mvT hZ (hw _ (List.mem_of_getElem? (i := 3) rfl))) (mvT hZ (hw _ (List.mem_of_getElem? (i := 4) rfl))) (mvT hZ (hw _ (List.mem_of_getElem? (i := 5) rfl))) (by decide) (backOf (W := 1) (rm1 l Z a0 hw [] b17 (0 : Int32) (0 : Int32) (0 : Int32) h17 n0 Zs17 E_b17 F_b17_start F_b17_end F_b17_depth g_b17) hZ (hw _ (List.mem_of_getElem? (i := 5) rfl)) (hw _ (List.mem_of_getElem? (i := 2) rfl)) (by decide) (by decide)) (g := (mkF m 72 #[.val (.int ps), .val (.int pe), .val (.int pd), .val (.int x4), .val (.int x8), .val (.int x12), .val (.int x16), .unset, .unset, .unset, .unset, .unset] [(.int (0 : Int32)), (.int (0 : Int32)), (.int (0 : Int32)), (.ref b17), (.ref b17)])) rfl (by rw [hml]; rfl) (Steps.refl _) (a := b17) (argsL := [(.int (0 : Int32)), (.int (0 : Int32)), (.int (0 : Int32))]) (rest := [(.ref b17)]) (lenOf pd_1 rfl) rfl (by show 2 * 0 + _ ≤ _; exact Nat.le_of_eq rfl) (hb hby at_72) (fun _ _ => ⟨rfl, e17, (by decide : 5 + 0 ≤ _), (by decide : 15 + 0 ≤ _)⟩)
  dsimp only [Pt.U, Pt.locs, Pt.cells, Pt.slots] at X18 l18 y18 z18 st18 hQ18
  subst l18 y18 z18
  obtain ⟨rfl, N18q, Kq18, po18_0, po18_1, po18_2, po18_3⟩ := hQ18
  have N18 := Fr.app N15 N18q
  refine Goes.via st18 ?_
  have Zs18 : n0 ≤ T18.heap.size := Nat.le_trans Zs17 Kq18.1
  have K18 : Keep h0 T18.heap [] := K17.trans Kq18 (allS (Or.inr sz_b17) all0)
  have E_b1 : Exa Z T18.heap b1 "com/example/treewrite/treewrite/document/Identifier" := E_b1.keep Kq18
  have F_b1_start : Fld Z T18.heap b1 "com/example/treewrite/treewrite/document/Identifier" "start" "I" (.int ps) := F_b1_start.keep Kq18 (ninS ne_b1_b17 nin0)
  have F_b1_end : Fld Z T18.heap b1 "com/example/treewrite/treewrite/document/Identifier" "end" "I" (.int pe) := F_b1_end.keep Kq18 (ninS ne_b1_b17 nin0)
  have F_b1_depth : Fld Z T18.heap b1 "com/example/treewrite/treewrite/document/Identifier" "depth" "I" (.int pd) := F_b1_depth.keep Kq18 (ninS ne_b1_b17 nin0)
  have E_b5 : Exa Z T18.heap b5 "com/example/treewrite/treewrite/document/Identifier" := E_b5.keep Kq18
  have F_b5_start : Fld Z T18.heap b5 "com/example/treewrite/treewrite/document/Identifier" "start" "I" (.int ps) := F_b5_start.keep Kq18 (ninS ne_b5_b17 nin0)
  have F_b5_end : Fld Z T18.heap b5 "com/example/treewrite/treewrite/document/Identifier" "end" "I" (.int pe) := F_b5_end.keep Kq18 (ninS ne_b5_b17 nin0)
  have F_b5_depth : Fld Z T18.heap b5 "com/example/treewrite/treewrite/document/Identifier" "depth" "I" (.int (pd + (1 : Int32))) := F_b5_depth.keep Kq18 (ninS ne_b5_b17 nin0)
  have E_b9 : Exa Z T18.heap b9 "com/example/treewrite/treewrite/document/Identifier" := E_b9.keep Kq18
  have F_b9_start : Fld Z T18.heap b9 "com/example/treewrite/treewrite/document/Identifier" "start" "I" (.int ps) := F_b9_start.keep Kq18 (ninS ne_b9_b17 nin0)
  have F_b9_end : Fld Z T18.heap b9 "com/example/treewrite/treewrite/document/Identifier" "end" "I" (.int (pe + (1 : Int32))) := F_b9_end.keep Kq18 (ninS ne_b9_b17 nin0)
  have F_b9_depth : Fld Z T18.heap b9 "com/example/treewrite/treewrite/document/Identifier" "depth" "I" (.int pd) := F_b9_depth.keep Kq18 (ninS ne_b9_b17 nin0)
  have E_b13 : Exa Z T18.heap b13 "com/example/treewrite/treewrite/document/Identifier" := E_b13.keep Kq18
  have F_b13_start : Fld Z T18.heap b13 "com/example/treewrite/treewrite/document/Identifier" "start" "I" (.int (ps + (1 : Int32))) := F_b13_start.keep Kq18 (ninS ne_b13_b17 nin0)
  have F_b13_end : Fld Z T18.heap b13 "com/example/treewrite/treewrite/document/Identifier" "end" "I" (.int pe) := F_b13_end.keep Kq18 (ninS ne_b13_b17 nin0)
  have F_b13_depth : Fld Z T18.heap b13 "com/example/treewrite/treewrite/document/Identifier" "depth" "I" (.int pd) := F_b13_depth.keep Kq18 (ninS ne_b13_b17 nin0)
  have E_b17 : Exa Z T18.heap b17 "com/example/treewrite/treewrite/document/Identifier" := E_b17.keep Kq18
  have E_b17 : Exa Z T18.heap b17 "com/example/treewrite/treewrite/document/Identifier" := po18_0
  have F_b17_start : Fld Z T18.heap b17 "com/example/treewrite/treewrite/document/Identifier" "start" "I" (.int (0 : Int32)) := po18_1
  have F_b17_end : Fld Z T18.heap b17 "com/example/treewrite/treewrite/document/Identifier" "end" "I" (.int (0 : Int32)) := po18_2
  have F_b17_depth : Fld Z T18.heap b17 "com/example/treewrite/treewrite/document/Identifier" "depth" "I" (.int (0 : Int32)) := po18_3
  show Goes p.tables e below (T18.setTop (mkF m 75 #[.val (.int ps), .val (.int pe), .val (.int pd), .val (.int x4), .val (.int x8), .val (.int x12), .val (.int x16), .unset, .unset, .unset, .unset, .unset] [(.ref b17)])) _
  obtain ⟨cq19, kq19, q19a, q19b, q19c⟩ := isOf hZ rfl E_b17
  obtain ⟨_, _, ⟨T19, L19, k19, n19⟩, -, X19, ⟨Lc19, hQ19, l19, y19, z19⟩, st19⟩ := X18.virtualBack hx (y := (⟨"com/example/treewrite/treewrite/document/Identifier", "hashCode", "()I"⟩ : MethodName)) (z := (⟨"com/example/treewrite/treewrite/document/Identifier", "hashCode", "()I"⟩ : MethodName)) hown (mvT hZ (hw _ (List.mem_of_getElem? (i := 20) rfl))) (mvT hZ (hw _ (List.mem_of_getElem? (i := 21) rfl))) (notFace_of_selects (args := #[]) (mvT hZ (hw _ (List.mem_of_getElem? (i := 23) rfl)))) (mvT hZ (hw _ (List.mem_of_getElem? (i := 23) rfl))) (mvT hZ (hw _ (List.mem_of_getElem? (i := 22) rfl))) (by decide) (backOf (W := 0) (rm4 l Z a0 hw [] b17 (0 : Int32) (0 : Int32) (0 : Int32) T18.heap n0 Zs18 F_b17_start F_b17_end F_b17_depth) hZ (hw _ (List.mem_of_getElem? (i := 24) rfl)) (hw _ (List.mem_of_getElem? (i := 2) rfl)) (by decide) (by decide)) q19a q19c (g := (mkF m 75 #[.val (.int ps), .val (.int pe), .val (.int pd), .val (.int x4), .val (.int x8), .val (.int x12), .val (.int x16), .unset, .unset, .unset, .unset, .unset] [(.ref b17)])) rfl (by rw [hml]; rfl) (Steps.refl _) (argsL := []) (rest := []) (lenOf pd_2 rfl) rfl (by show 2 * 0 + _ ≤ _; exact Nat.le_of_eq rfl) (hb hby at_75) (fun _ _ => ⟨rfl, rfl, (by decide : 5 + 0 ≤ _), (by decide : 15 + 0 ≤ _)⟩)
  dsimp only [Pt.U, Pt.locs, Pt.cells, Pt.slots] at X19 l19 y19 z19 st19 hQ19
  subst l19 y19 z19
  obtain ⟨rfl, N19q, e19⟩ := hQ19
  have N19 := Fr.app N18 N19q
  refine Goes.via st19 ?_
  show Goes p.tables e below (T19.setTop (mkF m 78 #[.val (.int ps), .val (.int pe), .val (.int pd), .val (.int x4), .val (.int x8), .val (.int x12), .val (.int x16), .unset, .unset, .unset, .unset, .unset] [(.int (((((31 : Int32) * (0 : Int32)) + (0 : Int32)) * (31 : Int32)) + (0 : Int32)))])) _
  obtain ⟨x20, hx20⟩ : ∃ z : Int32, z = (((((31 : Int32) * (0 : Int32)) + (0 : Int32)) * (31 : Int32)) + (0 : Int32)) := ⟨_, rfl⟩
  refine Goes.by (fun _ k => XS.istore X19.here hx rfl (hb hby at_78) rfl (l' := #[.val (.int ps), .val (.int pe), .val (.int pd), .val (.int x4), .val (.int x8), .val (.int x12), .val (.int x16), .val (.int x20), .unset, .unset, .unset, .unset]) (by rw [hx20]; rfl) k) ?_
  show Goes p.tables e below (T19.setTop (mkF m 80 #[.val (.int ps), .val (.int pe), .val (.int pd), .val (.int x4), .val (.int x8), .val (.int x12), .val (.int x16), .val (.int x20), .unset, .unset, .unset, .unset] [])) _
  refine Goes.by (fun _ k => XS.iload X19.here hx rfl (hb hby at_80) rfl k) ?_
  show Goes p.tables e below (T19.setTop (mkF m 82 #[.val (.int ps), .val (.int pe), .val (.int pd), .val (.int x4), .val (.int x8), .val (.int x12), .val (.int x16), .val (.int x20), .unset, .unset, .unset, .unset] [(.int x20)])) _
  refine Goes.by (fun _ k => XS.ifNo X19.here hx rfl (hb hby at_82) rfl ((if0 _ _).trans (teq (by rw [hx20]; decide : x20 = (0 : Int32))).2) k) ?_
  show Goes p.tables e below (T19.setTop (mkF m 85 #[.val (.int ps), .val (.int pe), .val (.int pd), .val (.int x4), .val (.int x8), .val (.int x12), .val (.int x16), .val (.int x20), .unset, .unset, .unset, .unset] [])) _
  refine Goes.by (fun _ k => XS.iconst X19.here hx rfl (hb hby at_85) k) ?_
  show Goes p.tables e below (T19.setTop (mkF m 86 #[.val (.int ps), .val (.int pe), .val (.int pd), .val (.int x4), .val (.int x8), .val (.int x12), .val (.int x16), .val (.int x20), .unset, .unset, .unset, .unset] [(.int (1 : Int32))])) _
  refine Goes.by (fun _ k => XS.goto X19.here hx rfl (pc0 := 86) (pc' := 90) rfl (hb hby at_86) (by decide) (by decide) k) ?_
  show Goes p.tables e below (T19.setTop (mkF m 90 #[.val (.int ps), .val (.int pe), .val (.int pd), .val (.int x4), .val (.int x8), .val (.int x12), .val (.int x16), .val (.int x20), .unset, .unset, .unset, .unset] [(.int (1 : Int32))])) _
  refine Goes.by (fun _ k => XS.istore X19.here hx rfl (hb hby at_90) rfl (l' := #[.val (.int ps), .val (.int pe), .val (.int pd), .val (.int x4), .val (.int x8), .val (.int x12), .val (.int x16), .val (.int x20), .val (.int (1 : Int32)), .unset, .unset, .unset]) rfl k) ?_
  show Goes p.tables e below (T19.setTop (mkF m 92 #[.val (.int ps), .val (.int pe), .val (.int pd), .val (.int x4), .val (.int x8), .val (.int x12), .val (.int x16), .val (.int x20), .val (.int (1 : Int32)), .unset, .unset, .unset] [])) _
  refine Goes.by (fun _ k => XS.iload X19.here hx rfl (hb hby at_92) rfl k) ?_
  show Goes p.tables e below (T19.setTop (mkF m 94 #[.val (.int ps), .val (.int pe), .val (.int pd), .val (.int x4), .val (.int x8), .val (.int x12), .val (.int x16), .val (.int x20), .val (.int (1 : Int32)), .unset, .unset, .unset] [(.int x8)])) _
  refine Goes.by (fun _ k => XS.iloadN X19.here hx rfl (hb hby at_94) rfl k) ?_
  show Goes p.tables e below (T19.setTop (mkF m 95 #[.val (.int ps), .val (.int pe), .val (.int pd), .val (.int x4), .val (.int x8), .val (.int x12), .val (.int x16), .val (.int x20), .val (.int (1 : Int32)), .unset, .unset, .unset] [(.int x4), (.int x8)])) _
  refine Goes.by (fun _ k => XS.isub X19.here hx rfl (hb hby at_95) rfl k) ?_
  show Goes p.tables e below (T19.setTop (mkF m 96 #[.val (.int ps), .val (.int pe), .val (.int pd), .val (.int x4), .val (.int x8), .val (.int x12), .val (.int x16), .val (.int x20), .val (.int (1 : Int32)), .unset, .unset, .unset] [(.int (x8 - x4))])) _
  refine Goes.by (fun _ k => XS.iconst X19.here hx rfl (hb hby at_96) k) ?_
  show Goes p.tables e below (T19.setTop (mkF m 97 #[.val (.int ps), .val (.int pe), .val (.int pd), .val (.int x4), .val (.int x8), .val (.int x12), .val (.int x16), .val (.int x20), .val (.int (1 : Int32)), .unset, .unset, .unset] [(.int (1 : Int32)), (.int (x8 - x4))])) _
  refine Goes.by (fun _ k => XS.icmpNo X19.here hx rfl (hb hby at_97) rfl (teq (by rw [hx8, hx4]; exact own_step ps pe pd ps pe (pd + 1) 1 (by have a1 := c_iadd pd 1; have e1 : (1 : Int32).toInt = 1 := rfl; have e2 : (1 : Int32).toInt = 1 := rfl; rw [e2]; rw [e1] at a1; omega) : (x8 - x4) = (1 : Int32))).2 k) ?_
  show Goes p.tables e below (T19.setTop (mkF m 100 #[.val (.int ps), .val (.int pe), .val (.int pd), .val (.int x4), .val (.int x8), .val (.int x12), .val (.int x16), .val (.int x20), .val (.int (1 : Int32)), .unset, .unset, .unset] [])) _
  refine Goes.by (fun _ k => XS.iconst X19.here hx rfl (hb hby at_100) k) ?_
  show Goes p.tables e below (T19.setTop (mkF m 101 #[.val (.int ps), .val (.int pe), .val (.int pd), .val (.int x4), .val (.int x8), .val (.int x12), .val (.int x16), .val (.int x20), .val (.int (1 : Int32)), .unset, .unset, .unset] [(.int (1 : Int32))])) _
  refine Goes.by (fun _ k => XS.goto X19.here hx rfl (pc0 := 101) (pc' := 105) rfl (hb hby at_101) (by decide) (by decide) k) ?_
  show Goes p.tables e below (T19.setTop (mkF m 105 #[.val (.int ps), .val (.int pe), .val (.int pd), .val (.int x4), .val (.int x8), .val (.int x12), .val (.int x16), .val (.int x20), .val (.int (1 : Int32)), .unset, .unset, .unset] [(.int (1 : Int32))])) _
  refine Goes.by (fun _ k => XS.istore X19.here hx rfl (hb hby at_105) rfl (l' := #[.val (.int ps), .val (.int pe), .val (.int pd), .val (.int x4), .val (.int x8), .val (.int x12), .val (.int x16), .val (.int x20), .val (.int (1 : Int32)), .val (.int (1 : Int32)), .unset, .unset]) rfl k) ?_
  show Goes p.tables e below (T19.setTop (mkF m 107 #[.val (.int ps), .val (.int pe), .val (.int pd), .val (.int x4), .val (.int x8), .val (.int x12), .val (.int x16), .val (.int x20), .val (.int (1 : Int32)), .val (.int (1 : Int32)), .unset, .unset] [])) _
  refine Goes.by (fun _ k => XS.iload X19.here hx rfl (hb hby at_107) rfl k) ?_
  show Goes p.tables e below (T19.setTop (mkF m 109 #[.val (.int ps), .val (.int pe), .val (.int pd), .val (.int x4), .val (.int x8), .val (.int x12), .val (.int x16), .val (.int x20), .val (.int (1 : Int32)), .val (.int (1 : Int32)), .unset, .unset] [(.int x12)])) _
  refine Goes.by (fun _ k => XS.iloadN X19.here hx rfl (hb hby at_109) rfl k) ?_
  show Goes p.tables e below (T19.setTop (mkF m 110 #[.val (.int ps), .val (.int pe), .val (.int pd), .val (.int x4), .val (.int x8), .val (.int x12), .val (.int x16), .val (.int x20), .val (.int (1 : Int32)), .val (.int (1 : Int32)), .unset, .unset] [(.int x4), (.int x12)])) _
  refine Goes.by (fun _ k => XS.isub X19.here hx rfl (hb hby at_110) rfl k) ?_
  show Goes p.tables e below (T19.setTop (mkF m 111 #[.val (.int ps), .val (.int pe), .val (.int pd), .val (.int x4), .val (.int x8), .val (.int x12), .val (.int x16), .val (.int x20), .val (.int (1 : Int32)), .val (.int (1 : Int32)), .unset, .unset] [(.int (x12 - x4))])) _
  refine Goes.by (fun _ k => XS.bipush X19.here hx rfl (hb hby at_111) k) ?_
  show Goes p.tables e below (T19.setTop (mkF m 113 #[.val (.int ps), .val (.int pe), .val (.int pd), .val (.int x4), .val (.int x8), .val (.int x12), .val (.int x16), .val (.int x20), .val (.int (1 : Int32)), .val (.int (1 : Int32)), .unset, .unset] [(.int (31 : Int32)), (.int (x12 - x4))])) _
  refine Goes.by (fun _ k => XS.icmpNo X19.here hx rfl (hb hby at_113) rfl (teq (by rw [hx12, hx4]; exact own_step ps pe pd ps (pe + 1) pd 31 (by have a1 := c_iadd pe 1; have e1 : (1 : Int32).toInt = 1 := rfl; have e2 : (31 : Int32).toInt = 31 := rfl; rw [e2]; rw [e1] at a1; omega) : (x12 - x4) = (31 : Int32))).2 k) ?_
  show Goes p.tables e below (T19.setTop (mkF m 116 #[.val (.int ps), .val (.int pe), .val (.int pd), .val (.int x4), .val (.int x8), .val (.int x12), .val (.int x16), .val (.int x20), .val (.int (1 : Int32)), .val (.int (1 : Int32)), .unset, .unset] [])) _
  refine Goes.by (fun _ k => XS.iconst X19.here hx rfl (hb hby at_116) k) ?_
  show Goes p.tables e below (T19.setTop (mkF m 117 #[.val (.int ps), .val (.int pe), .val (.int pd), .val (.int x4), .val (.int x8), .val (.int x12), .val (.int x16), .val (.int x20), .val (.int (1 : Int32)), .val (.int (1 : Int32)), .unset, .unset] [(.int (1 : Int32))])) _
  refine Goes.by (fun _ k => XS.goto X19.here hx rfl (pc0 := 117) (pc' := 121) rfl (hb hby at_117) (by decide) (by decide) k) ?_
  show Goes p.tables e below (T19.setTop (mkF m 121 #[.val (.int ps), .val (.int pe), .val (.int pd), .val (.int x4), .val (.int x8), .val (.int x12), .val (.int x16), .val (.int x20), .val (.int (1 : Int32)), .val (.int (1 : Int32)), .unset, .unset] [(.int (1 : Int32))])) _
  refine Goes.by (fun _ k => XS.istore X19.here hx rfl (hb hby at_121) rfl (l' := #[.val (.int ps), .val (.int pe), .val (.int pd), .val (.int x4), .val (.int x8), .val (.int x12), .val (.int x16), .val (.int x20), .val (.int (1 : Int32)), .val (.int (1 : Int32)), .val (.int (1 : Int32)), .unset]) rfl k) ?_
  show Goes p.tables e below (T19.setTop (mkF m 123 #[.val (.int ps), .val (.int pe), .val (.int pd), .val (.int x4), .val (.int x8), .val (.int x12), .val (.int x16), .val (.int x20), .val (.int (1 : Int32)), .val (.int (1 : Int32)), .val (.int (1 : Int32)), .unset] [])) _
  refine Goes.by (fun _ k => XS.iload X19.here hx rfl (hb hby at_123) rfl k) ?_
  show Goes p.tables e below (T19.setTop (mkF m 125 #[.val (.int ps), .val (.int pe), .val (.int pd), .val (.int x4), .val (.int x8), .val (.int x12), .val (.int x16), .val (.int x20), .val (.int (1 : Int32)), .val (.int (1 : Int32)), .val (.int (1 : Int32)), .unset] [(.int x16)])) _
  refine Goes.by (fun _ k => XS.iloadN X19.here hx rfl (hb hby at_125) rfl k) ?_
  show Goes p.tables e below (T19.setTop (mkF m 126 #[.val (.int ps), .val (.int pe), .val (.int pd), .val (.int x4), .val (.int x8), .val (.int x12), .val (.int x16), .val (.int x20), .val (.int (1 : Int32)), .val (.int (1 : Int32)), .val (.int (1 : Int32)), .unset] [(.int x4), (.int x16)])) _
  refine Goes.by (fun _ k => XS.isub X19.here hx rfl (hb hby at_126) rfl k) ?_
  show Goes p.tables e below (T19.setTop (mkF m 127 #[.val (.int ps), .val (.int pe), .val (.int pd), .val (.int x4), .val (.int x8), .val (.int x12), .val (.int x16), .val (.int x20), .val (.int (1 : Int32)), .val (.int (1 : Int32)), .val (.int (1 : Int32)), .unset] [(.int (x16 - x4))])) _
  refine Goes.by (fun _ k => XS.sipush X19.here hx rfl (hb hby at_127) k) ?_
  show Goes p.tables e below (T19.setTop (mkF m 130 #[.val (.int ps), .val (.int pe), .val (.int pd), .val (.int x4), .val (.int x8), .val (.int x12), .val (.int x16), .val (.int x20), .val (.int (1 : Int32)), .val (.int (1 : Int32)), .val (.int (1 : Int32)), .unset] [(.int (961 : Int32)), (.int (x16 - x4))])) _
  refine Goes.by (fun _ k => XS.icmpNo X19.here hx rfl (hb hby at_130) rfl (teq (by rw [hx16, hx4]; exact own_step ps pe pd (ps + 1) pe pd 961 (by have a1 := c_iadd ps 1; have e1 : (1 : Int32).toInt = 1 := rfl; have e2 : (961 : Int32).toInt = 961 := rfl; rw [e2]; rw [e1] at a1; omega) : (x16 - x4) = (961 : Int32))).2 k) ?_
  show Goes p.tables e below (T19.setTop (mkF m 133 #[.val (.int ps), .val (.int pe), .val (.int pd), .val (.int x4), .val (.int x8), .val (.int x12), .val (.int x16), .val (.int x20), .val (.int (1 : Int32)), .val (.int (1 : Int32)), .val (.int (1 : Int32)), .unset] [])) _
  refine Goes.by (fun _ k => XS.iconst X19.here hx rfl (hb hby at_133) k) ?_
  show Goes p.tables e below (T19.setTop (mkF m 134 #[.val (.int ps), .val (.int pe), .val (.int pd), .val (.int x4), .val (.int x8), .val (.int x12), .val (.int x16), .val (.int x20), .val (.int (1 : Int32)), .val (.int (1 : Int32)), .val (.int (1 : Int32)), .unset] [(.int (1 : Int32))])) _
  refine Goes.by (fun _ k => XS.goto X19.here hx rfl (pc0 := 134) (pc' := 138) rfl (hb hby at_134) (by decide) (by decide) k) ?_
  show Goes p.tables e below (T19.setTop (mkF m 138 #[.val (.int ps), .val (.int pe), .val (.int pd), .val (.int x4), .val (.int x8), .val (.int x12), .val (.int x16), .val (.int x20), .val (.int (1 : Int32)), .val (.int (1 : Int32)), .val (.int (1 : Int32)), .unset] [(.int (1 : Int32))])) _
  refine Goes.by (fun _ k => XS.istore X19.here hx rfl (hb hby at_138) rfl (l' := #[.val (.int ps), .val (.int pe), .val (.int pd), .val (.int x4), .val (.int x8), .val (.int x12), .val (.int x16), .val (.int x20), .val (.int (1 : Int32)), .val (.int (1 : Int32)), .val (.int (1 : Int32)), .val (.int (1 : Int32))]) rfl k) ?_
  show Goes p.tables e below (T19.setTop (mkF m 140 #[.val (.int ps), .val (.int pe), .val (.int pd), .val (.int x4), .val (.int x8), .val (.int x12), .val (.int x16), .val (.int x20), .val (.int (1 : Int32)), .val (.int (1 : Int32)), .val (.int (1 : Int32)), .val (.int (1 : Int32))] [])) _
  refine Goes.by (fun _ k => XS.iload X19.here hx rfl (hb hby at_140) rfl k) ?_
  show Goes p.tables e below (T19.setTop (mkF m 142 #[.val (.int ps), .val (.int pe), .val (.int pd), .val (.int x4), .val (.int x8), .val (.int x12), .val (.int x16), .val (.int x20), .val (.int (1 : Int32)), .val (.int (1 : Int32)), .val (.int (1 : Int32)), .val (.int (1 : Int32))] [(.int (1 : Int32))])) _
  refine Goes.by (fun _ k => XS.ifNo X19.here hx rfl (hb hby at_142) rfl ((if0 _ _).trans (feq (by decide : ¬ ((1 : Int32) = (0 : Int32)))).1) k) ?_
  show Goes p.tables e below (T19.setTop (mkF m 145 #[.val (.int ps), .val (.int pe), .val (.int pd), .val (.int x4), .val (.int x8), .val (.int x12), .val (.int x16), .val (.int x20), .val (.int (1 : Int32)), .val (.int (1 : Int32)), .val (.int (1 : Int32)), .val (.int (1 : Int32))] [])) _
  refine Goes.by (fun _ k => XS.iload X19.here hx rfl (hb hby at_145) rfl k) ?_
  show Goes p.tables e below (T19.setTop (mkF m 147 #[.val (.int ps), .val (.int pe), .val (.int pd), .val (.int x4), .val (.int x8), .val (.int x12), .val (.int x16), .val (.int x20), .val (.int (1 : Int32)), .val (.int (1 : Int32)), .val (.int (1 : Int32)), .val (.int (1 : Int32))] [(.int (1 : Int32))])) _
  refine Goes.by (fun _ k => XS.ifNo X19.here hx rfl (hb hby at_147) rfl ((if0 _ _).trans (feq (by decide : ¬ ((1 : Int32) = (0 : Int32)))).1) k) ?_
  show Goes p.tables e below (T19.setTop (mkF m 150 #[.val (.int ps), .val (.int pe), .val (.int pd), .val (.int x4), .val (.int x8), .val (.int x12), .val (.int x16), .val (.int x20), .val (.int (1 : Int32)), .val (.int (1 : Int32)), .val (.int (1 : Int32)), .val (.int (1 : Int32))] [])) _
  refine Goes.by (fun _ k => XS.iload X19.here hx rfl (hb hby at_150) rfl k) ?_
  show Goes p.tables e below (T19.setTop (mkF m 152 #[.val (.int ps), .val (.int pe), .val (.int pd), .val (.int x4), .val (.int x8), .val (.int x12), .val (.int x16), .val (.int x20), .val (.int (1 : Int32)), .val (.int (1 : Int32)), .val (.int (1 : Int32)), .val (.int (1 : Int32))] [(.int (1 : Int32))])) _
  refine Goes.by (fun _ k => XS.ifNo X19.here hx rfl (hb hby at_152) rfl ((if0 _ _).trans (feq (by decide : ¬ ((1 : Int32) = (0 : Int32)))).1) k) ?_
  show Goes p.tables e below (T19.setTop (mkF m 155 #[.val (.int ps), .val (.int pe), .val (.int pd), .val (.int x4), .val (.int x8), .val (.int x12), .val (.int x16), .val (.int x20), .val (.int (1 : Int32)), .val (.int (1 : Int32)), .val (.int (1 : Int32)), .val (.int (1 : Int32))] [])) _
  refine Goes.by (fun _ k => XS.iload X19.here hx rfl (hb hby at_155) rfl k) ?_
  show Goes p.tables e below (T19.setTop (mkF m 157 #[.val (.int ps), .val (.int pe), .val (.int pd), .val (.int x4), .val (.int x8), .val (.int x12), .val (.int x16), .val (.int x20), .val (.int (1 : Int32)), .val (.int (1 : Int32)), .val (.int (1 : Int32)), .val (.int (1 : Int32))] [(.int (1 : Int32))])) _
  refine Goes.by (fun _ k => XS.ifNo X19.here hx rfl (hb hby at_157) rfl ((if0 _ _).trans (feq (by decide : ¬ ((1 : Int32) = (0 : Int32)))).1) k) ?_
  show Goes p.tables e below (T19.setTop (mkF m 160 #[.val (.int ps), .val (.int pe), .val (.int pd), .val (.int x4), .val (.int x8), .val (.int x12), .val (.int x16), .val (.int x20), .val (.int (1 : Int32)), .val (.int (1 : Int32)), .val (.int (1 : Int32)), .val (.int (1 : Int32))] [])) _
  refine Goes.by (fun _ k => XS.iconst X19.here hx rfl (hb hby at_160) k) ?_
  show Goes p.tables e below (T19.setTop (mkF m 161 #[.val (.int ps), .val (.int pe), .val (.int pd), .val (.int x4), .val (.int x8), .val (.int x12), .val (.int x16), .val (.int x20), .val (.int (1 : Int32)), .val (.int (1 : Int32)), .val (.int (1 : Int32)), .val (.int (1 : Int32))] [(.int (1 : Int32))])) _
  refine Goes.by (fun _ k => XS.goto X19.here hx rfl (pc0 := 161) (pc' := 165) rfl (hb hby at_161) (by decide) (by decide) k) ?_
  show Goes p.tables e below (T19.setTop (mkF m 165 #[.val (.int ps), .val (.int pe), .val (.int pd), .val (.int x4), .val (.int x8), .val (.int x12), .val (.int x16), .val (.int x20), .val (.int (1 : Int32)), .val (.int (1 : Int32)), .val (.int (1 : Int32)), .val (.int (1 : Int32))] [(.int (1 : Int32))])) _
  obtain ⟨fs, hr, hrun, hended, hW, hsame⟩ := X19.leave (v := some (.int (1 : Int32))) (fun h => by rw [Bd.returns] at h; cases h)
  refine ⟨_, _, retN X19 hx (t := .boolean) Bd.returns (by simp) (hb hby at_165) hr, hrun, hended, _, _, rfl, ?_, ⟨_, rfl⟩, hW, hsame.mono (by decide) (by decide)⟩
  show Q0 Z ps pe pd h0 n0 _ T19.heap _
  rw [e19]
  exact ⟨rfl, N19⟩
set_option maxRecDepth 65536 in
set_option maxHeartbeats 40000000 in
theorem comes_1 {Post : Tables → Env → Array Value → State → Outcome → State → Prop} (hpost : ∀ tb e args s v u, (limb_1_1.after args s (.returned v) u = true ∧ limb_1_2.after args s (.returned v) u = true ∧ True) → FrameEnd s (.returned v) u (Jvm.fieldLocs frame_1_writes args s ++ Jvm.arrayLocs frame_1_arrays args s ++ Jvm.staticLocs frame_1_statics s) 24 128 → Post tb e args s (.returned v) u) :
    ArmFor flags0 classFile x code maxLocals ret World_1 tables_1 room_1 Calls_1 rest_1 Pre_1 Post := by
  intro l hfl _ _ p e ha hc hk s m args below hf hA hF happ hP
  obtain ⟨hcalls, hrest, hpre⟩ := hP
  obtain ⟨-, -, -, hnamed, -, -, -, hat⟩ := (Spec.applies_iff hf).mp happ
  obtain ⟨hg, hn⟩ := and_e (Cond.before_iff.mp (show (Jvm.Cond.and given_1 narrow_1).before args s = true from hpre))
  obtain ⟨g1, g2⟩ := and_e hg
  obtain ⟨g3, g4⟩ := and_e g2
  obtain ⟨g5, g6⟩ := and_e g4
  obtain ⟨w0, w1, w2, rfl⟩ : ∃ w0 w1 w2 : Value, args = #[w0, w1, w2] := by
    have hs : args.size = 3 := by simpa [Cond.value, given_1] using g1
    obtain ⟨L⟩ := args
    match L, hs with
    | [w0, w1, w2], _ => exact ⟨w0, w1, w2, rfl⟩
  have hw := fun d (hd : d ∈ tables_1) => atoms_spec (ws := Jvm.Cond.code x code maxLocals ret :: tables_1) hat d (List.mem_cons_of_mem _ hd)
  have hfit : Fit s := fun {y c} hc i hi => by
    obtain ⟨ha, rfl⟩ := Array.getElem?_eq_some_iff.mp hc
    have q := List.all_eq_true.mp ((Array.all_eq_true_iff_forall_mem.mp hF) _ (Array.getElem_mem ha)) i (List.mem_range.mpr hi)
    simpa [Array.getElem?_eq_getElem hi] using q
  obtain ⟨i0, ei0⟩ := is_v g3
  obtain rfl : w0 = (.int i0) := Option.some.inj ei0
  obtain ⟨i1, ei1⟩ := is_v g5
  obtain rfl : w1 = (.int i1) := Option.some.inj ei1
  obtain ⟨i2, ei2⟩ := is_v g6
  obtain rfl : w2 = (.int i2) := Option.some.inj ei2
  obtain ⟨n, o, h1, h2, h3, _, L, rfl, ⟨hv0, N⟩, hq⟩ := rm0 l s _ hw tables_1 i0 i1 i2 s.heap s.heap.size (Nat.le_refl _) p e ha hc hk s m _ below hf ((Spec.applies_iff_loose hf).mp happ).1 ⟨rfl, State.Warmed39.refl s, rfl⟩ trivial
  subst hv0
  refine ⟨n, _, h1, h2, h3, hpost _ _ _ _ _ _ ⟨Cond.after_iff.mpr rfl, Cond.after_iff.mpr (eq_i res_at (Term.int_eval (1)) rfl), trivial⟩ ⟨hq.1, hq.2.1, (hq.2.2.sift fun y hy => Or.inr (N y hy)).mono (by decide) (by decide)⟩⟩
theorem main_1_1 : Claimed_1_1 := comes_1 fun _ _ _ _ _ _ h hF => ⟨h.1, hF⟩
theorem main_1_2 : Claimed_1_2 := comes_1 fun _ _ _ _ _ _ h hF => ⟨h.2.1, hF⟩
end Jvm.Pilot.@@N@@
namespace Jvm.Pilot.@@N@@
open Jvm Jvm.ClassFile Sem Op Lib Jvm.Free Jvm.Stand Jvm.Pilot.@@N@@.Jvm.D
/-! MADE BY PROGRAM (witnessworld.py) out of the Statement's table words and the real class files: 10 classes; the members and pool entries that the words name. The judged class is class 1, her method 1. -/
namespace start1
open Jvm.ClassFile
def u (s : String) : CpInfo := .utf8 (stringToUtf16 s)
/-- a pool by its gaps: so many unusable entries, then the entry; so many at the end -/
def gap : Nat → List CpInfo → List CpInfo
  | 0, r => r
  | n + 1, r => .unusable :: gap n r
def poolList (es : List (Nat × CpInfo)) (last : Nat) : List CpInfo := es.foldr (fun e r => gap e.1 (e.2 :: r)) (gap last [])
def pool (es : List (Nat × CpInfo)) (last : Nat) : Array CpInfo := ⟨poolList es last⟩
def fileOf (pool : Array CpInfo) (this : Nat) (attrs : Array Attribute := #[]) (ms : Array MethodInfo := #[]) (fl : Nat := 33) (sup : Nat := 0) (ifs : Array Nat := #[]) (fds : Array FieldInfo := #[]) : ClassFile where
  minorVersion := 0
  majorVersion := 65
  constantPool := pool
  accessFlags := fl
  thisClass := this
  superClass := sup
  interfaces := ifs
  fields := fds
  methods := ms
  attributes := attrs
def plain (name : String) (sup : Option ClassId) : Class where
  name := name
  kind := .ordinary
  loader := none
  accessFlags := 33
  super := sup
  interfaces := #[]
  cf := none
  fields := #[]
  methods := #[]
  instanceTypes := #[]
  staticTypes := #[]
  resolved := #[]
  callSites := []
  init := .initialized
  statics := none
  mirror := none

def pool0 : Array CpInfo := pool [(5, u "<init>"), (0, u "()V"), (1, .class_ 10), (1, u "java/lang/Object")] 113

def k0c0 : Code := { maxStack := 0, maxLocals := 1, code := object_method_1_code, exceptionTable := #[], attributes := #[] }
def k0m0 : Method := { name := "<init>", desc := "()V", sig := { parameters := [], returnType := none }, accessFlags := 1, code := some k0c0 }
/-- java/lang/Object -/
def k0 : Class := { plain "java/lang/Object" none with
  accessFlags := 33
  interfaces := #[]
  cf := some (fileOf pool0 8 #[] #[{ accessFlags := 1, nameIndex := 5, descriptorIndex := 6, attributes := #[] }] 33 0 #[] #[])
  fields := #[]
  methods := #[k0m0]
  instanceTypes := #[]
  staticTypes := #[]
  resolved := Array.replicate 124 none
  statics := none }

def pool1 : Array CpInfo := pool [(2, .class_ 4), (1, u "java/lang/Object"), (0, u "<init>"), (0, u "()V"), (0, .class_ 8), (0, u "com/example/treewrite/treewrite/document/Identifier"), (0, .methodref 7 10), (0, .nameAndType 5 11), (0, u "(III)V"), (0, .methodref 7 13), (0, .nameAndType 14 15), (0, u "hashCode"), (0, u "()I"), (0, .class_ 17), (0, u "com/example/treewrite/treewrite/document/IdentifierHashCodePinLaw"), (2, u "law"), (0, u "(III)Z")] 3

def k1m0 : Method := { name := "<init>", desc := "()V", sig := { parameters := [], returnType := none }, accessFlags := 2, code := none }
def k1c1 : Code := { maxStack := 6, maxLocals := 12, code := code, exceptionTable := #[], attributes := #[] }
def k1m1 : Method := { name := "law", desc := "(III)Z", sig := { parameters := [.int, .int, .int], returnType := some .boolean }, accessFlags := 9, code := some k1c1 }
/-- com/example/treewrite/treewrite/document/IdentifierHashCodePinLaw -/
def k1 : Class := { plain "com/example/treewrite/treewrite/document/IdentifierHashCodePinLaw" (some 0) with
  accessFlags := 49
  interfaces := #[]
  cf := some (fileOf pool1 16 #[] #[{ accessFlags := 2, nameIndex := 5, descriptorIndex := 6, attributes := #[] }, { accessFlags := 9, nameIndex := 20, descriptorIndex := 21, attributes := #[] }] 49 2 #[] #[])
  fields := #[]
  methods := #[k1m0, k1m1]
  instanceTypes := #[]
  staticTypes := #[]
  resolved := Array.replicate 25 none
  statics := none }

def pool2 : Array CpInfo := pool [(1, .methodref 2 3), (0, .class_ 4), (0, .nameAndType 5 6), (0, u "java/lang/Object"), (0, u "<init>"), (0, u "()V"), (0, .class_ 8), (0, u "java/lang/Record")] 13

def k2c0 : Code := { maxStack := 1, maxLocals := 1, code := jdk_30_method_1_code, exceptionTable := #[], attributes := #[] }
def k2m0 : Method := { name := "<init>", desc := "()V", sig := { parameters := [], returnType := none }, accessFlags := 4, code := some k2c0 }
/-- java/lang/Record -/
def k2 : Class := { plain "java/lang/Record" (some 0) with
  accessFlags := 1057
  interfaces := #[]
  cf := some (fileOf pool2 7 #[] #[{ accessFlags := 4, nameIndex := 5, descriptorIndex := 6, attributes := #[] }] 1057 2 #[] #[])
  fields := #[]
  methods := #[k2m0]
  instanceTypes := #[]
  staticTypes := #[]
  resolved := Array.replicate 22 none
  statics := none }

def pool3 : Array CpInfo := pool [(1, .methodref 2 3), (0, .class_ 4), (0, .nameAndType 5 6), (0, u "java/lang/Record"), (0, u "<init>"), (0, u "()V"), (0, .fieldref 8 9), (0, .class_ 10), (0, .nameAndType 11 12), (0, u "com/example/treewrite/treewrite/document/Identifier"), (0, u "start"), (0, u "I"), (0, .fieldref 8 14), (0, .nameAndType 15 12), (0, u "end"), (0, .fieldref 8 17), (0, .nameAndType 18 12), (0, u "depth"), (5, u "()I"), (18, u "(III)V"), (29, u "hashCode")] 20

def k3c0 : Code := { maxStack := 2, maxLocals := 4, code := prog_21_method_1_code, exceptionTable := #[], attributes := #[] }
def k3m0 : Method := { name := "<init>", desc := "(III)V", sig := { parameters := [.int, .int, .int], returnType := none }, accessFlags := 1, code := some k3c0 }
def k3c1 : Code := { maxStack := 2, maxLocals := 1, code := prog_21_method_8_code, exceptionTable := #[], attributes := #[] }
def k3m1 : Method := { name := "hashCode", desc := "()I", sig := { parameters := [], returnType := some .int }, accessFlags := 1, code := some k3c1 }
/-- com/example/treewrite/treewrite/document/Identifier -/
def k3 : Class := { plain "com/example/treewrite/treewrite/document/Identifier" (some 2) with
  accessFlags := 49
  interfaces := #[]
  cf := some (fileOf pool3 8 #[] #[{ accessFlags := 1, nameIndex := 5, descriptorIndex := 43, attributes := #[] }, { accessFlags := 1, nameIndex := 73, descriptorIndex := 24, attributes := #[] }] 49 2 #[] #[{ accessFlags := 18, nameIndex := 11, descriptorIndex := 12, attributes := #[] }, { accessFlags := 18, nameIndex := 15, descriptorIndex := 12, attributes := #[] }, { accessFlags := 18, nameIndex := 18, descriptorIndex := 12, attributes := #[] }])
  fields := #[{ name := "start", type := .int, accessFlags := 18, slot := 0, constantValue := 0 }, { name := "end", type := .int, accessFlags := 18, slot := 1, constantValue := 0 }, { name := "depth", type := .int, accessFlags := 18, slot := 2, constantValue := 0 }]
  methods := #[k3m0, k3m1]
  instanceTypes := #[.int, .int, .int]
  staticTypes := #[]
  resolved := Array.replicate 94 none
  statics := none }

def pool4 : Array CpInfo := pool [(1, u "java/lang/Cloneable"), (0, .class_ 1), (0, u "java/lang/Object"), (0, .class_ 3)] 3

/-- java/lang/Cloneable -/
def k4 : Class := { plain "java/lang/Cloneable" (some 0) with
  accessFlags := 1537
  interfaces := #[]
  cf := some (fileOf pool4 2 #[] #[] 1537 4 #[] #[])
  fields := #[]
  methods := #[]
  instanceTypes := #[]
  staticTypes := #[]
  resolved := Array.replicate 8 none
  statics := none }

def pool5 : Array CpInfo := pool [(1, u "java/io/Serializable"), (0, .class_ 1), (0, u "java/lang/Object"), (0, .class_ 3)] 3

/-- java/io/Serializable -/
def k5 : Class := { plain "java/io/Serializable" (some 0) with
  accessFlags := 1537
  interfaces := #[]
  cf := some (fileOf pool5 2 #[] #[] 1537 4 #[] #[])
  fields := #[]
  methods := #[]
  instanceTypes := #[]
  staticTypes := #[]
  resolved := Array.replicate 8 none
  statics := none }

/-- the primitive byte -/
def k6 : Class := { plain "byte" none with kind := .primitive 'B', accessFlags := 0x411 }
/-- [B -/
def k7 : Class := { plain "[B" (some 0) with kind := .array 6 .byte, interfaces := #[4, 5], accessFlags := 1041 }

/-- the primitive int -/
def k8 : Class := { plain "int" none with kind := .primitive 'I', accessFlags := 0x411 }
/-- [I -/
def k9 : Class := { plain "[I" (some 0) with kind := .array 8 .int, interfaces := #[4, 5], accessFlags := 1041 }

def heap : Heap := #[]
def classes : Array Class := #[k0, k1, k2, k3, k4, k5, k6, k7, k8, k9]
def interned : List (Array UInt16 × Addr) := []
def slotsUsed : Nat := 0
def theMethod : MethodId := ⟨1, 1⟩
def args0 : Array Value := #[.int 5, .int 5, .int 5]
def aboutOver (below : List Frame) : State where
  vm := { classes := classes, interned := interned.toArray }
  heap := heap
  slotsUsed := slotsUsed
  threads := #[{ frames := .invoking theMethod args0 :: below }]
def below0 : List Frame := [.native { method := ⟨0, 0⟩, args := #[] }]
def about1 : State := aboutOver below0
def p0 : Program := .bare "" "" ""
def e0 : Env := launch0.env 0 0 0
theorem w_frames : about1.frames = Frame.invoking theMethod args0 :: below0 := rfl
set_option maxRecDepth 65536 in
theorem w_args : argsFit about1.vm theMethod args0 = true := by decide +kernel
set_option maxRecDepth 65536 in
theorem w_heap : heapFits about1 = true := by decide +kernel
set_option maxRecDepth 65536 in
theorem w_runnable : about1.curStatus? = some .runnable := by decide +kernel
set_option maxRecDepth 65536 in
theorem w_alone : about1.alone = true := by decide +kernel
set_option maxRecDepth 65536 in
theorem w_named : about1.methodNamed? x = some theMethod := by decide +kernel
set_option maxRecDepth 65536 in
theorem w_hears : about1.hears theMethod below0 = true := by decide +kernel
set_option maxRecDepth 65536 in
theorem w_ripe : about1.ripe theMethod args0 below0 = true := by decide +kernel
theorem w_running : about1.status = .running := rfl
set_option maxRecDepth 65536 in
theorem w_room : about1.hasRoom e0.platform room_1 = true :=
  launch0.hasRoom_least _ room_1 (by decide +kernel) (by decide +kernel) (by decide +kernel) (by decide +kernel) (by decide +kernel) (by decide +kernel)
theorem allAtoms_all (ts : List Jvm.Cond) (a : Array Jvm.Value) (st : Jvm.State) : (allAtoms ts).before a st = ts.all (fun c => c.before a st) := by
  induction ts with
  | nil => rfl
  | cons c t ih =>
    show (Jvm.Cond.and c (allAtoms t)).before a st = _
    rw [Jvm.Cond.before_and, ih, List.all_cons]
def words1 : List Jvm.Cond := Jvm.Cond.code x code maxLocals ret :: tables_1
/-- a 'code' word, met by the world's own term for the bytes: nothing is compared byte by byte -/
theorem code_word {y : MethodName} {bytes : ByteArray} {mx : Nat} {rt : Option FieldType} {a : Array Value} {s : State} {m : MethodId} {meth : Method} {c : Code} (h1 : s.methodNamed? y = some m) (h2 : s.vm.method? m = some meth) (h3 : meth.code = some c) (h4 : c.code = bytes)
    (h5 : (c.maxLocals == mx && c.exceptionTable.isEmpty && decide (c.maxStack ≤ mostOperands) && decide (meth.sig.returnType = rt) && !meth.locks && decide (parseMethodDescriptor y.desc = some meth.sig)) = true) : (Jvm.Cond.code y bytes mx rt).before a s = true := by
  simp only [Bool.and_eq_true, beq_iff_eq, Bool.not_eq_true', decide_eq_true_eq] at h5
  obtain ⟨⟨⟨⟨⟨g1, g2⟩, g3⟩, g4⟩, g5⟩, g6⟩ := h5
  simp [Cond.before, Cond.holds, Cond.value, h1, h2, h3, h4, g1, g2, g3, g4, g5, g6]
def isCode : Jvm.Cond → Bool
  | .code _ _ _ _ => true
  | _ => false
theorem all_split {L : List Jvm.Cond} {P : Jvm.Cond → Bool} (h1 : L.all (fun c => isCode c || P c) = true) (h2 : ∀ c ∈ L.filter isCode, P c = true) : L.all P = true := by
  refine List.all_eq_true.mpr fun c hc => ?_
  have h := List.all_eq_true.mp h1 c hc
  rcases Bool.eq_false_or_eq_true (isCode c) with hi | hi
  · exact h2 c (List.mem_filter.mpr ⟨hc, hi⟩)
  · simpa [hi] using h
set_option maxRecDepth 65536 in
theorem w_c0 : (Jvm.Cond.code x code maxLocals ret).before args0 about1 = true := code_word (m := ⟨1, 1⟩) (meth := k1m1) (c := k1c1) (by decide +kernel) rfl rfl rfl (by decide +kernel)
set_option maxRecDepth 65536 in
theorem w_c1 : (Jvm.Cond.code ({ cls := "com/example/treewrite/treewrite/document/Identifier", name := "<init>", desc := "(III)V" } : Jvm.MethodName) prog_21_method_1_code (4 : Nat) (Option.none : Option Jvm.ClassFile.FieldType)).before args0 about1 = true := code_word (m := ⟨3, 0⟩) (meth := k3m0) (c := k3c0) (by decide +kernel) rfl rfl rfl (by decide +kernel)
set_option maxRecDepth 65536 in
theorem w_c2 : (Jvm.Cond.code ({ cls := "java/lang/Record", name := "<init>", desc := "()V" } : Jvm.MethodName) jdk_30_method_1_code (1 : Nat) (Option.none : Option Jvm.ClassFile.FieldType)).before args0 about1 = true := code_word (m := ⟨2, 0⟩) (meth := k2m0) (c := k2c0) (by decide +kernel) rfl rfl rfl (by decide +kernel)
set_option maxRecDepth 65536 in
theorem w_c3 : (Jvm.Cond.code ({ cls := "java/lang/Object", name := "<init>", desc := "()V" } : Jvm.MethodName) object_method_1_code (1 : Nat) (Option.none : Option Jvm.ClassFile.FieldType)).before args0 about1 = true := code_word (m := ⟨0, 0⟩) (meth := k0m0) (c := k0c0) (by decide +kernel) rfl rfl rfl (by decide +kernel)
set_option maxRecDepth 65536 in
theorem w_c4 : (Jvm.Cond.code ({ cls := "com/example/treewrite/treewrite/document/Identifier", name := "hashCode", desc := "()I" } : Jvm.MethodName) prog_21_method_8_code (1 : Nat) (Option.some Jvm.ClassFile.FieldType.int)).before args0 about1 = true := code_word (m := ⟨3, 1⟩) (meth := k3m1) (c := k3c1) (by decide +kernel) rfl rfl rfl (by decide +kernel)
def codes1 : List Jvm.Cond := [Jvm.Cond.code x code maxLocals ret, Jvm.Cond.code ({ cls := "com/example/treewrite/treewrite/document/Identifier", name := "<init>", desc := "(III)V" } : Jvm.MethodName) prog_21_method_1_code (4 : Nat) (Option.none : Option Jvm.ClassFile.FieldType), Jvm.Cond.code ({ cls := "java/lang/Record", name := "<init>", desc := "()V" } : Jvm.MethodName) jdk_30_method_1_code (1 : Nat) (Option.none : Option Jvm.ClassFile.FieldType), Jvm.Cond.code ({ cls := "java/lang/Object", name := "<init>", desc := "()V" } : Jvm.MethodName) object_method_1_code (1 : Nat) (Option.none : Option Jvm.ClassFile.FieldType), Jvm.Cond.code ({ cls := "com/example/treewrite/treewrite/document/Identifier", name := "hashCode", desc := "()I" } : Jvm.MethodName) prog_21_method_8_code (1 : Nat) (Option.some Jvm.ClassFile.FieldType.int)]
set_option maxRecDepth 65536 in
theorem codes_eq : words1.filter isCode = codes1 := rfl
theorem w_codes : ∀ c ∈ words1.filter isCode, c.before args0 about1 = true := by
  rw [codes_eq]
  intro c hc
  simp only [codes1, List.mem_cons, List.not_mem_nil, or_false] at hc
  rcases hc with rfl | rfl | rfl | rfl | rfl
  · exact w_c0
  · exact w_c1
  · exact w_c2
  · exact w_c3
  · exact w_c4
set_option maxRecDepth 65536 in
theorem w_t1 : (words1.take 24).all (fun c => isCode c || c.before args0 about1) = true := by decide +kernel
set_option maxRecDepth 65536 in
theorem w_t2 : (words1.drop 24).all (fun c => isCode c || c.before args0 about1) = true := by decide +kernel
theorem w_tables : (allAtoms (Jvm.Cond.code x code maxLocals ret :: tables_1)).before args0 about1 = true := by
  rw [allAtoms_all]
  show words1.all (fun c => c.before args0 about1) = true
  refine all_split ?_ w_codes
  rw [← List.take_append_drop 24 words1, List.all_append, w_t1, w_t2]
  rfl
set_option maxRecDepth 65536 in
theorem w_case : (Jvm.Cond.and given_1 narrow_1).before args0 about1 = true := by decide +kernel
theorem w_applies : (headSpec (Jvm.Cond.code x code maxLocals ret :: tables_1) room_1).applies x e0.platform about1 = true :=
  (Spec.applies_iff w_frames).mpr ⟨w_running, w_runnable, w_alone, w_named, w_hears, w_ripe, w_room, w_tables⟩
theorem atStart : AtStart classFile x code maxLocals ret World_1 tables_1 room_1 Calls_1 rest_1 Pre_1 launch0 p0 e0 about1 theMethod args0 below0 :=
  ⟨lists_1, trivial, launch0.admits_env _ _ _, launch0.least_env, fairChoices_fair.cas, fairChoices_fair.clock, w_frames, w_args, w_heap, w_applies, trivial, trivial, w_case⟩
end start1
theorem witness_1 : WitnessClaimed_1 := ⟨start1.p0, start1.e0, start1.about1, start1.theMethod, start1.args0, start1.below0, start1.atStart⟩
end Jvm.Pilot.@@N@@

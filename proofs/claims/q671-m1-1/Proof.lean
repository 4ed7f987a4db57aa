import JvmDerived
import JvmDerived.Pilot.@@N@@Statement
import JvmDerived.Pilot.@@N@@Code
set_option linter.unusedVariables false
set_option linter.unusedSimpArgs false
namespace Jvm.Pilot.@@N@@.OwnKit
open Jvm Sem ClassFile Op Lib Jvm.Stand Jvm.Free Jvm.LawKit Jvm.RoadKit
section New
variable {p : Program} {l : Launch} {e : Env} {R : Room} {s : State} {m : MethodId} {args : Array Value} {below : List Frame} {meth : Method} {c : Code} {T : State} {locs : List Loc} {cells slots : Nat}
theorem retI (X : Stand p l e R s m args below meth c T locs cells slots) (hx : p.tables.exec = Jvm.exec) {pc : Nat} {Ls : Array Slot} {z : Int32} {rest : List Value} (hret : meth.sig.returnType = some .int) (hd : decode c.code pc = .ok (.ireturn, 1)) {fs : List Frame}
    (hl : ∀ (f : JFrame) (acts : List Action), f.method = m → f.locked = none → f.entered = [] → (doReturn e (T.setTop f) acts (some (.int z))).1 = T.setFrames fs) : Steps p.tables e below (T.setTop (mkF m pc Ls (.int z :: rest))) (T.setFrames fs) :=
  retOut X hx hret rfl (Or.inl ⟨rfl, Or.inl rfl, _, rfl⟩) hd hl
theorem lremM {g : JFrame} {target : State} (X : Stand p l e R s m args below meth c T locs cells slots) (hx : p.tables.exec = Jvm.exec) (hg : g.method = m) {x y : Int64} {rest : List Value} (hd : decode c.code g.pc = .ok (.lrem, 1)) (hs : g.stack = .long y :: .long x :: rest) (hy : y ≠ 0)
    (hr : Steps p.tables e below (T.setTop { g with pc := g.pc + 1, stack := .long (x % y) :: rest }) target) : Steps p.tables e below (T.setTop g) target := by
  have q : x - x / y * y = x % y := by
    have g1 := rng64 (x % y)
    have g2 : (x % y).toInt = x.toInt.tmod y.toInt := Int64.toInt_mod x y
    have g3 := Int.tmod_def x.toInt y.toInt
    have g4 : (x / y).toInt = (x.toInt.tdiv y.toInt).bmod (2 ^ 64) := Int64.toInt_div x y
    apply Int64.toInt_inj.mp
    rw [Int64.toInt_sub, Int64.toInt_mul, g4, Int.bmod_mul_bmod, Int.sub_bmod_bmod, Int.mul_comm (x.toInt.tdiv y.toInt), ← g3, ← g2]
    exact Int.bmod_eq_of_le_mul_two (by omega) (by omega)
  exact XS.lrem X.here hx hg hd hs hy (by rw [q]; exact hr)
end New
/-- from here the run ends, and as G says -/
def Goes (tb : Tables) (e : Env) (below : List Frame) (t : State) (G : State → Outcome → Prop) : Prop := ∃ s₂ o, Steps tb e below t s₂ ∧ s₂.status = .running ∧ Ended s₂ below o ∧ G s₂ o
variable {tb : Tables} {e : Env} {below : List Frame} {t t' : State} {G : State → Outcome → Prop}
theorem Goes.by (k : ∀ u, Steps tb e below t' u → Steps tb e below t u) (h : Goes tb e below t' G) : Goes tb e below t G := by
  obtain ⟨s₂, o, h1, h2⟩ := h; exact ⟨s₂, o, k _ h1, h2⟩
theorem Goes.via (k : Steps tb e below t t') (h : Goes tb e below t' G) : Goes tb e below t G := by
  obtain ⟨s₂, o, h1, h2⟩ := h; exact ⟨s₂, o, k.trans h1, h2⟩
theorem jl_t {x y : Int64} (h : x < y) : ifCond.holds .lt (lcmpW x y) = true ∧ ifCond.holds .ge (lcmpW x y) = false := ⟨(if0 _ _).trans (tlt ((lw_lt x y).mpr h)).1, (if0 _ _).trans (tlt ((lw_lt x y).mpr h)).2.1⟩
theorem jl_f {x y : Int64} (h : ¬ x < y) : ifCond.holds .lt (lcmpW x y) = false ∧ ifCond.holds .ge (lcmpW x y) = true := ⟨(if0 _ _).trans (flt (fun q => h ((lw_lt x y).mp q))).1, (if0 _ _).trans (flt (fun q => h ((lw_lt x y).mp q))).2.1⟩
theorem jg_t {x y : Int64} (h : y < x) : ifCond.holds .gt (lcmpW x y) = true ∧ ifCond.holds .le (lcmpW x y) = false := ⟨(if0 _ _).trans (tlt ((lw_gt x y).mpr h)).2.2.1, (if0 _ _).trans (tlt ((lw_gt x y).mpr h)).2.2.2⟩
theorem jg_f {x y : Int64} (h : ¬ y < x) : ifCond.holds .gt (lcmpW x y) = false ∧ ifCond.holds .le (lcmpW x y) = true := ⟨(if0 _ _).trans (flt (fun q => h ((lw_gt x y).mp q))).2.2.1, (if0 _ _).trans (flt (fun q => h ((lw_gt x y).mp q))).2.2.2⟩
theorem je_t {x y : Int64} (h : x = y) : ifCond.holds .eq (lcmpW x y) = true ∧ ifCond.holds .ne (lcmpW x y) = false := ⟨(if0 _ _).trans (teq ((lw_eq x y).mpr h)).1, (if0 _ _).trans (teq ((lw_eq x y).mpr h)).2⟩
theorem je_f {x y : Int64} (h : ¬ x = y) : ifCond.holds .eq (lcmpW x y) = false ∧ ifCond.holds .ne (lcmpW x y) = true := ⟨(if0 _ _).trans (feq (fun q => h ((lw_eq x y).mp q))).1, (if0 _ _).trans (feq (fun q => h ((lw_eq x y).mp q))).2⟩
theorem selP {Z s : State} {a0 args : Array Value} {y : MethodName} {n : Nat} (hZ : Z.Warmed39 s.vm) (wi : (Cond.instantiable y.cls n).before a0 Z = true) (wp : (Cond.privateMethod y).before a0 Z = true) (win : (Cond.instanceMethod y).before a0 Z = true) (hy : y.cls ≠ "java/lang/invoke/MethodHandle" ∧ y.cls ≠ "java/lang/invoke/VarHandle") : (Cond.selects y.cls y y).before args s = true := by
  have w1 : (Cond.instantiable y.cls n).before args s = true := mv hZ wi
  obtain ⟨c, k, h1, h2, -, h4, -⟩ := Cond.instantiable_spec w1
  rw [Bool.or_eq_false_iff] at h4
  exact selects_self_of_private h1 h2 h4.1 (Cond.privateMethod_at (mvP hZ wp (args := args))) (mv hZ win) hy
theorem narR {t : FieldType} {w : Value} (h : t.isReference = true) : narrow t w = w := by cases t <;> first | (cases h; done) | (cases w <;> rfl)
end Jvm.Pilot.@@N@@.OwnKit
namespace Jvm.Pilot.@@N@@
open Jvm Jvm.ClassFile Sem Op Lib Jvm.Free Jvm.Stand Jvm.LawKit Jvm.RoadKit Bundle Jvm.Pilot.@@N@@.Jvm.D Jvm.Pilot.@@N@@.OwnKit
theorem d2_0 : decode jdk_30_method_1_code 0 = .ok (.aload_n 0, 1) := by decide +kernel
theorem d2_1 : decode jdk_30_method_1_code 1 = .ok (.invokespecial 1, 3) := by decide +kernel
theorem d2_4 : decode jdk_30_method_1_code 4 = .ok (.return_, 1) := by decide +kernel
theorem pn_0 : plainName "java/lang/Record" = true := by first | (simp [plainName, overriddenIn]; done) | decide +kernel
theorem ef2 (m : MethodId) (oa : Addr) : entryFrame m #[(.ref oa)] 1 = mkF m 0 #[.val (.ref oa)] [] := by first | (simp [entryFrame, mkF, argsToLocals, Value.category]; done) | rfl
def Q2 (Z : State) (oa : Addr) (h0 : Heap) (n0 : Nat) (v : Option Value) (h : Heap) (L : List Loc) : Prop := v = none ∧ Fr n0 L ∧ h = h0
set_option maxRecDepth 65536 in
set_option maxHeartbeats 40000000 in
theorem rm2 (l : Launch) (Z : State) (a0 : Array Value) (hw : ∀ d ∈ tables_1, d.before a0 Z = true) (ws : List Jvm.Cond) (oa : Addr) (h0 : Heap) (n0 : Nat) (Z0 : n0 ≤ h0.size) :
    MetFree l (⟨"java/lang/Record", "<init>", "()V"⟩ : MethodName) (head1 (Jvm.Cond.code (⟨"java/lang/Record", "<init>", "()V"⟩ : MethodName) jdk_30_method_1_code 1 none :: ws) ({ frames := 1, cells := 0, slots := 0, locals := 12 } : Room)) (fun a U => a = #[(.ref oa)] ∧ Z.Warmed39 U.vm ∧ U.heap = h0) (fun _ _ _ _ _ => True) (fun _ U o U' => ∃ v L, o = .returned v ∧ Q2 Z oa h0 n0 v U'.heap L ∧ FrameEnd U o U' L ({ frames := 1, cells := 0, slots := 0, locals := 12 } : Room).cells ({ frames := 1, cells := 0, slots := 0, locals := 12 } : Room).slots) := by
  refine MetFree.of_bodySF (plainFor_of_name pn_0) hisR ?_
  intro p e s m args below meth c s₁ Bd hml0 hP hK
  obtain ⟨rfl, hZ, hh⟩ := hP
  have hx := Bd.exec
  have hby := Bd.bytes
  have hml : c.maxLocals = 1 := hml0
  have hown : s.vm.findClass "java/lang/Record" = some m.cls := findClass_of_methodNamed Bd.named
  have hnm := (name_of_methodNamed Bd.named Bd.method).1
  have X0 : Stand p l e ({ frames := 1, cells := 0, slots := 0, locals := 12 } : Room) s m #[(.ref oa)] below meth c s₁ [] 0 0 := Stand.of_body Bd
  have e0 : s₁.heap = h0 := by rw [← hh, Bd.state]; rfl
  have N0 := Fr.nil n0
  refine Goes.by (fun _ k => castTop (ef2 m oa) k) ?_
  show Goes p.tables e below (s₁.setTop (mkF m 0 #[.val (.ref oa)] [])) _
  refine Goes.by (fun _ k => XS.aloadN X0.here hx rfl (hb hby d2_0) rfl rfl k) ?_
  show Goes p.tables e below (s₁.setTop (mkF m 1 #[.val (.ref oa)] [(.ref oa)])) _
  obtain ⟨T1, X1, e1, st1⟩ := initO X0 hx hZ hown (hw _ (List.mem_of_getElem? (i := 11) rfl)) (hw _ (List.mem_of_getElem? (i := 12) rfl)) (hw _ (List.mem_of_getElem? (i := 13) rfl)) e0 (g := (mkF m 1 #[.val (.ref oa)] [(.ref oa)])) rfl (by rw [hml]; rfl) rfl (hb hby d2_1) (by decide) (W := 0) (by show 2 * 0 + _ ≤ _; exact Nat.le_of_eq rfl) (by decide)
  refine Goes.by st1 ?_
  show Goes p.tables e below (T1.setTop (mkF m 4 #[.val (.ref oa)] [])) _
  obtain ⟨fs, hr, hrun, hended, hW, hsame⟩ := X1.leave (v := none) (fun _ => rfl)
  refine ⟨_, _, X1.returnOut hx Bd.returns (hb hby d2_4) hr, hrun, hended, _, _, rfl, ?_, ⟨_, rfl⟩, hW, hsame.mono (by decide) (by decide)⟩
  show Q2 Z oa h0 n0 _ T1.heap _
  rw [e1]
  exact ⟨rfl, N0, rfl⟩
theorem d1_0 : decode prog_55_method_1_code 0 = .ok (.aload_n 0, 1) := by decide +kernel
theorem d1_1 : decode prog_55_method_1_code 1 = .ok (.invokespecial 1, 3) := by decide +kernel
theorem pd_0 : parseMethodDescriptor "()V" = some ⟨[], none⟩ := by decide +kernel
theorem d1_4 : decode prog_55_method_1_code 4 = .ok (.aload_n 0, 1) := by decide +kernel
theorem d1_5 : decode prog_55_method_1_code 5 = .ok (.iload_n 1, 1) := by decide +kernel
theorem d1_6 : decode prog_55_method_1_code 6 = .ok (.putfield 7, 3) := by decide +kernel
theorem d1_9 : decode prog_55_method_1_code 9 = .ok (.aload_n 0, 1) := by decide +kernel
theorem d1_10 : decode prog_55_method_1_code 10 = .ok (.lload_n 2, 1) := by decide +kernel
theorem d1_11 : decode prog_55_method_1_code 11 = .ok (.putfield 13, 3) := by decide +kernel
theorem d1_14 : decode prog_55_method_1_code 14 = .ok (.return_, 1) := by decide +kernel
theorem pn_1 : plainName "com/example/firm_quote/firmquote/store/Database$LogCopy" = true := by first | (simp [plainName, overriddenIn]; done) | decide +kernel
theorem ef1 (m : MethodId) (oa : Addr) (pdo : Int32) (pc0 : Int64) : entryFrame m #[(.ref oa), (.int pdo), (.long pc0)] 4 = mkF m 0 #[.val (.ref oa), .val (.int pdo), .val (.long pc0), .second] [] := by first | (simp [entryFrame, mkF, argsToLocals, Value.category]; done) | rfl
def Q1 (Z : State) (oa : Addr) (pdo : Int32) (pc0 : Int64) (h0 : Heap) (n0 : Nat) (v : Option Value) (h : Heap) (L : List Loc) : Prop := v = none ∧ Fr n0 L ∧ Keep h0 h [oa] ∧ Exa Z h oa "com/example/firm_quote/firmquote/store/Database$LogCopy" ∧ Fld Z h oa "com/example/firm_quote/firmquote/store/Database$LogCopy" "done" "Z" (.int (nar .boolean pdo)) ∧ Fld Z h oa "com/example/firm_quote/firmquote/store/Database$LogCopy" "copied" "J" (.long pc0)
set_option maxRecDepth 65536 in
set_option maxHeartbeats 40000000 in
theorem rm1 (l : Launch) (Z : State) (a0 : Array Value) (hw : ∀ d ∈ tables_1, d.before a0 Z = true) (ws : List Jvm.Cond) (oa : Addr) (pdo : Int32) (pc0 : Int64) (h0 : Heap) (n0 : Nat) (Z0 : n0 ≤ h0.size) (E_oa : Exa Z h0 oa "com/example/firm_quote/firmquote/store/Database$LogCopy") (F_oa_done : Fld Z h0 oa "com/example/firm_quote/firmquote/store/Database$LogCopy" "done" "Z" (.int (0 : Int32))) (F_oa_copied : Fld Z h0 oa "com/example/firm_quote/firmquote/store/Database$LogCopy" "copied" "J" (.long (0 : Int64))) (g_oa : n0 ≤ oa) :
    MetFree l (⟨"com/example/firm_quote/firmquote/store/Database$LogCopy", "<init>", "(ZJ)V"⟩ : MethodName) (head1 (Jvm.Cond.code (⟨"com/example/firm_quote/firmquote/store/Database$LogCopy", "<init>", "(ZJ)V"⟩ : MethodName) prog_55_method_1_code 4 none :: ws) ({ frames := 2, cells := 0, slots := 0, locals := 24 } : Room)) (fun a U => a = #[(.ref oa), (.int pdo), (.long pc0)] ∧ Z.Warmed39 U.vm ∧ U.heap = h0) (fun _ _ _ _ _ => True) (fun _ U o U' => ∃ v L, o = .returned v ∧ Q1 Z oa pdo pc0 h0 n0 v U'.heap L ∧ FrameEnd U o U' L ({ frames := 2, cells := 0, slots := 0, locals := 24 } : Room).cells ({ frames := 2, cells := 0, slots := 0, locals := 24 } : Room).slots) := by
  refine MetFree.of_bodySF (plainFor_of_name pn_1) hisR ?_
  intro p e s m args below meth c s₁ Bd hml0 hP hK
  obtain ⟨rfl, hZ, hh⟩ := hP
  have hx := Bd.exec
  have hby := Bd.bytes
  have hml : c.maxLocals = 4 := hml0
  have hown : s.vm.findClass "com/example/firm_quote/firmquote/store/Database$LogCopy" = some m.cls := findClass_of_methodNamed Bd.named
  have hnm := (name_of_methodNamed Bd.named Bd.method).1
  have X0 : Stand p l e ({ frames := 2, cells := 0, slots := 0, locals := 24 } : Room) s m #[(.ref oa), (.int pdo), (.long pc0)] below meth c s₁ [] 0 0 := Stand.of_body Bd
  have e0 : s₁.heap = h0 := by rw [← hh, Bd.state]; rfl
  have N0 := Fr.nil n0
  refine Goes.by (fun _ k => castTop (ef1 m oa pdo pc0) k) ?_
  show Goes p.tables e below (s₁.setTop (mkF m 0 #[.val (.ref oa), .val (.int pdo), .val (.long pc0), .second] [])) _
  refine Goes.by (fun _ k => XS.aloadN X0.here hx rfl (hb hby d1_0) rfl rfl k) ?_
  show Goes p.tables e below (s₁.setTop (mkF m 1 #[.val (.ref oa), .val (.int pdo), .val (.long pc0), .second] [(.ref oa)])) _
  obtain ⟨_, _, ⟨T1, L1, k1, n1⟩, -, X1, ⟨Lc1, hQ1, l1, y1, z1⟩, st1⟩ := X0.specialBack hx (y := (⟨"java/lang/Record", "<init>", "()V"⟩ : MethodName)) rfl hown (mvT hZ (hw _ (List.mem_of_getElem? (i := 6) rfl))) (mvT hZ (hw _ (List.mem_of_getElem? (i := 7) rfl))) (mvT hZ (hw _ (List.mem_of_getElem? (i := 10) rfl))) (by decide) (backOf (W := 0) (rm2 l Z a0 hw [] oa h0 n0 Z0) hZ (hw _ (List.mem_of_getElem? (i := 10) rfl)) (hw _ (List.mem_of_getElem? (i := 9) rfl)) (by decide) (by decide)) (g := (mkF m 1 #[.val (.ref oa), .val (.int pdo), .val (.long pc0), .second] [(.ref oa)])) rfl (by rw [hml]; rfl) (Steps.refl _) (a := oa) (argsL := []) (rest := []) (lenOf pd_0 rfl) rfl (by show 2 * 0 + _ ≤ _; exact Nat.le_of_eq rfl) (hb hby d1_1) (fun _ _ => ⟨rfl, e0, (by decide : 0 + 0 ≤ _), (by decide : 0 + 0 ≤ _)⟩)
  dsimp only [Pt.U, Pt.locs, Pt.cells, Pt.slots] at X1 l1 y1 z1 st1 hQ1
  subst l1 y1 z1
  obtain ⟨rfl, N1q, e1⟩ := hQ1
  have N1 := Fr.app N0 N1q
  refine Goes.via st1 ?_
  show Goes p.tables e below (T1.setTop (mkF m 4 #[.val (.ref oa), .val (.int pdo), .val (.long pc0), .second] [])) _
  refine Goes.by (fun _ k => XS.aloadN X1.here hx rfl (hb hby d1_4) rfl rfl k) ?_
  show Goes p.tables e below (T1.setTop (mkF m 5 #[.val (.ref oa), .val (.int pdo), .val (.long pc0), .second] [(.ref oa)])) _
  refine Goes.by (fun _ k => XS.iloadN X1.here hx rfl (hb hby d1_5) rfl k) ?_
  show Goes p.tables e below (T1.setTop (mkF m 6 #[.val (.ref oa), .val (.int pdo), .val (.long pc0), .second] [(.int pdo), (.ref oa)])) _
  obtain ⟨T2, h2, X2, e2, W2, st2⟩ := putFN X1 hx hZ hown (hw _ (List.mem_of_getElem? (i := 14) rfl)) Via.refl e1 F_oa_done E_oa (Or.inr ⟨(hw _ (List.mem_of_getElem? (i := 15) rfl)), rfl, hnm⟩) (hw _ (List.mem_of_getElem? (i := 1) rfl)) (ty := .boolean) (v' := .int (nar .boolean pdo)) (by decide) rfl (fits_nar_bool _) (g := (mkF m 6 #[.val (.ref oa), .val (.int pdo), .val (.long pc0), .second] [(.int pdo), (.ref oa)])) rfl rfl (hb hby d1_6)
  refine Goes.by st2 ?_
  have F_oa_done : Fld Z h2 oa "com/example/firm_quote/firmquote/store/Database$LogCopy" "done" "Z" (.int (nar .boolean pdo)) := F_oa_done.same W2
  have N2 := Fr.snoc X2 N1 g_oa
  have Zs2 : n0 ≤ h2.size := Nat.le_trans Z0 (Keep.of_wr W2).1
  have K2 : Keep h0 h2 [oa] := (Keep.refl h0 [oa]).wr W2 (Or.inl (List.mem_of_getElem? (i := 0) rfl))
  have E_oa : Exa Z h2 oa "com/example/firm_quote/firmquote/store/Database$LogCopy" := E_oa.wr W2
  have F_oa_copied : Fld Z h2 oa "com/example/firm_quote/firmquote/store/Database$LogCopy" "copied" "J" (.long (0 : Int64)) := F_oa_copied.other W2 (Or.inr (slot_ne (Or.inr (hw _ (List.mem_of_getElem? (i := 17) rfl))) (Or.inr (hw _ (List.mem_of_getElem? (i := 15) rfl))) (by decide) (t := .long) (t' := .boolean) (by decide) (by decide)))
  show Goes p.tables e below (T2.setTop (mkF m 9 #[.val (.ref oa), .val (.int pdo), .val (.long pc0), .second] [])) _
  refine Goes.by (fun _ k => XS.aloadN X2.here hx rfl (hb hby d1_9) rfl rfl k) ?_
  show Goes p.tables e below (T2.setTop (mkF m 10 #[.val (.ref oa), .val (.int pdo), .val (.long pc0), .second] [(.ref oa)])) _
  refine Goes.by (fun _ k => XS.lloadN X2.here hx rfl (hb hby d1_10) rfl k) ?_
  show Goes p.tables e below (T2.setTop (mkF m 11 #[.val (.ref oa), .val (.int pdo), .val (.long pc0), .second] [(.long pc0), (.ref oa)])) _
  obtain ⟨T3, h3, X3, e3, W3, st3⟩ := putF X2 hx hZ hown (host := "") (Or.inl (hw _ (List.mem_of_getElem? (i := 16) rfl))) Via.refl e2 F_oa_copied E_oa (Or.inr ⟨(hw _ (List.mem_of_getElem? (i := 17) rfl)), rfl, hnm⟩) (hw _ (List.mem_of_getElem? (i := 1) rfl)) (ty := .long) (by decide) rfl rfl (g := (mkF m 11 #[.val (.ref oa), .val (.int pdo), .val (.long pc0), .second] [(.long pc0), (.ref oa)])) rfl rfl (hb hby d1_11)
  refine Goes.by st3 ?_
  have F_oa_copied : Fld Z h3 oa "com/example/firm_quote/firmquote/store/Database$LogCopy" "copied" "J" (.long pc0) := F_oa_copied.same W3
  have N3 := Fr.snoc X3 N2 g_oa
  have Zs3 : n0 ≤ h3.size := Nat.le_trans Zs2 (Keep.of_wr W3).1
  have K3 : Keep h0 h3 [oa] := K2.wr W3 (Or.inl (List.mem_of_getElem? (i := 0) rfl))
  have E_oa : Exa Z h3 oa "com/example/firm_quote/firmquote/store/Database$LogCopy" := E_oa.wr W3
  have F_oa_done : Fld Z h3 oa "com/example/firm_quote/firmquote/store/Database$LogCopy" "done" "Z" (.int (nar .boolean pdo)) := F_oa_done.other W3 (Or.inr (slot_ne (Or.inr (hw _ (List.mem_of_getElem? (i := 15) rfl))) (Or.inr (hw _ (List.mem_of_getElem? (i := 17) rfl))) (by decide) (t := .boolean) (t' := .long) (by decide) (by decide)))
  show Goes p.tables e below (T3.setTop (mkF m 14 #[.val (.ref oa), .val (.int pdo), .val (.long pc0), .second] [])) _
  obtain ⟨fs, hr, hrun, hended, hW, hsame⟩ := X3.leave (v := none) (fun _ => rfl)
  refine ⟨_, _, X3.returnOut hx Bd.returns (hb hby d1_14) hr, hrun, hended, _, _, rfl, ?_, ⟨_, rfl⟩, hW, hsame.mono (by decide) (by decide)⟩
  show Q1 Z oa pdo pc0 h0 n0 _ T3.heap _
  rw [e3]
  exact ⟨rfl, N3, K3, E_oa, F_oa_done, F_oa_copied⟩
theorem d4_0 : decode prog_55_method_2_code 0 = .ok (.aload_n 0, 1) := by decide +kernel
theorem d4_1 : decode prog_55_method_2_code 1 = .ok (.getfield 13, 3) := by decide +kernel
theorem d4_4 : decode prog_55_method_2_code 4 = .ok (.aload_n 1, 1) := by decide +kernel
theorem d4_5 : decode prog_55_method_2_code 5 = .ok (.getfield 13, 3) := by decide +kernel
theorem d4_8 : decode prog_55_method_2_code 8 = .ok (.lcmp, 1) := by decide +kernel
theorem d4_9 : decode prog_55_method_2_code 9 = .ok (.ifCond .le 7, 3) := by decide +kernel
theorem d4_12 : decode prog_55_method_2_code 12 = .ok (.iconst 1, 1) := by decide +kernel
theorem d4_13 : decode prog_55_method_2_code 13 = .ok (.goto 4, 3) := by decide +kernel
theorem d4_17 : decode prog_55_method_2_code 17 = .ok (.ireturn, 1) := by decide +kernel
theorem d4_16 : decode prog_55_method_2_code 16 = .ok (.iconst 0, 1) := by decide +kernel
def fn4 (ua : Int64) (ub : Int64) : Int32 := (if ub < ua then (1 : Int32) else (0 : Int32))
theorem ef4 (m : MethodId) (oa : Addr) (ob : Addr) : entryFrame m #[(.ref oa), (.ref ob)] 2 = mkF m 0 #[.val (.ref oa), .val (.ref ob)] [] := by first | (simp [entryFrame, mkF, argsToLocals, Value.category]; done) | rfl
def Q4 (Z : State) (oa : Addr) (ob : Addr) (ua : Int64) (ub : Int64) (h0 : Heap) (n0 : Nat) (v : Option Value) (h : Heap) (L : List Loc) : Prop := v = some (.int (fn4 ua ub)) ∧ Fr n0 L ∧ h = h0
set_option maxRecDepth 65536 in
set_option maxHeartbeats 40000000 in
theorem rm4 (l : Launch) (Z : State) (a0 : Array Value) (hw : ∀ d ∈ tables_1, d.before a0 Z = true) (ws : List Jvm.Cond) (oa : Addr) (ob : Addr) (ua : Int64) (ub : Int64) (h0 : Heap) (n0 : Nat) (Z0 : n0 ≤ h0.size) (F_oa_copied : Fld Z h0 oa "com/example/firm_quote/firmquote/store/Database$LogCopy" "copied" "J" (.long ua)) (F_ob_copied : Fld Z h0 ob "com/example/firm_quote/firmquote/store/Database$LogCopy" "copied" "J" (.long ub)) :
    MetFree l (⟨"com/example/firm_quote/firmquote/store/Database$LogCopy", "past", "(Lcom/example/firm_quote/firmquote/store/Database$LogCopy;)Z"⟩ : MethodName) (head1 (Jvm.Cond.code (⟨"com/example/firm_quote/firmquote/store/Database$LogCopy", "past", "(Lcom/example/firm_quote/firmquote/store/Database$LogCopy;)Z"⟩ : MethodName) prog_55_method_2_code 2 (some .boolean) :: ws) ({ frames := 0, cells := 0, slots := 0, locals := 0 } : Room)) (fun a U => a = #[(.ref oa), (.ref ob)] ∧ Z.Warmed39 U.vm ∧ U.heap = h0) (fun _ _ _ _ _ => True) (fun _ U o U' => ∃ v L, o = .returned v ∧ Q4 Z oa ob ua ub h0 n0 v U'.heap L ∧ FrameEnd U o U' L ({ frames := 0, cells := 0, slots := 0, locals := 0 } : Room).cells ({ frames := 0, cells := 0, slots := 0, locals := 0 } : Room).slots) := by
  refine MetFree.of_bodySF (plainFor_of_name pn_1) hisR ?_
  intro p e s m args below meth c s₁ Bd hml0 hP hK
  obtain ⟨rfl, hZ, hh⟩ := hP
  have hx := Bd.exec
  have hby := Bd.bytes
  have hml : c.maxLocals = 2 := hml0
  have hown : s.vm.findClass "com/example/firm_quote/firmquote/store/Database$LogCopy" = some m.cls := findClass_of_methodNamed Bd.named
  have hnm := (name_of_methodNamed Bd.named Bd.method).1
  have X0 : Stand p l e ({ frames := 0, cells := 0, slots := 0, locals := 0 } : Room) s m #[(.ref oa), (.ref ob)] below meth c s₁ [] 0 0 := Stand.of_body Bd
  have e0 : s₁.heap = h0 := by rw [← hh, Bd.state]; rfl
  have N0 := Fr.nil n0
  refine Goes.by (fun _ k => castTop (ef4 m oa ob) k) ?_
  show Goes p.tables e below (s₁.setTop (mkF m 0 #[.val (.ref oa), .val (.ref ob)] [])) _
  refine Goes.by (fun _ k => XS.aloadN X0.here hx rfl (hb hby d4_0) rfl rfl k) ?_
  show Goes p.tables e below (s₁.setTop (mkF m 1 #[.val (.ref oa), .val (.ref ob)] [(.ref oa)])) _
  obtain ⟨T1, X1, e1, st1⟩ := getF X0 hx hZ hown (host := "") (Or.inl (hw _ (List.mem_of_getElem? (i := 16) rfl))) Via.refl e0 F_oa_copied (g := (mkF m 1 #[.val (.ref oa), .val (.ref ob)] [(.ref oa)])) rfl rfl (hb hby d4_1)
  refine Goes.by st1 ?_
  show Goes p.tables e below (T1.setTop (mkF m 4 #[.val (.ref oa), .val (.ref ob)] [(.long ua)])) _
  refine Goes.by (fun _ k => XS.aloadN X1.here hx rfl (hb hby d4_4) rfl rfl k) ?_
  show Goes p.tables e below (T1.setTop (mkF m 5 #[.val (.ref oa), .val (.ref ob)] [(.ref ob), (.long ua)])) _
  obtain ⟨T2, X2, e2, st2⟩ := getF X1 hx hZ hown (host := "") (Or.inl (hw _ (List.mem_of_getElem? (i := 16) rfl))) Via.refl e1 F_ob_copied (g := (mkF m 5 #[.val (.ref oa), .val (.ref ob)] [(.ref ob), (.long ua)])) rfl rfl (hb hby d4_5)
  refine Goes.by st2 ?_
  show Goes p.tables e below (T2.setTop (mkF m 8 #[.val (.ref oa), .val (.ref ob)] [(.long ub), (.long ua)])) _
  refine Goes.by (fun _ k => XS.lcmp X2.here hx rfl (hb hby d4_8) rfl k) ?_
  show Goes p.tables e below (T2.setTop (mkF m 9 #[.val (.ref oa), .val (.ref ob)] [(.int (lcmpW ua ub))])) _
  by_cases hc3 : ub < ua
  · refine Goes.by (fun _ k => XS.ifNo X2.here hx rfl (hb hby d4_9) rfl (jg_t hc3).2 k) ?_
    show Goes p.tables e below (T2.setTop (mkF m 12 #[.val (.ref oa), .val (.ref ob)] [])) _
    refine Goes.by (fun _ k => XS.iconst X2.here hx rfl (hb hby d4_12) k) ?_
    show Goes p.tables e below (T2.setTop (mkF m 13 #[.val (.ref oa), .val (.ref ob)] [(.int (1 : Int32))])) _
    refine Goes.by (fun _ k => XS.goto X2.here hx rfl (pc0 := 13) (pc' := 17) rfl (hb hby d4_13) (by decide) (by decide) k) ?_
    show Goes p.tables e below (T2.setTop (mkF m 17 #[.val (.ref oa), .val (.ref ob)] [(.int (1 : Int32))])) _
    obtain ⟨fs, hr, hrun, hended, hW, hsame⟩ := X2.leave (v := some (.int (1 : Int32))) (fun h => by rw [Bd.returns] at h; cases h)
    refine ⟨_, _, retN X2 hx (t := .boolean) Bd.returns (by simp) (hb hby d4_17) hr, hrun, hended, _, _, rfl, ?_, ⟨_, rfl⟩, hW, hsame.mono (by decide) (by decide)⟩
    show Q4 Z oa ob ua ub h0 n0 _ T2.heap _
    rw [e2]
    exact ⟨(by rw [fn4, if_pos hc3]), N0, rfl⟩
  · refine Goes.by (fun _ k => XS.ifYes X2.here hx rfl (pc0 := 9) (pc' := 16) rfl (hb hby d4_9) rfl (jg_f hc3).2 (by decide) (by decide) k) ?_
    show Goes p.tables e below (T2.setTop (mkF m 16 #[.val (.ref oa), .val (.ref ob)] [])) _
    refine Goes.by (fun _ k => XS.iconst X2.here hx rfl (hb hby d4_16) k) ?_
    show Goes p.tables e below (T2.setTop (mkF m 17 #[.val (.ref oa), .val (.ref ob)] [(.int (0 : Int32))])) _
    obtain ⟨fs, hr, hrun, hended, hW, hsame⟩ := X2.leave (v := some (.int (0 : Int32))) (fun h => by rw [Bd.returns] at h; cases h)
    refine ⟨_, _, retN X2 hx (t := .boolean) Bd.returns (by simp) (hb hby d4_17) hr, hrun, hended, _, _, rfl, ?_, ⟨_, rfl⟩, hW, hsame.mono (by decide) (by decide)⟩
    show Q4 Z oa ob ua ub h0 n0 _ T2.heap _
    rw [e2]
    exact ⟨(by rw [fn4, if_neg hc3]), N0, rfl⟩
theorem d5_0 : decode jdk_29_method_66_code 0 = .ok (.lload_n 0, 1) := by decide +kernel
theorem d5_1 : decode jdk_29_method_66_code 1 = .ok (.lload_n 2, 1) := by decide +kernel
theorem d5_2 : decode jdk_29_method_66_code 2 = .ok (.lcmp, 1) := by decide +kernel
theorem d5_3 : decode jdk_29_method_66_code 3 = .ok (.ifCond .lt 7, 3) := by decide +kernel
theorem d5_10 : decode jdk_29_method_66_code 10 = .ok (.lload_n 2, 1) := by decide +kernel
theorem d5_11 : decode jdk_29_method_66_code 11 = .ok (.lreturn, 1) := by decide +kernel
theorem d5_6 : decode jdk_29_method_66_code 6 = .ok (.lload_n 0, 1) := by decide +kernel
theorem d5_7 : decode jdk_29_method_66_code 7 = .ok (.goto 4, 3) := by decide +kernel
def fn5 (pa : Int64) (pb : Int64) : Int64 := (if pa < pb then pb else pa)
theorem ef5 (m : MethodId) (pa : Int64) (pb : Int64) : entryFrame m #[(.long pa), (.long pb)] 4 = mkF m 0 #[.val (.long pa), .second, .val (.long pb), .second] [] := by first | (simp [entryFrame, mkF, argsToLocals, Value.category]; done) | rfl
def Q5 (Z : State) (pa : Int64) (pb : Int64) (h0 : Heap) (n0 : Nat) (v : Option Value) (h : Heap) (L : List Loc) : Prop := v = some (.long (fn5 pa pb)) ∧ Fr n0 L ∧ h = h0
set_option maxRecDepth 65536 in
set_option maxHeartbeats 40000000 in
theorem rm5 (l : Launch) (Z : State) (a0 : Array Value) (hw : ∀ d ∈ tables_1, d.before a0 Z = true) (ws : List Jvm.Cond) (pa : Int64) (pb : Int64) (h0 : Heap) (n0 : Nat) (Z0 : n0 ≤ h0.size) :
    MetFree l (⟨"java/lang/Math", "max", "(JJ)J"⟩ : MethodName) (head1 (Jvm.Cond.code (⟨"java/lang/Math", "max", "(JJ)J"⟩ : MethodName) jdk_29_method_66_code 4 (some .long) :: ws) ({ frames := 0, cells := 0, slots := 0, locals := 0 } : Room)) (fun a U => a = #[(.long pa), (.long pb)] ∧ Z.Warmed39 U.vm ∧ U.heap = h0) (fun _ _ _ _ _ => True) (fun _ U o U' => ∃ v L, o = .returned v ∧ Q5 Z pa pb h0 n0 v U'.heap L ∧ FrameEnd U o U' L ({ frames := 0, cells := 0, slots := 0, locals := 0 } : Room).cells ({ frames := 0, cells := 0, slots := 0, locals := 0 } : Room).slots) := by
  refine MetFree.of_bodySF (Jvm.Free.JP.mathPlain rfl (by decide +kernel)) hisR ?_
  intro p e s m args below meth c s₁ Bd hml0 hP hK
  obtain ⟨rfl, hZ, hh⟩ := hP
  have hx := Bd.exec
  have hby := Bd.bytes
  have hml : c.maxLocals = 4 := hml0
  have hown : s.vm.findClass "java/lang/Math" = some m.cls := findClass_of_methodNamed Bd.named
  have hnm := (name_of_methodNamed Bd.named Bd.method).1
  have X0 : Stand p l e ({ frames := 0, cells := 0, slots := 0, locals := 0 } : Room) s m #[(.long pa), (.long pb)] below meth c s₁ [] 0 0 := Stand.of_body Bd
  have e0 : s₁.heap = h0 := by rw [← hh, Bd.state]; rfl
  have N0 := Fr.nil n0
  refine Goes.by (fun _ k => castTop (ef5 m pa pb) k) ?_
  show Goes p.tables e below (s₁.setTop (mkF m 0 #[.val (.long pa), .second, .val (.long pb), .second] [])) _
  refine Goes.by (fun _ k => XS.lloadN X0.here hx rfl (hb hby d5_0) rfl k) ?_
  show Goes p.tables e below (s₁.setTop (mkF m 1 #[.val (.long pa), .second, .val (.long pb), .second] [(.long pa)])) _
  refine Goes.by (fun _ k => XS.lloadN X0.here hx rfl (hb hby d5_1) rfl k) ?_
  show Goes p.tables e below (s₁.setTop (mkF m 2 #[.val (.long pa), .second, .val (.long pb), .second] [(.long pb), (.long pa)])) _
  refine Goes.by (fun _ k => XS.lcmp X0.here hx rfl (hb hby d5_2) rfl k) ?_
  show Goes p.tables e below (s₁.setTop (mkF m 3 #[.val (.long pa), .second, .val (.long pb), .second] [(.int (lcmpW pa pb))])) _
  by_cases hc1 : pa < pb
  · refine Goes.by (fun _ k => XS.ifYes X0.here hx rfl (pc0 := 3) (pc' := 10) rfl (hb hby d5_3) rfl (jl_t hc1).1 (by decide) (by decide) k) ?_
    show Goes p.tables e below (s₁.setTop (mkF m 10 #[.val (.long pa), .second, .val (.long pb), .second] [])) _
    refine Goes.by (fun _ k => XS.lloadN X0.here hx rfl (hb hby d5_10) rfl k) ?_
    show Goes p.tables e below (s₁.setTop (mkF m 11 #[.val (.long pa), .second, .val (.long pb), .second] [(.long pb)])) _
    obtain ⟨fs, hr, hrun, hended, hW, hsame⟩ := X0.leave (v := some (.long pb)) (fun h => by rw [Bd.returns] at h; cases h)
    refine ⟨_, _, retOut X0 hx Bd.returns (i := .lreturn) rfl (Or.inr (Or.inl ⟨rfl, rfl, _, rfl⟩)) (hb hby d5_11) hr, hrun, hended, _, _, rfl, ?_, ⟨_, rfl⟩, hW, hsame.mono (by decide) (by decide)⟩
    show Q5 Z pa pb h0 n0 _ s₁.heap _
    rw [e0]
    exact ⟨(by rw [fn5, if_pos hc1]), N0, rfl⟩
  · refine Goes.by (fun _ k => XS.ifNo X0.here hx rfl (hb hby d5_3) rfl (jl_f hc1).1 k) ?_
    show Goes p.tables e below (s₁.setTop (mkF m 6 #[.val (.long pa), .second, .val (.long pb), .second] [])) _
    refine Goes.by (fun _ k => XS.lloadN X0.here hx rfl (hb hby d5_6) rfl k) ?_
    show Goes p.tables e below (s₁.setTop (mkF m 7 #[.val (.long pa), .second, .val (.long pb), .second] [(.long pa)])) _
    refine Goes.by (fun _ k => XS.goto X0.here hx rfl (pc0 := 7) (pc' := 11) rfl (hb hby d5_7) (by decide) (by decide) k) ?_
    show Goes p.tables e below (s₁.setTop (mkF m 11 #[.val (.long pa), .second, .val (.long pb), .second] [(.long pa)])) _
    obtain ⟨fs, hr, hrun, hended, hW, hsame⟩ := X0.leave (v := some (.long pa)) (fun h => by rw [Bd.returns] at h; cases h)
    refine ⟨_, _, retOut X0 hx Bd.returns (i := .lreturn) rfl (Or.inr (Or.inl ⟨rfl, rfl, _, rfl⟩)) (hb hby d5_11) hr, hrun, hended, _, _, rfl, ?_, ⟨_, rfl⟩, hW, hsame.mono (by decide) (by decide)⟩
    show Q5 Z pa pb h0 n0 _ s₁.heap _
    rw [e0]
    exact ⟨(by rw [fn5, if_neg hc1]), N0, rfl⟩
theorem own_p (a b : Int64) : fn4 a b = if a = b then (0 : Int32) else if fn5 a b = a then (1 : Int32) else (0 : Int32) := by
  rw [fn4, fn5]
  by_cases h1 : a < b
  · rw [if_pos h1]
    (repeat' split) <;> first | rfl | (exfalso; rename_i h; exact h rfl) | (exfalso; simp only [← Int64.toInt_inj, Int64.lt_iff_toInt_lt] at *; omega)
  · rw [if_neg h1]
    (repeat' split) <;> first | rfl | (exfalso; rename_i h; exact h rfl) | (exfalso; simp only [← Int64.toInt_inj, Int64.lt_iff_toInt_lt] at *; omega)
theorem own_q (a b : Int64) : fn4 b a = if a = b then (0 : Int32) else if fn5 a b = b then (1 : Int32) else (0 : Int32) := by
  rw [fn4, fn5]
  by_cases h1 : a < b
  · rw [if_pos h1, if_pos h1]
    (repeat' split) <;> first | rfl | (exfalso; rename_i h; exact h rfl) | (exfalso; simp only [← Int64.toInt_inj, Int64.lt_iff_toInt_lt] at *; omega)
  · rw [if_neg h1, if_neg h1]
    (repeat' split) <;> first | rfl | (exfalso; rename_i h; exact h rfl) | (exfalso; simp only [← Int64.toInt_inj, Int64.lt_iff_toInt_lt] at *; omega)
theorem own_s (a : Int64) : fn4 a a = (0 : Int32) := by rw [fn4, if_neg]; rw [Int64.lt_iff_toInt_lt]; omega
theorem pd_1 : parseMethodDescriptor "(ZJ)V" = some ⟨[.boolean, .long], none⟩ := by decide +kernel
theorem pd_2 : parseMethodDescriptor "(Lcom/example/firm_quote/firmquote/store/Database$LogCopy;)Z" = some ⟨[(.object "com/example/firm_quote/firmquote/store/Database$LogCopy")], some .boolean⟩ := by decide +kernel
theorem pd_3 : parseMethodDescriptor "(JJ)J" = some ⟨[.long, .long], some .long⟩ := by decide +kernel
theorem pn_2 : plainName "com/example/firm_quote/firmquote/store/LogCopyPastPinLaw" = true := by first | (simp [plainName, overriddenIn]; done) | decide +kernel
theorem ef0 (m : MethodId) (pa : Int64) (pb : Int64) (pf : Int32) : entryFrame m #[(.long pa), (.long pb), (.int pf)] maxLocals = mkF m 0 #[.val (.long pa), .second, .val (.long pb), .second, .val (.int pf), .unset, .unset, .unset, .unset, .unset, .unset, .unset, .unset, .unset, .unset, .unset] [] := by first | (simp [entryFrame, mkF, argsToLocals, Value.category, maxLocals]; done) | rfl
def Q0 (Z : State) (pa : Int64) (pb : Int64) (pf : Int32) (h0 : Heap) (n0 : Nat) (v : Option Value) (h : Heap) (L : List Loc) : Prop := v = some (.int (1 : Int32)) ∧ Fr n0 L
set_option maxRecDepth 65536 in
set_option maxHeartbeats 40000000 in
theorem rm0 (l : Launch) (Z : State) (a0 : Array Value) (hw : ∀ d ∈ tables_1, d.before a0 Z = true) (ws : List Jvm.Cond) (pa : Int64) (pb : Int64) (pf : Int32) (h0 : Heap) (n0 : Nat) (Z0 : n0 ≤ h0.size) :
    MetFree l x (head1 (Jvm.Cond.code x code maxLocals ret :: ws) room_1) (fun a U => a = #[(.long pa), (.long pb), (.int pf)] ∧ Z.Warmed39 U.vm ∧ U.heap = h0) (fun _ _ _ _ _ => True) (fun _ U o U' => ∃ v L, o = .returned v ∧ Q0 Z pa pb pf h0 n0 v U'.heap L ∧ FrameEnd U o U' L room_1.cells room_1.slots) := by
  refine MetFree.of_bodySF (plainFor_of_name pn_2) hisR ?_
  intro p e s m args below meth c s₁ Bd hml0 hP hK
  obtain ⟨rfl, hZ, hh⟩ := hP
  have hx := Bd.exec
  have hby := Bd.bytes
  have hml : c.maxLocals = 16 := hml0
  have hown : s.vm.findClass "com/example/firm_quote/firmquote/store/LogCopyPastPinLaw" = some m.cls := findClass_of_methodNamed Bd.named
  have hnm := (name_of_methodNamed Bd.named Bd.method).1
  have X0 : Stand p l e room_1 s m #[(.long pa), (.long pb), (.int pf)] below meth c s₁ [] 0 0 := Stand.of_body Bd
  have e0 : s₁.heap = h0 := by rw [← hh, Bd.state]; rfl
  have N0 := Fr.nil n0
  refine Goes.by (fun _ k => castTop (ef0 m pa pb pf) k) ?_
  show Goes p.tables e below (s₁.setTop (mkF m 0 #[.val (.long pa), .second, .val (.long pb), .second, .val (.int pf), .unset, .unset, .unset, .unset, .unset, .unset, .unset, .unset, .unset, .unset, .unset] [])) _
  refine Goes.by (fun _ k => XS.iload X0.here hx rfl (hb hby at_0) rfl k) ?_
  show Goes p.tables e below (s₁.setTop (mkF m 2 #[.val (.long pa), .second, .val (.long pb), .second, .val (.int pf), .unset, .unset, .unset, .unset, .unset, .unset, .unset, .unset, .unset, .unset, .unset] [(.int pf)])) _
  refine Goes.by (fun _ k => XS.iconst X0.here hx rfl (hb hby at_2) k) ?_
  show Goes p.tables e below (s₁.setTop (mkF m 3 #[.val (.long pa), .second, .val (.long pb), .second, .val (.int pf), .unset, .unset, .unset, .unset, .unset, .unset, .unset, .unset, .unset, .unset, .unset] [(.int (1 : Int32)), (.int pf)])) _
  refine Goes.by (fun _ k => XS.iand X0.here hx rfl (hb hby at_3) rfl k) ?_
  show Goes p.tables e below (s₁.setTop (mkF m 4 #[.val (.long pa), .second, .val (.long pb), .second, .val (.int pf), .unset, .unset, .unset, .unset, .unset, .unset, .unset, .unset, .unset, .unset, .unset] [(.int (pf &&& (1 : Int32)))])) _
  obtain ⟨v1, hv1⟩ : ∃ z : Int32, z = (if (pf &&& (1 : Int32)) = (0 : Int32) then (0 : Int32) else (1 : Int32)) := ⟨_, rfl⟩
  refine Goes.by (t' := s₁.setTop (mkF m 12 #[.val (.long pa), .second, .val (.long pb), .second, .val (.int pf), .unset, .unset, .unset, .unset, .unset, .unset, .unset, .unset, .unset, .unset, .unset] [(.int v1)])) (fun u k => ?_) ?_
  · show Steps p.tables e below (s₁.setTop (mkF m 4 #[.val (.long pa), .second, .val (.long pb), .second, .val (.int pf), .unset, .unset, .unset, .unset, .unset, .unset, .unset, .unset, .unset, .unset, .unset] [(.int (pf &&& (1 : Int32)))])) _
    by_cases hc2 : (pf &&& (1 : Int32)) = (0 : Int32)
    · refine XS.ifYes X0.here hx rfl (pc0 := 4) (pc' := 11) rfl (hb hby at_4) rfl ((if0 _ _).trans (teq hc2).1) (by decide) (by decide) ?_
      show Steps p.tables e below (s₁.setTop (mkF m 11 #[.val (.long pa), .second, .val (.long pb), .second, .val (.int pf), .unset, .unset, .unset, .unset, .unset, .unset, .unset, .unset, .unset, .unset, .unset] [])) _
      refine XS.iconst X0.here hx rfl (hb hby at_11) ?_
      show Steps p.tables e below (s₁.setTop (mkF m 12 #[.val (.long pa), .second, .val (.long pb), .second, .val (.int pf), .unset, .unset, .unset, .unset, .unset, .unset, .unset, .unset, .unset, .unset, .unset] [(.int (0 : Int32))])) _
      have qv1 : v1 = (0 : Int32) := by rw [hv1, if_pos hc2]
      subst qv1
      exact k
    · refine XS.ifNo X0.here hx rfl (hb hby at_4) rfl ((if0 _ _).trans (feq hc2).1) ?_
      show Steps p.tables e below (s₁.setTop (mkF m 7 #[.val (.long pa), .second, .val (.long pb), .second, .val (.int pf), .unset, .unset, .unset, .unset, .unset, .unset, .unset, .unset, .unset, .unset, .unset] [])) _
      refine XS.iconst X0.here hx rfl (hb hby at_7) ?_
      show Steps p.tables e below (s₁.setTop (mkF m 8 #[.val (.long pa), .second, .val (.long pb), .second, .val (.int pf), .unset, .unset, .unset, .unset, .unset, .unset, .unset, .unset, .unset, .unset, .unset] [(.int (1 : Int32))])) _
      refine XS.goto X0.here hx rfl (pc0 := 8) (pc' := 12) rfl (hb hby at_8) (by decide) (by decide) ?_
      show Steps p.tables e below (s₁.setTop (mkF m 12 #[.val (.long pa), .second, .val (.long pb), .second, .val (.int pf), .unset, .unset, .unset, .unset, .unset, .unset, .unset, .unset, .unset, .unset, .unset] [(.int (1 : Int32))])) _
      have qv1 : v1 = (1 : Int32) := by rw [hv1, if_neg hc2]
      subst qv1
      exact k
  show Goes p.tables e below (s₁.setTop (mkF m 12 #[.val (.long pa), .second, .val (.long pb), .second, .val (.int pf), .unset, .unset, .unset, .unset, .unset, .unset, .unset, .unset, .unset, .unset, .unset] [(.int v1)])) _
  refine Goes.by (fun _ k => XS.istore X0.here hx rfl (hb hby at_12) rfl (l' := #[.val (.long pa), .second, .val (.long pb), .second, .val (.int pf), .val (.int v1), .unset, .unset, .unset, .unset, .unset, .unset, .unset, .unset, .unset, .unset]) rfl k) ?_
  show Goes p.tables e below (s₁.setTop (mkF m 14 #[.val (.long pa), .second, .val (.long pb), .second, .val (.int pf), .val (.int v1), .unset, .unset, .unset, .unset, .unset, .unset, .unset, .unset, .unset, .unset] [])) _
  refine Goes.by (fun _ k => XS.iload X0.here hx rfl (hb hby at_14) rfl k) ?_
  show Goes p.tables e below (s₁.setTop (mkF m 16 #[.val (.long pa), .second, .val (.long pb), .second, .val (.int pf), .val (.int v1), .unset, .unset, .unset, .unset, .unset, .unset, .unset, .unset, .unset, .unset] [(.int pf)])) _
  refine Goes.by (fun _ k => XS.iconst X0.here hx rfl (hb hby at_16) k) ?_
  show Goes p.tables e below (s₁.setTop (mkF m 17 #[.val (.long pa), .second, .val (.long pb), .second, .val (.int pf), .val (.int v1), .unset, .unset, .unset, .unset, .unset, .unset, .unset, .unset, .unset, .unset] [(.int (2 : Int32)), (.int pf)])) _
  refine Goes.by (fun _ k => XS.iand X0.here hx rfl (hb hby at_17) rfl k) ?_
  show Goes p.tables e below (s₁.setTop (mkF m 18 #[.val (.long pa), .second, .val (.long pb), .second, .val (.int pf), .val (.int v1), .unset, .unset, .unset, .unset, .unset, .unset, .unset, .unset, .unset, .unset] [(.int (pf &&& (2 : Int32)))])) _
  obtain ⟨v3, hv3⟩ : ∃ z : Int32, z = (if (pf &&& (2 : Int32)) = (0 : Int32) then (0 : Int32) else (1 : Int32)) := ⟨_, rfl⟩
  refine Goes.by (t' := s₁.setTop (mkF m 26 #[.val (.long pa), .second, .val (.long pb), .second, .val (.int pf), .val (.int v1), .unset, .unset, .unset, .unset, .unset, .unset, .unset, .unset, .unset, .unset] [(.int v3)])) (fun u k => ?_) ?_
  · show Steps p.tables e below (s₁.setTop (mkF m 18 #[.val (.long pa), .second, .val (.long pb), .second, .val (.int pf), .val (.int v1), .unset, .unset, .unset, .unset, .unset, .unset, .unset, .unset, .unset, .unset] [(.int (pf &&& (2 : Int32)))])) _
    by_cases hc4 : (pf &&& (2 : Int32)) = (0 : Int32)
    · refine XS.ifYes X0.here hx rfl (pc0 := 18) (pc' := 25) rfl (hb hby at_18) rfl ((if0 _ _).trans (teq hc4).1) (by decide) (by decide) ?_
      show Steps p.tables e below (s₁.setTop (mkF m 25 #[.val (.long pa), .second, .val (.long pb), .second, .val (.int pf), .val (.int v1), .unset, .unset, .unset, .unset, .unset, .unset, .unset, .unset, .unset, .unset] [])) _
      refine XS.iconst X0.here hx rfl (hb hby at_25) ?_
      show Steps p.tables e below (s₁.setTop (mkF m 26 #[.val (.long pa), .second, .val (.long pb), .second, .val (.int pf), .val (.int v1), .unset, .unset, .unset, .unset, .unset, .unset, .unset, .unset, .unset, .unset] [(.int (0 : Int32))])) _
      have qv3 : v3 = (0 : Int32) := by rw [hv3, if_pos hc4]
      subst qv3
      exact k
    · refine XS.ifNo X0.here hx rfl (hb hby at_18) rfl ((if0 _ _).trans (feq hc4).1) ?_
      show Steps p.tables e below (s₁.setTop (mkF m 21 #[.val (.long pa), .second, .val (.long pb), .second, .val (.int pf), .val (.int v1), .unset, .unset, .unset, .unset, .unset, .unset, .unset, .unset, .unset, .unset] [])) _
      refine XS.iconst X0.here hx rfl (hb hby at_21) ?_
      show Steps p.tables e below (s₁.setTop (mkF m 22 #[.val (.long pa), .second, .val (.long pb), .second, .val (.int pf), .val (.int v1), .unset, .unset, .unset, .unset, .unset, .unset, .unset, .unset, .unset, .unset] [(.int (1 : Int32))])) _
      refine XS.goto X0.here hx rfl (pc0 := 22) (pc' := 26) rfl (hb hby at_22) (by decide) (by decide) ?_
      show Steps p.tables e below (s₁.setTop (mkF m 26 #[.val (.long pa), .second, .val (.long pb), .second, .val (.int pf), .val (.int v1), .unset, .unset, .unset, .unset, .unset, .unset, .unset, .unset, .unset, .unset] [(.int (1 : Int32))])) _
      have qv3 : v3 = (1 : Int32) := by rw [hv3, if_neg hc4]
      subst qv3
      exact k
  show Goes p.tables e below (s₁.setTop (mkF m 26 #[.val (.long pa), .second, .val (.long pb), .second, .val (.int pf), .val (.int v1), .unset, .unset, .unset, .unset, .unset, .unset, .unset, .unset, .unset, .unset] [(.int v3)])) _
  refine Goes.by (fun _ k => XS.istore X0.here hx rfl (hb hby at_26) rfl (l' := #[.val (.long pa), .second, .val (.long pb), .second, .val (.int pf), .val (.int v1), .val (.int v3), .unset, .unset, .unset, .unset, .unset, .unset, .unset, .unset, .unset]) rfl k) ?_
  show Goes p.tables e below (s₁.setTop (mkF m 28 #[.val (.long pa), .second, .val (.long pb), .second, .val (.int pf), .val (.int v1), .val (.int v3), .unset, .unset, .unset, .unset, .unset, .unset, .unset, .unset, .unset] [])) _
  obtain ⟨T5, h5, X5, e5, E5, A5, D5, -, st5⟩ := newO X0 hx hZ hown (hw _ (List.mem_of_getElem? (i := 0) rfl)) (hw _ (List.mem_of_getElem? (i := 1) rfl)) (hw _ (List.mem_of_getElem? (i := 2) rfl)) e0 (g := (mkF m 28 #[.val (.long pa), .second, .val (.long pb), .second, .val (.int pf), .val (.int v1), .val (.int v3), .unset, .unset, .unset, .unset, .unset, .unset, .unset, .unset, .unset] [])) rfl (hb hby at_28) (by decide) (by decide)
  obtain ⟨b5, g5⟩ : ∃ z, z = h0.size := ⟨_, rfl⟩
  rw [← g5] at A5 D5 st5
  have g_b5 : n0 ≤ b5 := Nat.le_trans Z0 (Nat.le_of_eq g5.symm)
  have sz_b5 : h0.size ≤ b5 := Nat.le_trans (Keep.refl h0 []).1 (Nat.le_of_eq g5.symm)
  have Zs5 : n0 ≤ h5.size := Nat.le_trans Z0 E5.1
  have K5 : Keep h0 h5 [] := (Keep.refl h0 []).ext E5
  refine Goes.by st5 ?_
  have E_b5 : Exa Z h5 b5 "com/example/firm_quote/firmquote/store/Database$LogCopy" := A5
  have F_b5_done : Fld Z h5 b5 "com/example/firm_quote/firmquote/store/Database$LogCopy" "done" "Z" (.int (0 : Int32)) := D5 (Or.inr (hw _ (List.mem_of_getElem? (i := 15) rfl))) (ty := .boolean) (by decide)
  have F_b5_copied : Fld Z h5 b5 "com/example/firm_quote/firmquote/store/Database$LogCopy" "copied" "J" (.long (0 : Int64)) := D5 (Or.inr (hw _ (List.mem_of_getElem? (i := 17) rfl))) (ty := .long) (by decide)
  show Goes p.tables e below (T5.setTop (mkF m 31 #[.val (.long pa), .second, .val (.long pb), .second, .val (.int pf), .val (.int v1), .val (.int v3), .unset, .unset, .unset, .unset, .unset, .unset, .unset, .unset, .unset] [(.ref b5)])) _
  refine Goes.by (fun _ k => XS.dup X5.here hx rfl (hb hby at_31) rfl rfl k) ?_
  show Goes p.tables e below (T5.setTop (mkF m 32 #[.val (.long pa), .second, .val (.long pb), .second, .val (.int pf), .val (.int v1), .val (.int v3), .unset, .unset, .unset, .unset, .unset, .unset, .unset, .unset, .unset] [(.ref b5), (.ref b5)])) _
  refine Goes.by (fun _ k => XS.iload X5.here hx rfl (hb hby at_32) rfl k) ?_
  show Goes p.tables e below (T5.setTop (mkF m 34 #[.val (.long pa), .second, .val (.long pb), .second, .val (.int pf), .val (.int v1), .val (.int v3), .unset, .unset, .unset, .unset, .unset, .unset, .unset, .unset, .unset] [(.int v1), (.ref b5), (.ref b5)])) _
  refine Goes.by (fun _ k => XS.lloadN X5.here hx rfl (hb hby at_34) rfl k) ?_
  show Goes p.tables e below (T5.setTop (mkF m 35 #[.val (.long pa), .second, .val (.long pb), .second, .val (.int pf), .val (.int v1), .val (.int v3), .unset, .unset, .unset, .unset, .unset, .unset, .unset, .unset, .unset] [(.long pa), (.int v1), (.ref b5), (.ref b5)])) _
  obtain ⟨_, _, ⟨T6, L6, k6, n6⟩, -, X6, ⟨Lc6, hQ6, l6, y6, z6⟩, st6⟩ := X5.specialBack hx (y := (⟨"com/example/firm_quote/firmquote/store/Database$LogCopy", "<init>", "(ZJ)V"⟩ : MethodName)) rfl hown (mvT hZ (hw _ (List.mem_of_getElem? (i := 3) rfl))) (mvT hZ (hw _ (List.mem_of_getElem? (i := 4) rfl))) (mvT hZ (hw _ (List.mem_of_getElem? (i := 5) rfl))) (by decide) (backOf (W := 1) (rm1 l Z a0 hw [] b5 v1 pa h5 n0 Zs5 E_b5 F_b5_done F_b5_copied g_b5) hZ (hw _ (List.mem_of_getElem? (i := 5) rfl)) (hw _ (List.mem_of_getElem? (i := 2) rfl)) (by decide) (by decide)) (g := (mkF m 35 #[.val (.long pa), .second, .val (.long pb), .second, .val (.int pf), .val (.int v1), .val (.int v3), .unset, .unset, .unset, .unset, .unset, .unset, .unset, .unset, .unset] [(.long pa), (.int v1), (.ref b5), (.ref b5)])) rfl (by rw [hml]; rfl) (Steps.refl _) (a := b5) (argsL := [(.int v1), (.long pa)]) (rest := [(.ref b5)]) (lenOf pd_1 rfl) rfl (by show 2 * 0 + _ ≤ _; exact Nat.le_of_eq rfl) (hb hby at_35) (fun _ _ => ⟨rfl, e5, (by decide : 1 + 0 ≤ _), (by decide : 2 + 0 ≤ _)⟩)
  dsimp only [Pt.U, Pt.locs, Pt.cells, Pt.slots] at X6 l6 y6 z6 st6 hQ6
  subst l6 y6 z6
  obtain ⟨rfl, N6q, Kq6, po6_0, po6_1, po6_2⟩ := hQ6
  have N6 := Fr.app N0 N6q
  refine Goes.via st6 ?_
  have Zs6 : n0 ≤ T6.heap.size := Nat.le_trans Zs5 Kq6.1
  have K6 : Keep h0 T6.heap [] := K5.trans Kq6 (allS (Or.inr sz_b5) all0)
  have E_b5 : Exa Z T6.heap b5 "com/example/firm_quote/firmquote/store/Database$LogCopy" := E_b5.keep Kq6
  have E_b5 : Exa Z T6.heap b5 "com/example/firm_quote/firmquote/store/Database$LogCopy" := po6_0
  have F_b5_done : Fld Z T6.heap b5 "com/example/firm_quote/firmquote/store/Database$LogCopy" "done" "Z" (.int (nar .boolean v1)) := po6_1
  have F_b5_copied : Fld Z T6.heap b5 "com/example/firm_quote/firmquote/store/Database$LogCopy" "copied" "J" (.long pa) := po6_2
  show Goes p.tables e below (T6.setTop (mkF m 38 #[.val (.long pa), .second, .val (.long pb), .second, .val (.int pf), .val (.int v1), .val (.int v3), .unset, .unset, .unset, .unset, .unset, .unset, .unset, .unset, .unset] [(.ref b5)])) _
  refine Goes.by (fun _ k => XS.astore X6.here hx rfl (hb hby at_38) rfl rfl (l' := #[.val (.long pa), .second, .val (.long pb), .second, .val (.int pf), .val (.int v1), .val (.int v3), .val (.ref b5), .unset, .unset, .unset, .unset, .unset, .unset, .unset, .unset]) rfl k) ?_
  show Goes p.tables e below (T6.setTop (mkF m 40 #[.val (.long pa), .second, .val (.long pb), .second, .val (.int pf), .val (.int v1), .val (.int v3), .val (.ref b5), .unset, .unset, .unset, .unset, .unset, .unset, .unset, .unset] [])) _
  obtain ⟨T7, h7, X7, e7, E7, A7, D7, -, st7⟩ := newO X6 hx hZ hown (hw _ (List.mem_of_getElem? (i := 0) rfl)) (hw _ (List.mem_of_getElem? (i := 1) rfl)) (hw _ (List.mem_of_getElem? (i := 2) rfl)) rfl (g := (mkF m 40 #[.val (.long pa), .second, .val (.long pb), .second, .val (.int pf), .val (.int v1), .val (.int v3), .val (.ref b5), .unset, .unset, .unset, .unset, .unset, .unset, .unset, .unset] [])) rfl (hb hby at_40) (by decide) (by decide)
  obtain ⟨b7, g7⟩ : ∃ z, z = T6.heap.size := ⟨_, rfl⟩
  rw [← g7] at A7 D7 st7
  have g_b7 : n0 ≤ b7 := Nat.le_trans Zs6 (Nat.le_of_eq g7.symm)
  have sz_b7 : h0.size ≤ b7 := Nat.le_trans K6.1 (Nat.le_of_eq g7.symm)
  have ne_b5_b7 : b5 ≠ b7 := Nat.ne_of_lt (Nat.lt_of_lt_of_le E_b5.lt (Nat.le_of_eq g7.symm))
  have Zs7 : n0 ≤ h7.size := Nat.le_trans Zs6 E7.1
  have K7 : Keep h0 h7 [] := K6.ext E7
  refine Goes.by st7 ?_
  have E_b5 : Exa Z h7 b5 "com/example/firm_quote/firmquote/store/Database$LogCopy" := E_b5.ext E7
  have F_b5_done : Fld Z h7 b5 "com/example/firm_quote/firmquote/store/Database$LogCopy" "done" "Z" (.int (nar .boolean v1)) := F_b5_done.ext E7
  have F_b5_copied : Fld Z h7 b5 "com/example/firm_quote/firmquote/store/Database$LogCopy" "copied" "J" (.long pa) := F_b5_copied.ext E7
  have E_b7 : Exa Z h7 b7 "com/example/firm_quote/firmquote/store/Database$LogCopy" := A7
  have F_b7_done : Fld Z h7 b7 "com/example/firm_quote/firmquote/store/Database$LogCopy" "done" "Z" (.int (0 : Int32)) := D7 (Or.inr (hw _ (List.mem_of_getElem? (i := 15) rfl))) (ty := .boolean) (by decide)
  have F_b7_copied : Fld Z h7 b7 "com/example/firm_quote/firmquote/store/Database$LogCopy" "copied" "J" (.long (0 : Int64)) := D7 (Or.inr (hw _ (List.mem_of_getElem? (i := 17) rfl))) (ty := .long) (by decide)
  show Goes p.tables e below (T7.setTop (mkF m 43 #[.val (.long pa), .second, .val (.long pb), .second, .val (.int pf), .val (.int v1), .val (.int v3), .val (.ref b5), .unset, .unset, .unset, .unset, .unset, .unset, .unset, .unset] [(.ref b7)])) _
  refine Goes.by (fun _ k => XS.dup X7.here hx rfl (hb hby at_43) rfl rfl k) ?_
  show Goes p.tables e below (T7.setTop (mkF m 44 #[.val (.long pa), .second, .val (.long pb), .second, .val (.int pf), .val (.int v1), .val (.int v3), .val (.ref b5), .unset, .unset, .unset, .unset, .unset, .unset, .unset, .unset] [(.ref b7), (.ref b7)])) _
  refine Goes.by (fun _ k => XS.iload X7.here hx rfl (hb hby at_44) rfl k) ?_
  show Goes p.tables e below (T7.setTop (mkF m 46 #[.val (.long pa), .second, .val (.long pb), .second, .val (.int pf), .val (.int v1), .val (.int v3), .val (.ref b5), .unset, .unset, .unset, .unset, .unset, .unset, .unset, .unset] [(.int v3), (.ref b7), (.ref b7)])) _
  refine Goes.by (fun _ k => XS.lloadN X7.here hx rfl (hb hby at_46) rfl k) ?_
  show Goes p.tables e below (T7.setTop (mkF m 47 #[.val (.long pa), .second, .val (.long pb), .second, .val (.int pf), .val (.int v1), .val (.int v3), .val (.ref b5), .unset, .unset, .unset, .unset, .unset, .unset, .unset, .unset] [(.long pb), (.int v3), (.ref b7), (.ref b7)])) _
  obtain ⟨_, _, ⟨T8, L8, k8, n8⟩, -, X8, ⟨Lc8, hQ8, l8, y8, z8⟩, st8⟩ := X7.specialBack hx (y := (⟨"com/example/firm_quote/firmquote/store/Database$LogCopy", "<init>", "(ZJ)V"⟩ : MethodName)) rfl hown (mvT hZ (hw _ (List.mem_of_getElem? (i := 3) rfl))) (mvT hZ (hw _ (List.mem_of_getElem? (i := 4) rfl))) (mvT hZ (hw _ (List.mem_of_getElem? (i := 5) rfl))) (by decide) (backOf (W := 1) (rm1 l Z a0 hw [] b7 v3 pb h7 n0 Zs7 E_b7 F_b7_done F_b7_copied g_b7) hZ (hw _ (List.mem_of_getElem? (i := 5) rfl)) (hw _ (List.mem_of_getElem? (i := 2) rfl)) (by decide) (by decide)) (g := (mkF m 47 #[.val (.long pa), .second, .val (.long pb), .second, .val (.int pf), .val (.int v1), .val (.int v3), .val (.ref b5), .unset, .unset, .unset, .unset, .unset, .unset, .unset, .unset] [(.long pb), (.int v3), (.ref b7), (.ref b7)])) rfl (by rw [hml]; rfl) (Steps.refl _) (a := b7) (argsL := [(.int v3), (.long pb)]) (rest := [(.ref b7)]) (lenOf pd_1 rfl) rfl (by show 2 * 0 + _ ≤ _; exact Nat.le_of_eq rfl) (hb hby at_47) (fun _ _ => ⟨rfl, e7, (by decide : 2 + 0 ≤ _), (by decide : 4 + 0 ≤ _)⟩)
  dsimp only [Pt.U, Pt.locs, Pt.cells, Pt.slots] at X8 l8 y8 z8 st8 hQ8
  subst l8 y8 z8
  obtain ⟨rfl, N8q, Kq8, po8_0, po8_1, po8_2⟩ := hQ8
  have N8 := Fr.app N6 N8q
  refine Goes.via st8 ?_
  have Zs8 : n0 ≤ T8.heap.size := Nat.le_trans Zs7 Kq8.1
  have K8 : Keep h0 T8.heap [] := K7.trans Kq8 (allS (Or.inr sz_b7) all0)
  have E_b5 : Exa Z T8.heap b5 "com/example/firm_quote/firmquote/store/Database$LogCopy" := E_b5.keep Kq8
  have F_b5_done : Fld Z T8.heap b5 "com/example/firm_quote/firmquote/store/Database$LogCopy" "done" "Z" (.int (nar .boolean v1)) := F_b5_done.keep Kq8 (ninS ne_b5_b7 nin0)
  have F_b5_copied : Fld Z T8.heap b5 "com/example/firm_quote/firmquote/store/Database$LogCopy" "copied" "J" (.long pa) := F_b5_copied.keep Kq8 (ninS ne_b5_b7 nin0)
  have E_b7 : Exa Z T8.heap b7 "com/example/firm_quote/firmquote/store/Database$LogCopy" := E_b7.keep Kq8
  have E_b7 : Exa Z T8.heap b7 "com/example/firm_quote/firmquote/store/Database$LogCopy" := po8_0
  have F_b7_done : Fld Z T8.heap b7 "com/example/firm_quote/firmquote/store/Database$LogCopy" "done" "Z" (.int (nar .boolean v3)) := po8_1
  have F_b7_copied : Fld Z T8.heap b7 "com/example/firm_quote/firmquote/store/Database$LogCopy" "copied" "J" (.long pb) := po8_2
  show Goes p.tables e below (T8.setTop (mkF m 50 #[.val (.long pa), .second, .val (.long pb), .second, .val (.int pf), .val (.int v1), .val (.int v3), .val (.ref b5), .unset, .unset, .unset, .unset, .unset, .unset, .unset, .unset] [(.ref b7)])) _
  refine Goes.by (fun _ k => XS.astore X8.here hx rfl (hb hby at_50) rfl rfl (l' := #[.val (.long pa), .second, .val (.long pb), .second, .val (.int pf), .val (.int v1), .val (.int v3), .val (.ref b5), .val (.ref b7), .unset, .unset, .unset, .unset, .unset, .unset, .unset]) rfl k) ?_
  show Goes p.tables e below (T8.setTop (mkF m 52 #[.val (.long pa), .second, .val (.long pb), .second, .val (.int pf), .val (.int v1), .val (.int v3), .val (.ref b5), .val (.ref b7), .unset, .unset, .unset, .unset, .unset, .unset, .unset] [])) _
  refine Goes.by (fun _ k => XS.aload X8.here hx rfl (hb hby at_52) rfl rfl k) ?_
  show Goes p.tables e below (T8.setTop (mkF m 54 #[.val (.long pa), .second, .val (.long pb), .second, .val (.int pf), .val (.int v1), .val (.int v3), .val (.ref b5), .val (.ref b7), .unset, .unset, .unset, .unset, .unset, .unset, .unset] [(.ref b5)])) _
  refine Goes.by (fun _ k => XS.aload X8.here hx rfl (hb hby at_54) rfl rfl k) ?_
  show Goes p.tables e below (T8.setTop (mkF m 56 #[.val (.long pa), .second, .val (.long pb), .second, .val (.int pf), .val (.int v1), .val (.int v3), .val (.ref b5), .val (.ref b7), .unset, .unset, .unset, .unset, .unset, .unset, .unset] [(.ref b7), (.ref b5)])) _
  obtain ⟨cq9, kq9, q9a, q9b, q9c⟩ := isOf hZ rfl E_b5
  obtain ⟨_, _, ⟨T9, L9, k9, n9⟩, -, X9, ⟨Lc9, hQ9, l9, y9, z9⟩, st9⟩ := X8.virtualBack hx (y := (⟨"com/example/firm_quote/firmquote/store/Database$LogCopy", "past", "(Lcom/example/firm_quote/firmquote/store/Database$LogCopy;)Z"⟩ : MethodName)) (z := (⟨"com/example/firm_quote/firmquote/store/Database$LogCopy", "past", "(Lcom/example/firm_quote/firmquote/store/Database$LogCopy;)Z"⟩ : MethodName)) hown (mvT hZ (hw _ (List.mem_of_getElem? (i := 18) rfl))) (mvT hZ (hw _ (List.mem_of_getElem? (i := 19) rfl))) (notFace_of_selects (args := #[]) (mvT hZ (hw _ (List.mem_of_getElem? (i := 21) rfl)))) (mvT hZ (hw _ (List.mem_of_getElem? (i := 21) rfl))) (mvT hZ (hw _ (List.mem_of_getElem? (i := 20) rfl))) (by decide) (backOf (W := 0) (rm4 l Z a0 hw [] b5 b7 pa pb T8.heap n0 Zs8 F_b5_copied F_b7_copied) hZ (hw _ (List.mem_of_getElem? (i := 22) rfl)) (hw _ (List.mem_of_getElem? (i := 2) rfl)) (by decide) (by decide)) q9a q9c (g := (mkF m 56 #[.val (.long pa), .second, .val (.long pb), .second, .val (.int pf), .val (.int v1), .val (.int v3), .val (.ref b5), .val (.ref b7), .unset, .unset, .unset, .unset, .unset, .unset, .unset] [(.ref b7), (.ref b5)])) rfl (by rw [hml]; rfl) (Steps.refl _) (argsL := [(.ref b7)]) (rest := []) (lenOf pd_2 rfl) rfl (by show 2 * 0 + _ ≤ _; exact Nat.le_of_eq rfl) (hb hby at_56) (fun _ _ => ⟨rfl, rfl, (by decide : 2 + 0 ≤ _), (by decide : 4 + 0 ≤ _)⟩)
  dsimp only [Pt.U, Pt.locs, Pt.cells, Pt.slots] at X9 l9 y9 z9 st9 hQ9
  subst l9 y9 z9
  obtain ⟨rfl, N9q, e9⟩ := hQ9
  have N9 := Fr.app N8 N9q
  refine Goes.via st9 ?_
  show Goes p.tables e below (T9.setTop (mkF m 59 #[.val (.long pa), .second, .val (.long pb), .second, .val (.int pf), .val (.int v1), .val (.int v3), .val (.ref b5), .val (.ref b7), .unset, .unset, .unset, .unset, .unset, .unset, .unset] [(.int (fn4 pa pb))])) _
  obtain ⟨x10, hx10⟩ : ∃ z : Int32, z = (fn4 pa pb) := ⟨_, rfl⟩
  refine Goes.by (fun _ k => XS.istore X9.here hx rfl (hb hby at_59) rfl (l' := #[.val (.long pa), .second, .val (.long pb), .second, .val (.int pf), .val (.int v1), .val (.int v3), .val (.ref b5), .val (.ref b7), .val (.int x10), .unset, .unset, .unset, .unset, .unset, .unset]) (by rw [hx10]; rfl) k) ?_
  show Goes p.tables e below (T9.setTop (mkF m 61 #[.val (.long pa), .second, .val (.long pb), .second, .val (.int pf), .val (.int v1), .val (.int v3), .val (.ref b5), .val (.ref b7), .val (.int x10), .unset, .unset, .unset, .unset, .unset, .unset] [])) _
  refine Goes.by (fun _ k => XS.aload X9.here hx rfl (hb hby at_61) rfl rfl k) ?_
  show Goes p.tables e below (T9.setTop (mkF m 63 #[.val (.long pa), .second, .val (.long pb), .second, .val (.int pf), .val (.int v1), .val (.int v3), .val (.ref b5), .val (.ref b7), .val (.int x10), .unset, .unset, .unset, .unset, .unset, .unset] [(.ref b7)])) _
  refine Goes.by (fun _ k => XS.aload X9.here hx rfl (hb hby at_63) rfl rfl k) ?_
  show Goes p.tables e below (T9.setTop (mkF m 65 #[.val (.long pa), .second, .val (.long pb), .second, .val (.int pf), .val (.int v1), .val (.int v3), .val (.ref b5), .val (.ref b7), .val (.int x10), .unset, .unset, .unset, .unset, .unset, .unset] [(.ref b5), (.ref b7)])) _
  obtain ⟨cq11, kq11, q11a, q11b, q11c⟩ := isOf hZ e9 E_b7
  obtain ⟨_, _, ⟨T11, L11, k11, n11⟩, -, X11, ⟨Lc11, hQ11, l11, y11, z11⟩, st11⟩ := X9.virtualBack hx (y := (⟨"com/example/firm_quote/firmquote/store/Database$LogCopy", "past", "(Lcom/example/firm_quote/firmquote/store/Database$LogCopy;)Z"⟩ : MethodName)) (z := (⟨"com/example/firm_quote/firmquote/store/Database$LogCopy", "past", "(Lcom/example/firm_quote/firmquote/store/Database$LogCopy;)Z"⟩ : MethodName)) hown (mvT hZ (hw _ (List.mem_of_getElem? (i := 18) rfl))) (mvT hZ (hw _ (List.mem_of_getElem? (i := 19) rfl))) (notFace_of_selects (args := #[]) (mvT hZ (hw _ (List.mem_of_getElem? (i := 21) rfl)))) (mvT hZ (hw _ (List.mem_of_getElem? (i := 21) rfl))) (mvT hZ (hw _ (List.mem_of_getElem? (i := 20) rfl))) (by decide) (backOf (W := 0) (rm4 l Z a0 hw [] b7 b5 pb pa T8.heap n0 Zs8 F_b7_copied F_b5_copied) hZ (hw _ (List.mem_of_getElem? (i := 22) rfl)) (hw _ (List.mem_of_getElem? (i := 2) rfl)) (by decide) (by decide)) q11a q11c (g := (mkF m 65 #[.val (.long pa), .second, .val (.long pb), .second, .val (.int pf), .val (.int v1), .val (.int v3), .val (.ref b5), .val (.ref b7), .val (.int x10), .unset, .unset, .unset, .unset, .unset, .unset] [(.ref b5), (.ref b7)])) rfl (by rw [hml]; rfl) (Steps.refl _) (argsL := [(.ref b5)]) (rest := []) (lenOf pd_2 rfl) rfl (by show 2 * 0 + _ ≤ _; exact Nat.le_of_eq rfl) (hb hby at_65) (fun _ _ => ⟨rfl, e9, (by decide : 2 + 0 ≤ _), (by decide : 4 + 0 ≤ _)⟩)
  dsimp only [Pt.U, Pt.locs, Pt.cells, Pt.slots] at X11 l11 y11 z11 st11 hQ11
  subst l11 y11 z11
  obtain ⟨rfl, N11q, e11⟩ := hQ11
  have N11 := Fr.app N9 N11q
  refine Goes.via st11 ?_
  show Goes p.tables e below (T11.setTop (mkF m 68 #[.val (.long pa), .second, .val (.long pb), .second, .val (.int pf), .val (.int v1), .val (.int v3), .val (.ref b5), .val (.ref b7), .val (.int x10), .unset, .unset, .unset, .unset, .unset, .unset] [(.int (fn4 pb pa))])) _
  obtain ⟨x12, hx12⟩ : ∃ z : Int32, z = (fn4 pb pa) := ⟨_, rfl⟩
  refine Goes.by (fun _ k => XS.istore X11.here hx rfl (hb hby at_68) rfl (l' := #[.val (.long pa), .second, .val (.long pb), .second, .val (.int pf), .val (.int v1), .val (.int v3), .val (.ref b5), .val (.ref b7), .val (.int x10), .val (.int x12), .unset, .unset, .unset, .unset, .unset]) (by rw [hx12]; rfl) k) ?_
  show Goes p.tables e below (T11.setTop (mkF m 70 #[.val (.long pa), .second, .val (.long pb), .second, .val (.int pf), .val (.int v1), .val (.int v3), .val (.ref b5), .val (.ref b7), .val (.int x10), .val (.int x12), .unset, .unset, .unset, .unset, .unset] [])) _
  refine Goes.by (fun _ k => XS.aload X11.here hx rfl (hb hby at_70) rfl rfl k) ?_
  show Goes p.tables e below (T11.setTop (mkF m 72 #[.val (.long pa), .second, .val (.long pb), .second, .val (.int pf), .val (.int v1), .val (.int v3), .val (.ref b5), .val (.ref b7), .val (.int x10), .val (.int x12), .unset, .unset, .unset, .unset, .unset] [(.ref b5)])) _
  refine Goes.by (fun _ k => XS.aload X11.here hx rfl (hb hby at_72) rfl rfl k) ?_
  show Goes p.tables e below (T11.setTop (mkF m 74 #[.val (.long pa), .second, .val (.long pb), .second, .val (.int pf), .val (.int v1), .val (.int v3), .val (.ref b5), .val (.ref b7), .val (.int x10), .val (.int x12), .unset, .unset, .unset, .unset, .unset] [(.ref b5), (.ref b5)])) _
  obtain ⟨cq13, kq13, q13a, q13b, q13c⟩ := isOf hZ e11 E_b5
  obtain ⟨_, _, ⟨T13, L13, k13, n13⟩, -, X13, ⟨Lc13, hQ13, l13, y13, z13⟩, st13⟩ := X11.virtualBack hx (y := (⟨"com/example/firm_quote/firmquote/store/Database$LogCopy", "past", "(Lcom/example/firm_quote/firmquote/store/Database$LogCopy;)Z"⟩ : MethodName)) (z := (⟨"com/example/firm_quote/firmquote/store/Database$LogCopy", "past", "(Lcom/example/firm_quote/firmquote/store/Database$LogCopy;)Z"⟩ : MethodName)) hown (mvT hZ (hw _ (List.mem_of_getElem? (i := 18) rfl))) (mvT hZ (hw _ (List.mem_of_getElem? (i := 19) rfl))) (notFace_of_selects (args := #[]) (mvT hZ (hw _ (List.mem_of_getElem? (i := 21) rfl)))) (mvT hZ (hw _ (List.mem_of_getElem? (i := 21) rfl))) (mvT hZ (hw _ (List.mem_of_getElem? (i := 20) rfl))) (by decide) (backOf (W := 0) (rm4 l Z a0 hw [] b5 b5 pa pa T8.heap n0 Zs8 F_b5_copied F_b5_copied) hZ (hw _ (List.mem_of_getElem? (i := 22) rfl)) (hw _ (List.mem_of_getElem? (i := 2) rfl)) (by decide) (by decide)) q13a q13c (g := (mkF m 74 #[.val (.long pa), .second, .val (.long pb), .second, .val (.int pf), .val (.int v1), .val (.int v3), .val (.ref b5), .val (.ref b7), .val (.int x10), .val (.int x12), .unset, .unset, .unset, .unset, .unset] [(.ref b5), (.ref b5)])) rfl (by rw [hml]; rfl) (Steps.refl _) (argsL := [(.ref b5)]) (rest := []) (lenOf pd_2 rfl) rfl (by show 2 * 0 + _ ≤ _; exact Nat.le_of_eq rfl) (hb hby at_74) (fun _ _ => ⟨rfl, e11, (by decide : 2 + 0 ≤ _), (by decide : 4 + 0 ≤ _)⟩)
  dsimp only [Pt.U, Pt.locs, Pt.cells, Pt.slots] at X13 l13 y13 z13 st13 hQ13
  subst l13 y13 z13
  obtain ⟨rfl, N13q, e13⟩ := hQ13
  have N13 := Fr.app N11 N13q
  refine Goes.via st13 ?_
  show Goes p.tables e below (T13.setTop (mkF m 77 #[.val (.long pa), .second, .val (.long pb), .second, .val (.int pf), .val (.int v1), .val (.int v3), .val (.ref b5), .val (.ref b7), .val (.int x10), .val (.int x12), .unset, .unset, .unset, .unset, .unset] [(.int (fn4 pa pa))])) _
  obtain ⟨x14, hx14⟩ : ∃ z : Int32, z = (fn4 pa pa) := ⟨_, rfl⟩
  refine Goes.by (fun _ k => XS.istore X13.here hx rfl (hb hby at_77) rfl (l' := #[.val (.long pa), .second, .val (.long pb), .second, .val (.int pf), .val (.int v1), .val (.int v3), .val (.ref b5), .val (.ref b7), .val (.int x10), .val (.int x12), .val (.int x14), .unset, .unset, .unset, .unset]) (by rw [hx14]; rfl) k) ?_
  show Goes p.tables e below (T13.setTop (mkF m 79 #[.val (.long pa), .second, .val (.long pb), .second, .val (.int pf), .val (.int v1), .val (.int v3), .val (.ref b5), .val (.ref b7), .val (.int x10), .val (.int x12), .val (.int x14), .unset, .unset, .unset, .unset] [])) _
  refine Goes.by (fun _ k => XS.lloadN X13.here hx rfl (hb hby at_79) rfl k) ?_
  show Goes p.tables e below (T13.setTop (mkF m 80 #[.val (.long pa), .second, .val (.long pb), .second, .val (.int pf), .val (.int v1), .val (.int v3), .val (.ref b5), .val (.ref b7), .val (.int x10), .val (.int x12), .val (.int x14), .unset, .unset, .unset, .unset] [(.long pa)])) _
  refine Goes.by (fun _ k => XS.lloadN X13.here hx rfl (hb hby at_80) rfl k) ?_
  show Goes p.tables e below (T13.setTop (mkF m 81 #[.val (.long pa), .second, .val (.long pb), .second, .val (.int pf), .val (.int v1), .val (.int v3), .val (.ref b5), .val (.ref b7), .val (.int x10), .val (.int x12), .val (.int x14), .unset, .unset, .unset, .unset] [(.long pb), (.long pa)])) _
  obtain ⟨_, _, ⟨T15, L15, k15, n15⟩, -, X15, ⟨Lc15, hQ15, l15, y15, z15⟩, st15⟩ := Jvm.LawKit.callS X13 hx (y := (⟨"java/lang/Math", "max", "(JJ)J"⟩ : MethodName)) hown (mvT hZ (hw _ (List.mem_of_getElem? (i := 23) rfl))) (mvT hZ (hw _ (List.mem_of_getElem? (i := 24) rfl))) (mvT hZ (hw _ (List.mem_of_getElem? (i := 25) rfl))) (mvT hZ (hw _ (List.mem_of_getElem? (i := 26) rfl))) (by decide) (backOf (W := 0) (rm5 l Z a0 hw [] pa pb T8.heap n0 Zs8) hZ (hw _ (List.mem_of_getElem? (i := 26) rfl)) (hw _ (List.mem_of_getElem? (i := 25) rfl)) (by decide) (by decide)) (g := (mkF m 81 #[.val (.long pa), .second, .val (.long pb), .second, .val (.int pf), .val (.int v1), .val (.int v3), .val (.ref b5), .val (.ref b7), .val (.int x10), .val (.int x12), .val (.int x14), .unset, .unset, .unset, .unset] [(.long pb), (.long pa)])) rfl (by rw [hml]; rfl) (argsL := [(.long pa), (.long pb)]) (rest := []) (lenOf pd_3 rfl) rfl (by show 2 * 0 + _ ≤ _; exact Nat.le_of_eq rfl) (hb hby at_81) (fun _ _ => ⟨rfl, e13, (by decide : 2 + 0 ≤ _), (by decide : 4 + 0 ≤ _)⟩)
  dsimp only [Pt.U, Pt.locs, Pt.cells, Pt.slots] at X15 l15 y15 z15 st15 hQ15
  subst l15 y15 z15
  obtain ⟨rfl, N15q, e15⟩ := hQ15
  have N15 := Fr.app N13 N15q
  refine Goes.by st15 ?_
  show Goes p.tables e below (T15.setTop (mkF m 84 #[.val (.long pa), .second, .val (.long pb), .second, .val (.int pf), .val (.int v1), .val (.int v3), .val (.ref b5), .val (.ref b7), .val (.int x10), .val (.int x12), .val (.int x14), .unset, .unset, .unset, .unset] [(.long (fn5 pa pb))])) _
  obtain ⟨x16, hx16⟩ : ∃ z : Int64, z = (fn5 pa pb) := ⟨_, rfl⟩
  refine Goes.by (fun _ k => XS.lstore X15.here hx rfl (hb hby at_84) rfl (l' := #[.val (.long pa), .second, .val (.long pb), .second, .val (.int pf), .val (.int v1), .val (.int v3), .val (.ref b5), .val (.ref b7), .val (.int x10), .val (.int x12), .val (.int x14), .val (.long x16), .second, .unset, .unset]) (by rw [hx16]; rfl) k) ?_
  show Goes p.tables e below (T15.setTop (mkF m 86 #[.val (.long pa), .second, .val (.long pb), .second, .val (.int pf), .val (.int v1), .val (.int v3), .val (.ref b5), .val (.ref b7), .val (.int x10), .val (.int x12), .val (.int x14), .val (.long x16), .second, .unset, .unset] [])) _
  refine Goes.by (fun _ k => XS.lloadN X15.here hx rfl (hb hby at_86) rfl k) ?_
  show Goes p.tables e below (T15.setTop (mkF m 87 #[.val (.long pa), .second, .val (.long pb), .second, .val (.int pf), .val (.int v1), .val (.int v3), .val (.ref b5), .val (.ref b7), .val (.int x10), .val (.int x12), .val (.int x14), .val (.long x16), .second, .unset, .unset] [(.long pa)])) _
  refine Goes.by (fun _ k => XS.lloadN X15.here hx rfl (hb hby at_87) rfl k) ?_
  show Goes p.tables e below (T15.setTop (mkF m 88 #[.val (.long pa), .second, .val (.long pb), .second, .val (.int pf), .val (.int v1), .val (.int v3), .val (.ref b5), .val (.ref b7), .val (.int x10), .val (.int x12), .val (.int x14), .val (.long x16), .second, .unset, .unset] [(.long pb), (.long pa)])) _
  refine Goes.by (fun _ k => XS.lcmp X15.here hx rfl (hb hby at_88) rfl k) ?_
  show Goes p.tables e below (T15.setTop (mkF m 89 #[.val (.long pa), .second, .val (.long pb), .second, .val (.int pf), .val (.int v1), .val (.int v3), .val (.ref b5), .val (.ref b7), .val (.int x10), .val (.int x12), .val (.int x14), .val (.long x16), .second, .unset, .unset] [(.int (lcmpW pa pb))])) _
  obtain ⟨v17, hv17⟩ : ∃ z : Int32, z = (if pa = pb then (0 : Int32) else (if x16 = pa then (1 : Int32) else (0 : Int32))) := ⟨_, rfl⟩
  refine Goes.by (t' := T15.setTop (mkF m 104 #[.val (.long pa), .second, .val (.long pb), .second, .val (.int pf), .val (.int v1), .val (.int v3), .val (.ref b5), .val (.ref b7), .val (.int x10), .val (.int x12), .val (.int x14), .val (.long x16), .second, .unset, .unset] [(.int v17)])) (fun u k => ?_) ?_
  · show Steps p.tables e below (T15.setTop (mkF m 89 #[.val (.long pa), .second, .val (.long pb), .second, .val (.int pf), .val (.int v1), .val (.int v3), .val (.ref b5), .val (.ref b7), .val (.int x10), .val (.int x12), .val (.int x14), .val (.long x16), .second, .unset, .unset] [(.int (lcmpW pa pb))])) _
    by_cases hc18 : pa = pb
    · refine XS.ifYes X15.here hx rfl (pc0 := 89) (pc' := 103) rfl (hb hby at_89) rfl (je_t hc18).1 (by decide) (by decide) ?_
      show Steps p.tables e below (T15.setTop (mkF m 103 #[.val (.long pa), .second, .val (.long pb), .second, .val (.int pf), .val (.int v1), .val (.int v3), .val (.ref b5), .val (.ref b7), .val (.int x10), .val (.int x12), .val (.int x14), .val (.long x16), .second, .unset, .unset] [])) _
      refine XS.iconst X15.here hx rfl (hb hby at_103) ?_
      show Steps p.tables e below (T15.setTop (mkF m 104 #[.val (.long pa), .second, .val (.long pb), .second, .val (.int pf), .val (.int v1), .val (.int v3), .val (.ref b5), .val (.ref b7), .val (.int x10), .val (.int x12), .val (.int x14), .val (.long x16), .second, .unset, .unset] [(.int (0 : Int32))])) _
      have qv17 : v17 = (0 : Int32) := by rw [hv17, if_pos hc18]
      subst qv17
      exact k
    · refine XS.ifNo X15.here hx rfl (hb hby at_89) rfl (je_f hc18).1 ?_
      show Steps p.tables e below (T15.setTop (mkF m 92 #[.val (.long pa), .second, .val (.long pb), .second, .val (.int pf), .val (.int v1), .val (.int v3), .val (.ref b5), .val (.ref b7), .val (.int x10), .val (.int x12), .val (.int x14), .val (.long x16), .second, .unset, .unset] [])) _
      refine XS.lload X15.here hx rfl (hb hby at_92) rfl ?_
      show Steps p.tables e below (T15.setTop (mkF m 94 #[.val (.long pa), .second, .val (.long pb), .second, .val (.int pf), .val (.int v1), .val (.int v3), .val (.ref b5), .val (.ref b7), .val (.int x10), .val (.int x12), .val (.int x14), .val (.long x16), .second, .unset, .unset] [(.long x16)])) _
      refine XS.lloadN X15.here hx rfl (hb hby at_94) rfl ?_
      show Steps p.tables e below (T15.setTop (mkF m 95 #[.val (.long pa), .second, .val (.long pb), .second, .val (.int pf), .val (.int v1), .val (.int v3), .val (.ref b5), .val (.ref b7), .val (.int x10), .val (.int x12), .val (.int x14), .val (.long x16), .second, .unset, .unset] [(.long pa), (.long x16)])) _
      refine XS.lcmp X15.here hx rfl (hb hby at_95) rfl ?_
      show Steps p.tables e below (T15.setTop (mkF m 96 #[.val (.long pa), .second, .val (.long pb), .second, .val (.int pf), .val (.int v1), .val (.int v3), .val (.ref b5), .val (.ref b7), .val (.int x10), .val (.int x12), .val (.int x14), .val (.long x16), .second, .unset, .unset] [(.int (lcmpW x16 pa))])) _
      by_cases hc19 : x16 = pa
      · refine XS.ifNo X15.here hx rfl (hb hby at_96) rfl (je_t hc19).2 ?_
        show Steps p.tables e below (T15.setTop (mkF m 99 #[.val (.long pa), .second, .val (.long pb), .second, .val (.int pf), .val (.int v1), .val (.int v3), .val (.ref b5), .val (.ref b7), .val (.int x10), .val (.int x12), .val (.int x14), .val (.long x16), .second, .unset, .unset] [])) _
        refine XS.iconst X15.here hx rfl (hb hby at_99) ?_
        show Steps p.tables e below (T15.setTop (mkF m 100 #[.val (.long pa), .second, .val (.long pb), .second, .val (.int pf), .val (.int v1), .val (.int v3), .val (.ref b5), .val (.ref b7), .val (.int x10), .val (.int x12), .val (.int x14), .val (.long x16), .second, .unset, .unset] [(.int (1 : Int32))])) _
        refine XS.goto X15.here hx rfl (pc0 := 100) (pc' := 104) rfl (hb hby at_100) (by decide) (by decide) ?_
        show Steps p.tables e below (T15.setTop (mkF m 104 #[.val (.long pa), .second, .val (.long pb), .second, .val (.int pf), .val (.int v1), .val (.int v3), .val (.ref b5), .val (.ref b7), .val (.int x10), .val (.int x12), .val (.int x14), .val (.long x16), .second, .unset, .unset] [(.int (1 : Int32))])) _
        have qv17 : v17 = (1 : Int32) := by rw [hv17, if_neg hc18, if_pos hc19]
        subst qv17
        exact k
      · refine XS.ifYes X15.here hx rfl (pc0 := 96) (pc' := 103) rfl (hb hby at_96) rfl (je_f hc19).2 (by decide) (by decide) ?_
        show Steps p.tables e below (T15.setTop (mkF m 103 #[.val (.long pa), .second, .val (.long pb), .second, .val (.int pf), .val (.int v1), .val (.int v3), .val (.ref b5), .val (.ref b7), .val (.int x10), .val (.int x12), .val (.int x14), .val (.long x16), .second, .unset, .unset] [])) _
        refine XS.iconst X15.here hx rfl (hb hby at_103) ?_
        show Steps p.tables e below (T15.setTop (mkF m 104 #[.val (.long pa), .second, .val (.long pb), .second, .val (.int pf), .val (.int v1), .val (.int v3), .val (.ref b5), .val (.ref b7), .val (.int x10), .val (.int x12), .val (.int x14), .val (.long x16), .second, .unset, .unset] [(.int (0 : Int32))])) _
        have qv17 : v17 = (0 : Int32) := by rw [hv17, if_neg hc18, if_neg hc19]
        subst qv17
        exact k
  show Goes p.tables e below (T15.setTop (mkF m 104 #[.val (.long pa), .second, .val (.long pb), .second, .val (.int pf), .val (.int v1), .val (.int v3), .val (.ref b5), .val (.ref b7), .val (.int x10), .val (.int x12), .val (.int x14), .val (.long x16), .second, .unset, .unset] [(.int v17)])) _
  refine Goes.by (fun _ k => XS.istore X15.here hx rfl (hb hby at_104) rfl (l' := #[.val (.long pa), .second, .val (.long pb), .second, .val (.int pf), .val (.int v1), .val (.int v3), .val (.ref b5), .val (.ref b7), .val (.int x10), .val (.int x12), .val (.int x14), .val (.long x16), .second, .val (.int v17), .unset]) rfl k) ?_
  show Goes p.tables e below (T15.setTop (mkF m 106 #[.val (.long pa), .second, .val (.long pb), .second, .val (.int pf), .val (.int v1), .val (.int v3), .val (.ref b5), .val (.ref b7), .val (.int x10), .val (.int x12), .val (.int x14), .val (.long x16), .second, .val (.int v17), .unset] [])) _
  refine Goes.by (fun _ k => XS.lloadN X15.here hx rfl (hb hby at_106) rfl k) ?_
  show Goes p.tables e below (T15.setTop (mkF m 107 #[.val (.long pa), .second, .val (.long pb), .second, .val (.int pf), .val (.int v1), .val (.int v3), .val (.ref b5), .val (.ref b7), .val (.int x10), .val (.int x12), .val (.int x14), .val (.long x16), .second, .val (.int v17), .unset] [(.long pa)])) _
  refine Goes.by (fun _ k => XS.lloadN X15.here hx rfl (hb hby at_107) rfl k) ?_
  show Goes p.tables e below (T15.setTop (mkF m 108 #[.val (.long pa), .second, .val (.long pb), .second, .val (.int pf), .val (.int v1), .val (.int v3), .val (.ref b5), .val (.ref b7), .val (.int x10), .val (.int x12), .val (.int x14), .val (.long x16), .second, .val (.int v17), .unset] [(.long pb), (.long pa)])) _
  refine Goes.by (fun _ k => XS.lcmp X15.here hx rfl (hb hby at_108) rfl k) ?_
  show Goes p.tables e below (T15.setTop (mkF m 109 #[.val (.long pa), .second, .val (.long pb), .second, .val (.int pf), .val (.int v1), .val (.int v3), .val (.ref b5), .val (.ref b7), .val (.int x10), .val (.int x12), .val (.int x14), .val (.long x16), .second, .val (.int v17), .unset] [(.int (lcmpW pa pb))])) _
  obtain ⟨v20, hv20⟩ : ∃ z : Int32, z = (if pa = pb then (0 : Int32) else (if x16 = pb then (1 : Int32) else (0 : Int32))) := ⟨_, rfl⟩
  refine Goes.by (t' := T15.setTop (mkF m 124 #[.val (.long pa), .second, .val (.long pb), .second, .val (.int pf), .val (.int v1), .val (.int v3), .val (.ref b5), .val (.ref b7), .val (.int x10), .val (.int x12), .val (.int x14), .val (.long x16), .second, .val (.int v17), .unset] [(.int v20)])) (fun u k => ?_) ?_
  · show Steps p.tables e below (T15.setTop (mkF m 109 #[.val (.long pa), .second, .val (.long pb), .second, .val (.int pf), .val (.int v1), .val (.int v3), .val (.ref b5), .val (.ref b7), .val (.int x10), .val (.int x12), .val (.int x14), .val (.long x16), .second, .val (.int v17), .unset] [(.int (lcmpW pa pb))])) _
    by_cases hc21 : pa = pb
    · refine XS.ifYes X15.here hx rfl (pc0 := 109) (pc' := 123) rfl (hb hby at_109) rfl (je_t hc21).1 (by decide) (by decide) ?_
      show Steps p.tables e below (T15.setTop (mkF m 123 #[.val (.long pa), .second, .val (.long pb), .second, .val (.int pf), .val (.int v1), .val (.int v3), .val (.ref b5), .val (.ref b7), .val (.int x10), .val (.int x12), .val (.int x14), .val (.long x16), .second, .val (.int v17), .unset] [])) _
      refine XS.iconst X15.here hx rfl (hb hby at_123) ?_
      show Steps p.tables e below (T15.setTop (mkF m 124 #[.val (.long pa), .second, .val (.long pb), .second, .val (.int pf), .val (.int v1), .val (.int v3), .val (.ref b5), .val (.ref b7), .val (.int x10), .val (.int x12), .val (.int x14), .val (.long x16), .second, .val (.int v17), .unset] [(.int (0 : Int32))])) _
      have qv20 : v20 = (0 : Int32) := by rw [hv20, if_pos hc21]
      subst qv20
      exact k
    · refine XS.ifNo X15.here hx rfl (hb hby at_109) rfl (je_f hc21).1 ?_
      show Steps p.tables e below (T15.setTop (mkF m 112 #[.val (.long pa), .second, .val (.long pb), .second, .val (.int pf), .val (.int v1), .val (.int v3), .val (.ref b5), .val (.ref b7), .val (.int x10), .val (.int x12), .val (.int x14), .val (.long x16), .second, .val (.int v17), .unset] [])) _
      refine XS.lload X15.here hx rfl (hb hby at_112) rfl ?_
      show Steps p.tables e below (T15.setTop (mkF m 114 #[.val (.long pa), .second, .val (.long pb), .second, .val (.int pf), .val (.int v1), .val (.int v3), .val (.ref b5), .val (.ref b7), .val (.int x10), .val (.int x12), .val (.int x14), .val (.long x16), .second, .val (.int v17), .unset] [(.long x16)])) _
      refine XS.lloadN X15.here hx rfl (hb hby at_114) rfl ?_
      show Steps p.tables e below (T15.setTop (mkF m 115 #[.val (.long pa), .second, .val (.long pb), .second, .val (.int pf), .val (.int v1), .val (.int v3), .val (.ref b5), .val (.ref b7), .val (.int x10), .val (.int x12), .val (.int x14), .val (.long x16), .second, .val (.int v17), .unset] [(.long pb), (.long x16)])) _
      refine XS.lcmp X15.here hx rfl (hb hby at_115) rfl ?_
      show Steps p.tables e below (T15.setTop (mkF m 116 #[.val (.long pa), .second, .val (.long pb), .second, .val (.int pf), .val (.int v1), .val (.int v3), .val (.ref b5), .val (.ref b7), .val (.int x10), .val (.int x12), .val (.int x14), .val (.long x16), .second, .val (.int v17), .unset] [(.int (lcmpW x16 pb))])) _
      by_cases hc22 : x16 = pb
      · refine XS.ifNo X15.here hx rfl (hb hby at_116) rfl (je_t hc22).2 ?_
        show Steps p.tables e below (T15.setTop (mkF m 119 #[.val (.long pa), .second, .val (.long pb), .second, .val (.int pf), .val (.int v1), .val (.int v3), .val (.ref b5), .val (.ref b7), .val (.int x10), .val (.int x12), .val (.int x14), .val (.long x16), .second, .val (.int v17), .unset] [])) _
        refine XS.iconst X15.here hx rfl (hb hby at_119) ?_
        show Steps p.tables e below (T15.setTop (mkF m 120 #[.val (.long pa), .second, .val (.long pb), .second, .val (.int pf), .val (.int v1), .val (.int v3), .val (.ref b5), .val (.ref b7), .val (.int x10), .val (.int x12), .val (.int x14), .val (.long x16), .second, .val (.int v17), .unset] [(.int (1 : Int32))])) _
        refine XS.goto X15.here hx rfl (pc0 := 120) (pc' := 124) rfl (hb hby at_120) (by decide) (by decide) ?_
        show Steps p.tables e below (T15.setTop (mkF m 124 #[.val (.long pa), .second, .val (.long pb), .second, .val (.int pf), .val (.int v1), .val (.int v3), .val (.ref b5), .val (.ref b7), .val (.int x10), .val (.int x12), .val (.int x14), .val (.long x16), .second, .val (.int v17), .unset] [(.int (1 : Int32))])) _
        have qv20 : v20 = (1 : Int32) := by rw [hv20, if_neg hc21, if_pos hc22]
        subst qv20
        exact k
      · refine XS.ifYes X15.here hx rfl (pc0 := 116) (pc' := 123) rfl (hb hby at_116) rfl (je_f hc22).2 (by decide) (by decide) ?_
        show Steps p.tables e below (T15.setTop (mkF m 123 #[.val (.long pa), .second, .val (.long pb), .second, .val (.int pf), .val (.int v1), .val (.int v3), .val (.ref b5), .val (.ref b7), .val (.int x10), .val (.int x12), .val (.int x14), .val (.long x16), .second, .val (.int v17), .unset] [])) _
        refine XS.iconst X15.here hx rfl (hb hby at_123) ?_
        show Steps p.tables e below (T15.setTop (mkF m 124 #[.val (.long pa), .second, .val (.long pb), .second, .val (.int pf), .val (.int v1), .val (.int v3), .val (.ref b5), .val (.ref b7), .val (.int x10), .val (.int x12), .val (.int x14), .val (.long x16), .second, .val (.int v17), .unset] [(.int (0 : Int32))])) _
        have qv20 : v20 = (0 : Int32) := by rw [hv20, if_neg hc21, if_neg hc22]
        subst qv20
        exact k
  show Goes p.tables e below (T15.setTop (mkF m 124 #[.val (.long pa), .second, .val (.long pb), .second, .val (.int pf), .val (.int v1), .val (.int v3), .val (.ref b5), .val (.ref b7), .val (.int x10), .val (.int x12), .val (.int x14), .val (.long x16), .second, .val (.int v17), .unset] [(.int v20)])) _
  refine Goes.by (fun _ k => XS.istore X15.here hx rfl (hb hby at_124) rfl (l' := #[.val (.long pa), .second, .val (.long pb), .second, .val (.int pf), .val (.int v1), .val (.int v3), .val (.ref b5), .val (.ref b7), .val (.int x10), .val (.int x12), .val (.int x14), .val (.long x16), .second, .val (.int v17), .val (.int v20)]) rfl k) ?_
  show Goes p.tables e below (T15.setTop (mkF m 126 #[.val (.long pa), .second, .val (.long pb), .second, .val (.int pf), .val (.int v1), .val (.int v3), .val (.ref b5), .val (.ref b7), .val (.int x10), .val (.int x12), .val (.int x14), .val (.long x16), .second, .val (.int v17), .val (.int v20)] [])) _
  refine Goes.by (fun _ k => XS.iload X15.here hx rfl (hb hby at_126) rfl k) ?_
  show Goes p.tables e below (T15.setTop (mkF m 128 #[.val (.long pa), .second, .val (.long pb), .second, .val (.int pf), .val (.int v1), .val (.int v3), .val (.ref b5), .val (.ref b7), .val (.int x10), .val (.int x12), .val (.int x14), .val (.long x16), .second, .val (.int v17), .val (.int v20)] [(.int x10)])) _
  refine Goes.by (fun _ k => XS.iload X15.here hx rfl (hb hby at_128) rfl k) ?_
  show Goes p.tables e below (T15.setTop (mkF m 130 #[.val (.long pa), .second, .val (.long pb), .second, .val (.int pf), .val (.int v1), .val (.int v3), .val (.ref b5), .val (.ref b7), .val (.int x10), .val (.int x12), .val (.int x14), .val (.long x16), .second, .val (.int v17), .val (.int v20)] [(.int v17), (.int x10)])) _
  refine Goes.by (fun _ k => XS.icmpNo X15.here hx rfl (hb hby at_130) rfl (teq (by rw [hx10, hv17, hx16]; exact own_p pa pb : x10 = v17)).2 k) ?_
  show Goes p.tables e below (T15.setTop (mkF m 133 #[.val (.long pa), .second, .val (.long pb), .second, .val (.int pf), .val (.int v1), .val (.int v3), .val (.ref b5), .val (.ref b7), .val (.int x10), .val (.int x12), .val (.int x14), .val (.long x16), .second, .val (.int v17), .val (.int v20)] [])) _
  refine Goes.by (fun _ k => XS.iload X15.here hx rfl (hb hby at_133) rfl k) ?_
  show Goes p.tables e below (T15.setTop (mkF m 135 #[.val (.long pa), .second, .val (.long pb), .second, .val (.int pf), .val (.int v1), .val (.int v3), .val (.ref b5), .val (.ref b7), .val (.int x10), .val (.int x12), .val (.int x14), .val (.long x16), .second, .val (.int v17), .val (.int v20)] [(.int x12)])) _
  refine Goes.by (fun _ k => XS.iload X15.here hx rfl (hb hby at_135) rfl k) ?_
  show Goes p.tables e below (T15.setTop (mkF m 137 #[.val (.long pa), .second, .val (.long pb), .second, .val (.int pf), .val (.int v1), .val (.int v3), .val (.ref b5), .val (.ref b7), .val (.int x10), .val (.int x12), .val (.int x14), .val (.long x16), .second, .val (.int v17), .val (.int v20)] [(.int v20), (.int x12)])) _
  refine Goes.by (fun _ k => XS.icmpNo X15.here hx rfl (hb hby at_137) rfl (teq (by rw [hx12, hv20, hx16]; exact own_q pa pb : x12 = v20)).2 k) ?_
  show Goes p.tables e below (T15.setTop (mkF m 140 #[.val (.long pa), .second, .val (.long pb), .second, .val (.int pf), .val (.int v1), .val (.int v3), .val (.ref b5), .val (.ref b7), .val (.int x10), .val (.int x12), .val (.int x14), .val (.long x16), .second, .val (.int v17), .val (.int v20)] [])) _
  refine Goes.by (fun _ k => XS.iload X15.here hx rfl (hb hby at_140) rfl k) ?_
  show Goes p.tables e below (T15.setTop (mkF m 142 #[.val (.long pa), .second, .val (.long pb), .second, .val (.int pf), .val (.int v1), .val (.int v3), .val (.ref b5), .val (.ref b7), .val (.int x10), .val (.int x12), .val (.int x14), .val (.long x16), .second, .val (.int v17), .val (.int v20)] [(.int x14)])) _
  refine Goes.by (fun _ k => XS.ifNo X15.here hx rfl (hb hby at_142) rfl ((if0 _ _).trans (teq (by rw [hx14]; exact own_s pa : x14 = (0 : Int32))).2) k) ?_
  show Goes p.tables e below (T15.setTop (mkF m 145 #[.val (.long pa), .second, .val (.long pb), .second, .val (.int pf), .val (.int v1), .val (.int v3), .val (.ref b5), .val (.ref b7), .val (.int x10), .val (.int x12), .val (.int x14), .val (.long x16), .second, .val (.int v17), .val (.int v20)] [])) _
  refine Goes.by (fun _ k => XS.iconst X15.here hx rfl (hb hby at_145) k) ?_
  show Goes p.tables e below (T15.setTop (mkF m 146 #[.val (.long pa), .second, .val (.long pb), .second, .val (.int pf), .val (.int v1), .val (.int v3), .val (.ref b5), .val (.ref b7), .val (.int x10), .val (.int x12), .val (.int x14), .val (.long x16), .second, .val (.int v17), .val (.int v20)] [(.int (1 : Int32))])) _
  refine Goes.by (fun _ k => XS.goto X15.here hx rfl (pc0 := 146) (pc' := 150) rfl (hb hby at_146) (by decide) (by decide) k) ?_
  show Goes p.tables e below (T15.setTop (mkF m 150 #[.val (.long pa), .second, .val (.long pb), .second, .val (.int pf), .val (.int v1), .val (.int v3), .val (.ref b5), .val (.ref b7), .val (.int x10), .val (.int x12), .val (.int x14), .val (.long x16), .second, .val (.int v17), .val (.int v20)] [(.int (1 : Int32))])) _
  obtain ⟨fs, hr, hrun, hended, hW, hsame⟩ := X15.leave (v := some (.int (1 : Int32))) (fun h => by rw [Bd.returns] at h; cases h)
  refine ⟨_, _, retN X15 hx (t := .boolean) Bd.returns (by simp) (hb hby at_150) hr, hrun, hended, _, _, rfl, ?_, ⟨_, rfl⟩, hW, hsame.mono (by decide) (by decide)⟩
  show Q0 Z pa pb pf h0 n0 _ T15.heap _
  rw [e15]
  exact ⟨rfl, N15⟩
set_option maxRecDepth 65536 in
set_option maxHeartbeats 40000000 in
theorem comes_1 {Post : Tables → Env → Array Value → State → Outcome → State → Prop} (hpost : ∀ tb e args s v u, (limb_1_1.after args s (.returned v) u = true ∧ limb_1_2.after args s (.returned v) u = true ∧ True) → FrameEnd s (.returned v) u (Jvm.fieldLocs frame_1_writes args s ++ Jvm.arrayLocs frame_1_arrays args s ++ Jvm.staticLocs frame_1_statics s) 16 128 → Post tb e args s (.returned v) u) :
    ArmFor flags0 classFile x code maxLocals ret World_1 tables_1 room_1 Calls_1 rest_1 Pre_1 Post := by
  intro l hfl _ _ p e ha hc hk s m args below hf hA hF happ hP
  obtain ⟨hcalls, hrest, hpre⟩ := hP
  obtain ⟨-, -, -, hnamed, -, -, -, hat⟩ := (Spec.applies_iff hf).mp happ
  obtain ⟨hg, hn⟩ := and_e (Cond.before_iff.mp (show (Jvm.Cond.and given_1 narrow_1).before args s = true from hpre))
  obtain ⟨g1, g2⟩ := and_e hg
  obtain ⟨g3, g4⟩ := and_e g2
  obtain ⟨g5, g6⟩ := and_e g4
  obtain ⟨w0, w1, w2, rfl⟩ : ∃ w0 w1 w2 : Value, args = #[w0, w1, w2] := by
    have hs : args.size = 3 := by simpa [Cond.value, given_1] using g1
    obtain ⟨L⟩ := args
    match L, hs with
    | [w0, w1, w2], _ => exact ⟨w0, w1, w2, rfl⟩
  have hw := fun d (hd : d ∈ tables_1) => atoms_spec (ws := Jvm.Cond.code x code maxLocals ret :: tables_1) hat d (List.mem_cons_of_mem _ hd)
  have hfit : Fit s := fun {y c} hc i hi => by
    obtain ⟨ha, rfl⟩ := Array.getElem?_eq_some_iff.mp hc
    have q := List.all_eq_true.mp ((Array.all_eq_true_iff_forall_mem.mp hF) _ (Array.getElem_mem ha)) i (List.mem_range.mpr hi)
    simpa [Array.getElem?_eq_getElem hi] using q
  obtain ⟨i0, ei0⟩ := isL_v g3
  obtain rfl : w0 = (.long i0) := Option.some.inj ei0
  obtain ⟨i1, ei1⟩ := isL_v g5
  obtain rfl : w1 = (.long i1) := Option.some.inj ei1
  obtain ⟨i2, ei2⟩ := is_v g6
  obtain rfl : w2 = (.int i2) := Option.some.inj ei2
  obtain ⟨n, o, h1, h2, h3, _, L, rfl, ⟨hv0, N⟩, hq⟩ := rm0 l s _ hw tables_1 i0 i1 i2 s.heap s.heap.size (Nat.le_refl _) p e ha hc hk s m _ below hf ((Spec.applies_iff_loose hf).mp happ).1 ⟨rfl, State.Warmed39.refl s, rfl⟩ trivial
  subst hv0
  refine ⟨n, _, h1, h2, h3, hpost _ _ _ _ _ _ ⟨Cond.after_iff.mpr rfl, Cond.after_iff.mpr (eq_i res_at (Term.int_eval (1)) rfl), trivial⟩ ⟨hq.1, hq.2.1, (hq.2.2.sift fun y hy => Or.inr (N y hy)).mono (by decide) (by decide)⟩⟩
theorem main_1_1 : Claimed_1_1 := comes_1 fun _ _ _ _ _ _ h hF => ⟨h.1, hF⟩
theorem main_1_2 : Claimed_1_2 := comes_1 fun _ _ _ _ _ _ h hF => ⟨h.2.1, hF⟩
end Jvm.Pilot.@@N@@
namespace Jvm.Pilot.@@N@@
open Jvm Jvm.ClassFile Sem Op Lib Jvm.Free Jvm.Stand Jvm.Pilot.@@N@@.Jvm.D
/-! MADE BY PROGRAM (witnessworld.py) out of the Statement's table words and the real class files: 11 classes; the members and pool entries that the words name. The judged class is class 1, her method 1. -/
namespace start1
open Jvm.ClassFile
def u (s : String) : CpInfo := .utf8 (stringToUtf16 s)
/-- a pool by its gaps: so many unusable entries, then the entry; so many at the end -/
def gap : Nat → List CpInfo → List CpInfo
  | 0, r => r
  | n + 1, r => .unusable :: gap n r
def poolList (es : List (Nat × CpInfo)) (last : Nat) : List CpInfo := es.foldr (fun e r => gap e.1 (e.2 :: r)) (gap last [])
def pool (es : List (Nat × CpInfo)) (last : Nat) : Array CpInfo := ⟨poolList es last⟩
def fileOf (pool : Array CpInfo) (this : Nat) (attrs : Array Attribute := #[]) (ms : Array MethodInfo := #[]) (fl : Nat := 33) (sup : Nat := 0) (ifs : Array Nat := #[]) (fds : Array FieldInfo := #[]) : ClassFile where
  minorVersion := 0
  majorVersion := 65
  constantPool := pool
  accessFlags := fl
  thisClass := this
  superClass := sup
  interfaces := ifs
  fields := fds
  methods := ms
  attributes := attrs
def plain (name : String) (sup : Option ClassId) : Class where
  name := name
  kind := .ordinary
  loader := none
  accessFlags := 33
  super := sup
  interfaces := #[]
  cf := none
  fields := #[]
  methods := #[]
  instanceTypes := #[]
  staticTypes := #[]
  resolved := #[]
  callSites := []
  init := .initialized
  statics := none
  mirror := none

def pool0 : Array CpInfo := pool [(5, u "<init>"), (0, u "()V"), (1, .class_ 10), (1, u "java/lang/Object")] 113

def k0c0 : Code := { maxStack := 0, maxLocals := 1, code := object_method_1_code, exceptionTable := #[], attributes := #[] }
def k0m0 : Method := { name := "<init>", desc := "()V", sig := { parameters := [], returnType := none }, accessFlags := 1, code := some k0c0 }
/-- java/lang/Object -/
def k0 : Class := { plain "java/lang/Object" none with
  accessFlags := 33
  interfaces := #[]
  cf := some (fileOf pool0 8 #[] #[{ accessFlags := 1, nameIndex := 5, descriptorIndex := 6, attributes := #[] }] 33 0 #[] #[])
  fields := #[]
  methods := #[k0m0]
  instanceTypes := #[]
  staticTypes := #[]
  resolved := Array.replicate 124 none
  statics := none }

def pool1 : Array CpInfo := pool [(2, .class_ 4), (1, u "java/lang/Object"), (0, u "<init>"), (0, u "()V"), (0, .class_ 8), (0, u "com/example/firm_quote/firmquote/store/Database$LogCopy"), (0, .methodref 7 10), (0, .nameAndType 5 11), (0, u "(ZJ)V"), (0, .methodref 7 13), (0, .nameAndType 14 15), (0, u "past"), (0, u "(Lcom/example/firm_quote/firmquote/store/Database$LogCopy;)Z"), (0, .methodref 17 18), (0, .class_ 19), (0, .nameAndType 20 21), (0, u "java/lang/Math"), (0, u "max"), (0, u "(JJ)J"), (0, .class_ 23), (0, u "com/example/firm_quote/firmquote/store/LogCopyPastPinLaw"), (2, u "law"), (0, u "(JJI)Z")] 7

def k1m0 : Method := { name := "<init>", desc := "()V", sig := { parameters := [], returnType := none }, accessFlags := 1, code := none }
def k1c1 : Code := { maxStack := 5, maxLocals := 16, code := code, exceptionTable := #[], attributes := #[] }
def k1m1 : Method := { name := "law", desc := "(JJI)Z", sig := { parameters := [.long, .long, .int], returnType := some .boolean }, accessFlags := 9, code := some k1c1 }
/-- com/example/firm_quote/firmquote/store/LogCopyPastPinLaw -/
def k1 : Class := { plain "com/example/firm_quote/firmquote/store/LogCopyPastPinLaw" (some 0) with
  accessFlags := 49
  interfaces := #[]
  cf := some (fileOf pool1 22 #[] #[{ accessFlags := 1, nameIndex := 5, descriptorIndex := 6, attributes := #[] }, { accessFlags := 9, nameIndex := 26, descriptorIndex := 27, attributes := #[] }] 49 2 #[] #[])
  fields := #[]
  methods := #[k1m0, k1m1]
  instanceTypes := #[]
  staticTypes := #[]
  resolved := Array.replicate 35 none
  statics := none }

def pool2 : Array CpInfo := pool [(1, .methodref 2 3), (0, .class_ 4), (0, .nameAndType 5 6), (0, u "java/lang/Object"), (0, u "<init>"), (0, u "()V"), (0, .class_ 8), (0, u "java/lang/Record")] 13

def k2c0 : Code := { maxStack := 1, maxLocals := 1, code := jdk_30_method_1_code, exceptionTable := #[], attributes := #[] }
def k2m0 : Method := { name := "<init>", desc := "()V", sig := { parameters := [], returnType := none }, accessFlags := 4, code := some k2c0 }
/-- java/lang/Record -/
def k2 : Class := { plain "java/lang/Record" (some 0) with
  accessFlags := 1057
  interfaces := #[]
  cf := some (fileOf pool2 7 #[] #[{ accessFlags := 4, nameIndex := 5, descriptorIndex := 6, attributes := #[] }] 1057 2 #[] #[])
  fields := #[]
  methods := #[k2m0]
  instanceTypes := #[]
  staticTypes := #[]
  resolved := Array.replicate 22 none
  statics := none }

def pool3 : Array CpInfo := pool [(1, .methodref 2 3), (0, .class_ 4), (0, .nameAndType 5 6), (0, u "java/lang/Record"), (0, u "<init>"), (0, u "()V"), (0, .fieldref 8 9), (0, .class_ 10), (0, .nameAndType 11 12), (0, u "com/example/firm_quote/firmquote/store/Database$LogCopy"), (0, u "done"), (0, u "Z"), (0, .fieldref 8 14), (0, .nameAndType 15 16), (0, u "copied"), (0, u "J"), (12, u "(ZJ)V"), (3, u "past"), (0, u "(Lcom/example/firm_quote/firmquote/store/Database$LogCopy;)Z"), (9, .class_ 45), (0, u "com/example/firm_quote/firmquote/store/Database")] 20

def k3c0 : Code := { maxStack := 3, maxLocals := 4, code := prog_55_method_1_code, exceptionTable := #[], attributes := #[] }
def k3m0 : Method := { name := "<init>", desc := "(ZJ)V", sig := { parameters := [.boolean, .long], returnType := none }, accessFlags := 0, code := some k3c0 }
def k3c1 : Code := { maxStack := 4, maxLocals := 2, code := prog_55_method_2_code, exceptionTable := #[], attributes := #[] }
def k3m1 : Method := { name := "past", desc := "(Lcom/example/firm_quote/firmquote/store/Database$LogCopy;)Z", sig := { parameters := [(.object "com/example/firm_quote/firmquote/store/Database$LogCopy")], returnType := some .boolean }, accessFlags := 0, code := some k3c1 }
/-- com/example/firm_quote/firmquote/store/Database$LogCopy -/
def k3 : Class := { plain "com/example/firm_quote/firmquote/store/Database$LogCopy" (some 2) with
  accessFlags := 48
  interfaces := #[]
  cf := some (fileOf pool3 8 #[.nestHost 44] #[{ accessFlags := 0, nameIndex := 5, descriptorIndex := 29, attributes := #[] }, { accessFlags := 0, nameIndex := 33, descriptorIndex := 34, attributes := #[] }] 48 2 #[] #[{ accessFlags := 18, nameIndex := 11, descriptorIndex := 12, attributes := #[] }, { accessFlags := 18, nameIndex := 15, descriptorIndex := 16, attributes := #[] }])
  fields := #[{ name := "done", type := .boolean, accessFlags := 18, slot := 0, constantValue := 0 }, { name := "copied", type := .long, accessFlags := 18, slot := 1, constantValue := 0 }]
  methods := #[k3m0, k3m1]
  instanceTypes := #[.boolean, .long]
  staticTypes := #[]
  resolved := Array.replicate 66 none
  statics := none }

def pool4 : Array CpInfo := pool [(1, .class_ 2), (0, u "java/lang/Math"), (1, .class_ 6), (1, u "java/lang/Object"), (0, u "<init>"), (0, u "()V"), (89, .class_ 100), (1, u "java/lang/Math$RandomNumberGeneratorHolder"), (20, u "(JJ)J"), (50, u "negativeZeroFloatBits"), (0, u "J"), (2, u "negativeZeroDoubleBits"), (21, u "max"), (46, u "$assertionsDisabled"), (0, u "Z"), (91, u "twoToTheDoubleScaleDown"), (0, u "D"), (4, u "twoToTheDoubleScaleUp"), (9, u "E"), (3, u "PI"), (2, u "TAU"), (2, u "DEGREES_TO_RADIANS"), (0, u "RADIANS_TO_DEGREES")] 94

def k4m0 : Method := { name := "<init>", desc := "()V", sig := { parameters := [], returnType := none }, accessFlags := 2, code := none }
def k4c1 : Code := { maxStack := 4, maxLocals := 4, code := jdk_29_method_66_code, exceptionTable := #[], attributes := #[] }
def k4m1 : Method := { name := "max", desc := "(JJ)J", sig := { parameters := [.long, .long], returnType := some .long }, accessFlags := 9, code := some k4c1 }
/-- java/lang/Math -/
def k4 : Class := { plain "java/lang/Math" (some 0) with
  accessFlags := 49
  interfaces := #[]
  cf := some (fileOf pool4 1 #[.nestMembers #[98]] #[{ accessFlags := 2, nameIndex := 7, descriptorIndex := 8, attributes := #[] }, { accessFlags := 9, nameIndex := 198, descriptorIndex := 121, attributes := #[] }] 49 4 #[] #[{ accessFlags := 25, nameIndex := 354, descriptorIndex := 339, attributes := #[] }, { accessFlags := 25, nameIndex := 358, descriptorIndex := 339, attributes := #[] }, { accessFlags := 25, nameIndex := 361, descriptorIndex := 339, attributes := #[] }, { accessFlags := 26, nameIndex := 364, descriptorIndex := 339, attributes := #[] }, { accessFlags := 26, nameIndex := 365, descriptorIndex := 339, attributes := #[] }, { accessFlags := 26, nameIndex := 172, descriptorIndex := 173, attributes := #[] }, { accessFlags := 26, nameIndex := 176, descriptorIndex := 173, attributes := #[] }, { accessFlags := 8, nameIndex := 344, descriptorIndex := 339, attributes := #[] }, { accessFlags := 8, nameIndex := 338, descriptorIndex := 339, attributes := #[] }, { accessFlags := 4120, nameIndex := 245, descriptorIndex := 246, attributes := #[] }])
  fields := #[{ name := "E", type := .double, accessFlags := 25, slot := 0, constantValue := 0 }, { name := "PI", type := .double, accessFlags := 25, slot := 1, constantValue := 0 }, { name := "TAU", type := .double, accessFlags := 25, slot := 2, constantValue := 0 }, { name := "DEGREES_TO_RADIANS", type := .double, accessFlags := 26, slot := 3, constantValue := 0 }, { name := "RADIANS_TO_DEGREES", type := .double, accessFlags := 26, slot := 4, constantValue := 0 }, { name := "negativeZeroFloatBits", type := .long, accessFlags := 26, slot := 5, constantValue := 0 }, { name := "negativeZeroDoubleBits", type := .long, accessFlags := 26, slot := 6, constantValue := 0 }, { name := "twoToTheDoubleScaleUp", type := .double, accessFlags := 8, slot := 7, constantValue := 0 }, { name := "twoToTheDoubleScaleDown", type := .double, accessFlags := 8, slot := 8, constantValue := 0 }, { name := "$assertionsDisabled", type := .boolean, accessFlags := 4120, slot := 9, constantValue := 0 }]
  methods := #[k4m0, k4m1]
  instanceTypes := #[]
  staticTypes := #[.double, .double, .double, .double, .double, .long, .long, .double, .double, .boolean]
  resolved := Array.replicate 460 none
  statics := none }

def pool5 : Array CpInfo := pool [(1, u "java/lang/Cloneable"), (0, .class_ 1), (0, u "java/lang/Object"), (0, .class_ 3)] 3

/-- java/lang/Cloneable -/
def k5 : Class := { plain "java/lang/Cloneable" (some 0) with
  accessFlags := 1537
  interfaces := #[]
  cf := some (fileOf pool5 2 #[] #[] 1537 4 #[] #[])
  fields := #[]
  methods := #[]
  instanceTypes := #[]
  staticTypes := #[]
  resolved := Array.replicate 8 none
  statics := none }

def pool6 : Array CpInfo := pool [(1, u "java/io/Serializable"), (0, .class_ 1), (0, u "java/lang/Object"), (0, .class_ 3)] 3

/-- java/io/Serializable -/
def k6 : Class := { plain "java/io/Serializable" (some 0) with
  accessFlags := 1537
  interfaces := #[]
  cf := some (fileOf pool6 2 #[] #[] 1537 4 #[] #[])
  fields := #[]
  methods := #[]
  instanceTypes := #[]
  staticTypes := #[]
  resolved := Array.replicate 8 none
  statics := none }

/-- the primitive byte -/
def k7 : Class := { plain "byte" none with kind := .primitive 'B', accessFlags := 0x411 }
/-- [B -/
def k8 : Class := { plain "[B" (some 0) with kind := .array 7 .byte, interfaces := #[5, 6], accessFlags := 1041 }

/-- the primitive int -/
def k9 : Class := { plain "int" none with kind := .primitive 'I', accessFlags := 0x411 }
/-- [I -/
def k10 : Class := { plain "[I" (some 0) with kind := .array 9 .int, interfaces := #[5, 6], accessFlags := 1041 }

def heap : Heap := #[]
def classes : Array Class := #[k0, k1, k2, k3, k4, k5, k6, k7, k8, k9, k10]
def interned : List (Array UInt16 × Addr) := []
def slotsUsed : Nat := 0
def theMethod : MethodId := ⟨1, 1⟩
def args0 : Array Value := #[.long 5, .long 7, .int 1]
def aboutOver (below : List Frame) : State where
  vm := { classes := classes, interned := interned.toArray }
  heap := heap
  slotsUsed := slotsUsed
  threads := #[{ frames := .invoking theMethod args0 :: below }]
def below0 : List Frame := [.native { method := ⟨0, 0⟩, args := #[] }]
def about1 : State := aboutOver below0
def p0 : Program := .bare "" "" ""
def e0 : Env := launch0.env 0 0 0
theorem w_frames : about1.frames = Frame.invoking theMethod args0 :: below0 := rfl
set_option maxRecDepth 65536 in
theorem w_args : argsFit about1.vm theMethod args0 = true := by decide +kernel
set_option maxRecDepth 65536 in
theorem w_heap : heapFits about1 = true := by decide +kernel
set_option maxRecDepth 65536 in
theorem w_runnable : about1.curStatus? = some .runnable := by decide +kernel
set_option maxRecDepth 65536 in
theorem w_alone : about1.alone = true := by decide +kernel
set_option maxRecDepth 65536 in
theorem w_named : about1.methodNamed? x = some theMethod := by decide +kernel
set_option maxRecDepth 65536 in
theorem w_hears : about1.hears theMethod below0 = true := by decide +kernel
set_option maxRecDepth 65536 in
theorem w_ripe : about1.ripe theMethod args0 below0 = true := by decide +kernel
theorem w_running : about1.status = .running := rfl
set_option maxRecDepth 65536 in
theorem w_room : about1.hasRoom e0.platform room_1 = true :=
  launch0.hasRoom_least _ room_1 (by decide +kernel) (by decide +kernel) (by decide +kernel) (by decide +kernel) (by decide +kernel) (by decide +kernel)
theorem allAtoms_all (ts : List Jvm.Cond) (a : Array Jvm.Value) (st : Jvm.State) : (allAtoms ts).before a st = ts.all (fun c => c.before a st) := by
  induction ts with
  | nil => rfl
  | cons c t ih =>
    show (Jvm.Cond.and c (allAtoms t)).before a st = _
    rw [Jvm.Cond.before_and, ih, List.all_cons]
def words1 : List Jvm.Cond := Jvm.Cond.code x code maxLocals ret :: tables_1
/-- a 'code' word, met by the world's own term for the bytes: nothing is compared byte by byte -/
theorem code_word {y : MethodName} {bytes : ByteArray} {mx : Nat} {rt : Option FieldType} {a : Array Value} {s : State} {m : MethodId} {meth : Method} {c : Code} (h1 : s.methodNamed? y = some m) (h2 : s.vm.method? m = some meth) (h3 : meth.code = some c) (h4 : c.code = bytes)
    (h5 : (c.maxLocals == mx && c.exceptionTable.isEmpty && decide (c.maxStack ≤ mostOperands) && decide (meth.sig.returnType = rt) && !meth.locks && decide (parseMethodDescriptor y.desc = some meth.sig)) = true) : (Jvm.Cond.code y bytes mx rt).before a s = true := by
  simp only [Bool.and_eq_true, beq_iff_eq, Bool.not_eq_true', decide_eq_true_eq] at h5
  obtain ⟨⟨⟨⟨⟨g1, g2⟩, g3⟩, g4⟩, g5⟩, g6⟩ := h5
  simp [Cond.before, Cond.holds, Cond.value, h1, h2, h3, h4, g1, g2, g3, g4, g5, g6]
def isCode : Jvm.Cond → Bool
  | .code _ _ _ _ => true
  | _ => false
theorem all_split {L : List Jvm.Cond} {P : Jvm.Cond → Bool} (h1 : L.all (fun c => isCode c || P c) = true) (h2 : ∀ c ∈ L.filter isCode, P c = true) : L.all P = true := by
  refine List.all_eq_true.mpr fun c hc => ?_
  have h := List.all_eq_true.mp h1 c hc
  rcases Bool.eq_false_or_eq_true (isCode c) with hi | hi
  · exact h2 c (List.mem_filter.mpr ⟨hc, hi⟩)
  · simpa [hi] using h
set_option maxRecDepth 65536 in
theorem w_c0 : (Jvm.Cond.code x code maxLocals ret).before args0 about1 = true := code_word (m := ⟨1, 1⟩) (meth := k1m1) (c := k1c1) (by decide +kernel) rfl rfl rfl (by decide +kernel)
set_option maxRecDepth 65536 in
theorem w_c1 : (Jvm.Cond.code ({ cls := "com/example/firm_quote/firmquote/store/Database$LogCopy", name := "<init>", desc := "(ZJ)V" } : Jvm.MethodName) prog_55_method_1_code (4 : Nat) (Option.none : Option Jvm.ClassFile.FieldType)).before args0 about1 = true := code_word (m := ⟨3, 0⟩) (meth := k3m0) (c := k3c0) (by decide +kernel) rfl rfl rfl (by decide +kernel)
set_option maxRecDepth 65536 in
theorem w_c2 : (Jvm.Cond.code ({ cls := "java/lang/Record", name := "<init>", desc := "()V" } : Jvm.MethodName) jdk_30_method_1_code (1 : Nat) (Option.none : Option Jvm.ClassFile.FieldType)).before args0 about1 = true := code_word (m := ⟨2, 0⟩) (meth := k2m0) (c := k2c0) (by decide +kernel) rfl rfl rfl (by decide +kernel)
set_option maxRecDepth 65536 in
theorem w_c3 : (Jvm.Cond.code ({ cls := "java/lang/Object", name := "<init>", desc := "()V" } : Jvm.MethodName) object_method_1_code (1 : Nat) (Option.none : Option Jvm.ClassFile.FieldType)).before args0 about1 = true := code_word (m := ⟨0, 0⟩) (meth := k0m0) (c := k0c0) (by decide +kernel) rfl rfl rfl (by decide +kernel)
set_option maxRecDepth 65536 in
theorem w_c4 : (Jvm.Cond.code ({ cls := "com/example/firm_quote/firmquote/store/Database$LogCopy", name := "past", desc := "(Lcom/example/firm_quote/firmquote/store/Database$LogCopy;)Z" } : Jvm.MethodName) prog_55_method_2_code (2 : Nat) (Option.some Jvm.ClassFile.FieldType.boolean)).before args0 about1 = true := code_word (m := ⟨3, 1⟩) (meth := k3m1) (c := k3c1) (by decide +kernel) rfl rfl rfl (by decide +kernel)
set_option maxRecDepth 65536 in
theorem w_c5 : (Jvm.Cond.code ({ cls := "java/lang/Math", name := "max", desc := "(JJ)J" } : Jvm.MethodName) jdk_29_method_66_code (4 : Nat) (Option.some Jvm.ClassFile.FieldType.long)).before args0 about1 = true := code_word (m := ⟨4, 1⟩) (meth := k4m1) (c := k4c1) (by decide +kernel) rfl rfl rfl (by decide +kernel)
def codes1 : List Jvm.Cond := [Jvm.Cond.code x code maxLocals ret, Jvm.Cond.code ({ cls := "com/example/firm_quote/firmquote/store/Database$LogCopy", name := "<init>", desc := "(ZJ)V" } : Jvm.MethodName) prog_55_method_1_code (4 : Nat) (Option.none : Option Jvm.ClassFile.FieldType), Jvm.Cond.code ({ cls := "java/lang/Record", name := "<init>", desc := "()V" } : Jvm.MethodName) jdk_30_method_1_code (1 : Nat) (Option.none : Option Jvm.ClassFile.FieldType), Jvm.Cond.code ({ cls := "java/lang/Object", name := "<init>", desc := "()V" } : Jvm.MethodName) object_method_1_code (1 : Nat) (Option.none : Option Jvm.ClassFile.FieldType), Jvm.Cond.code ({ cls := "com/example/firm_quote/firmquote/store/Database$LogCopy", name := "past", desc := "(Lcom/example/firm_quote/firmquote/store/Database$LogCopy;)Z" } : Jvm.MethodName) prog_55_method_2_code (2 : Nat) (Option.some Jvm.ClassFile.FieldType.boolean), Jvm.Cond.code ({ cls := "java/lang/Math", name := "max", desc := "(JJ)J" } : Jvm.MethodName) jdk_29_method_66_code (4 : Nat) (Option.some Jvm.ClassFile.FieldType.long)]
set_option maxRecDepth 65536 in
theorem codes_eq : words1.filter isCode = codes1 := rfl
theorem w_codes : ∀ c ∈ words1.filter isCode, c.before args0 about1 = true := by
  rw [codes_eq]
  intro c hc
  simp only [codes1, List.mem_cons, List.not_mem_nil, or_false] at hc
  rcases hc with rfl | rfl | rfl | rfl | rfl | rfl
  · exact w_c0
  · exact w_c1
  · exact w_c2
  · exact w_c3
  · exact w_c4
  · exact w_c5
set_option maxRecDepth 65536 in
theorem w_t1 : (words1.take 24).all (fun c => isCode c || c.before args0 about1) = true := by decide +kernel
set_option maxRecDepth 65536 in
theorem w_t2 : (words1.drop 24).all (fun c => isCode c || c.before args0 about1) = true := by decide +kernel
theorem w_tables : (allAtoms (Jvm.Cond.code x code maxLocals ret :: tables_1)).before args0 about1 = true := by
  rw [allAtoms_all]
  show words1.all (fun c => c.before args0 about1) = true
  refine all_split ?_ w_codes
  rw [← List.take_append_drop 24 words1, List.all_append, w_t1, w_t2]
  rfl
set_option maxRecDepth 65536 in
theorem w_case : (Jvm.Cond.and given_1 narrow_1).before args0 about1 = true := by decide +kernel
theorem w_applies : (headSpec (Jvm.Cond.code x code maxLocals ret :: tables_1) room_1).applies x e0.platform about1 = true :=
  (Spec.applies_iff w_frames).mpr ⟨w_running, w_runnable, w_alone, w_named, w_hears, w_ripe, w_room, w_tables⟩
theorem atStart : AtStart classFile x code maxLocals ret World_1 tables_1 room_1 Calls_1 rest_1 Pre_1 launch0 p0 e0 about1 theMethod args0 below0 :=
  ⟨lists_1, trivial, launch0.admits_env _ _ _, launch0.least_env, fairChoices_fair.cas, fairChoices_fair.clock, w_frames, w_args, w_heap, w_applies, trivial, trivial, w_case⟩
end start1
theorem witness_1 : WitnessClaimed_1 := ⟨start1.p0, start1.e0, start1.about1, start1.theMethod, start1.args0, start1.below0, start1.atStart⟩
end Jvm.Pilot.@@N@@

import JvmDerived
import JvmDerived.Pilot.@@N@@Statement
import JvmDerived.Pilot.@@N@@Code
set_option linter.unusedVariables false
set_option linter.unusedSimpArgs false
namespace Jvm.Pilot.@@N@@.OwnKit
open Jvm Sem ClassFile Op Lib Jvm.Stand Jvm.Free Jvm.LawKit Jvm.RoadKit
section New
variable {p : Program} {l : Launch} {e : Env} {R : Room} {s : State} {m : MethodId} {args : Array Value} {below : List Frame} {meth : Method} {c : Code} {T : State} {locs : List Loc} {cells slots : Nat}
theorem retI (X : Stand p l e R s m args below meth c T locs cells slots) (hx : p.tables.exec = Jvm.exec) {pc : Nat} {Ls : Array Slot} {z : Int32} {rest : List Value} (hret : meth.sig.returnType = some .int) (hd : decode c.code pc = .ok (.ireturn, 1)) {fs : List Frame}
    (hl : ∀ (f : JFrame) (acts : List Action), f.method = m → f.locked = none → f.entered = [] → (doReturn e (T.setTop f) acts (some (.int z))).1 = T.setFrames fs) : Steps p.tables e below (T.setTop (mkF m pc Ls (.int z :: rest))) (T.setFrames fs) :=
  retOut X hx hret rfl (Or.inl ⟨rfl, Or.inl rfl, _, rfl⟩) hd hl
theorem lremM {g : JFrame} {target : State} (X : Stand p l e R s m args below meth c T locs cells slots) (hx : p.tables.exec = Jvm.exec) (hg : g.method = m) {x y : Int64} {rest : List Value} (hd : decode c.code g.pc = .ok (.lrem, 1)) (hs : g.stack = .long y :: .long x :: rest) (hy : y ≠ 0)
    (hr : Steps p.tables e below (T.setTop { g with pc := g.pc + 1, stack := .long (x % y) :: rest }) target) : Steps p.tables e below (T.setTop g) target := by
  have q : x - x / y * y = x % y := by
    have g1 := rng64 (x % y)
    have g2 : (x % y).toInt = x.toInt.tmod y.toInt := Int64.toInt_mod x y
    have g3 := Int.tmod_def x.toInt y.toInt
    have g4 : (x / y).toInt = (x.toInt.tdiv y.toInt).bmod (2 ^ 64) := Int64.toInt_div x y
    apply Int64.toInt_inj.mp
    rw [Int64.toInt_sub, Int64.toInt_mul, g4, Int.bmod_mul_bmod, Int.sub_bmod_bmod, Int.mul_comm (x.toInt.tdiv y.toInt), ← g3, ← g2]
    exact Int.bmod_eq_of_le_mul_two (by omega) (by omega)
  exact XS.lrem X.here hx hg hd hs hy (by rw [q]; exact hr)
end New
/-- from here the run ends, and as G says -/
def Goes (tb : Tables) (e : Env) (below : List Frame) (t : State) (G : State → Outcome → Prop) : Prop := ∃ s₂ o, Steps tb e below t s₂ ∧ s₂.status = .running ∧ Ended s₂ below o ∧ G s₂ o
variable {tb : Tables} {e : Env} {below : List Frame} {t t' : State} {G : State → Outcome → Prop}
theorem Goes.by (k : ∀ u, Steps tb e below t' u → Steps tb e below t u) (h : Goes tb e below t' G) : Goes tb e below t G := by
  obtain ⟨s₂, o, h1, h2⟩ := h; exact ⟨s₂, o, k _ h1, h2⟩
theorem Goes.via (k : Steps tb e below t t') (h : Goes tb e below t' G) : Goes tb e below t G := by
  obtain ⟨s₂, o, h1, h2⟩ := h; exact ⟨s₂, o, k.trans h1, h2⟩
theorem jl_t {x y : Int64} (h : x < y) : ifCond.holds .lt (lcmpW x y) = true ∧ ifCond.holds .ge (lcmpW x y) = false := ⟨(if0 _ _).trans (tlt ((lw_lt x y).mpr h)).1, (if0 _ _).trans (tlt ((lw_lt x y).mpr h)).2.1⟩
theorem jl_f {x y : Int64} (h : ¬ x < y) : ifCond.holds .lt (lcmpW x y) = false ∧ ifCond.holds .ge (lcmpW x y) = true := ⟨(if0 _ _).trans (flt (fun q => h ((lw_lt x y).mp q))).1, (if0 _ _).trans (flt (fun q => h ((lw_lt x y).mp q))).2.1⟩
theorem jg_t {x y : Int64} (h : y < x) : ifCond.holds .gt (lcmpW x y) = true ∧ ifCond.holds .le (lcmpW x y) = false := ⟨(if0 _ _).trans (tlt ((lw_gt x y).mpr h)).2.2.1, (if0 _ _).trans (tlt ((lw_gt x y).mpr h)).2.2.2⟩
theorem jg_f {x y : Int64} (h : ¬ y < x) : ifCond.holds .gt (lcmpW x y) = false ∧ ifCond.holds .le (lcmpW x y) = true := ⟨(if0 _ _).trans (flt (fun q => h ((lw_gt x y).mp q))).2.2.1, (if0 _ _).trans (flt (fun q => h ((lw_gt x y).mp q))).2.2.2⟩
theorem je_t {x y : Int64} (h : x = y) : ifCond.holds .eq (lcmpW x y) = true ∧ ifCond.holds .ne (lcmpW x y) = false := ⟨(if0 _ _).trans (teq ((lw_eq x y).mpr h)).1, (if0 _ _).trans (teq ((lw_eq x y).mpr h)).2⟩
theorem je_f {x y : Int64} (h : ¬ x = y) : ifCond.holds .eq (lcmpW x y) = false ∧ ifCond.holds .ne (lcmpW x y) = true := ⟨(if0 _ _).trans (feq (fun q => h ((lw_eq x y).mp q))).1, (if0 _ _).trans (feq (fun q => h ((lw_eq x y).mp q))).2⟩
theorem selP {Z s : State} {a0 args : Array Value} {y : MethodName} {n : Nat} (hZ : Z.Warmed39 s.vm) (wi : (Cond.instantiable y.cls n).before a0 Z = true) (wp : (Cond.privateMethod y).before a0 Z = true) (win : (Cond.instanceMethod y).before a0 Z = true) (hy : y.cls ≠ "java/lang/invoke/MethodHandle" ∧ y.cls ≠ "java/lang/invoke/VarHandle") : (Cond.selects y.cls y y).before args s = true := by
  have w1 : (Cond.instantiable y.cls n).before args s = true := mv hZ wi
  obtain ⟨c, k, h1, h2, -, h4, -⟩ := Cond.instantiable_spec w1
  rw [Bool.or_eq_false_iff] at h4
  exact selects_self_of_private h1 h2 h4.1 (Cond.privateMethod_at (mvP hZ wp (args := args))) (mv hZ win) hy
theorem narR {t : FieldType} {w : Value} (h : t.isReference = true) : narrow t w = w := by cases t <;> first | (cases h; done) | (cases w <;> rfl)
end Jvm.Pilot.@@N@@.OwnKit
namespace Jvm.Pilot.@@N@@
open Jvm Jvm.ClassFile Sem Op Lib Jvm.Free Jvm.Stand Jvm.LawKit Jvm.RoadKit Bundle Jvm.Pilot.@@N@@.Jvm.D Jvm.Pilot.@@N@@.OwnKit
theorem d2_0 : decode jdk_29_method_52_code 0 = .ok (.lload_n 0, 1) := by decide +kernel
theorem d2_1 : decode jdk_29_method_52_code 1 = .ok (.lload_n 2, 1) := by decide +kernel
theorem d2_2 : decode jdk_29_method_52_code 2 = .ok (.lrem, 1) := by decide +kernel
theorem d2_3 : decode jdk_29_method_52_code 3 = .ok (.lstore 4, 2) := by decide +kernel
theorem d2_5 : decode jdk_29_method_52_code 5 = .ok (.lload_n 0, 1) := by decide +kernel
theorem d2_6 : decode jdk_29_method_52_code 6 = .ok (.lload_n 2, 1) := by decide +kernel
theorem d2_7 : decode jdk_29_method_52_code 7 = .ok (.lxor, 1) := by decide +kernel
theorem d2_8 : decode jdk_29_method_52_code 8 = .ok (.lconst 0, 1) := by decide +kernel
theorem d2_9 : decode jdk_29_method_52_code 9 = .ok (.lcmp, 1) := by decide +kernel
theorem d2_10 : decode jdk_29_method_52_code 10 = .ok (.ifCond .ge 15, 3) := by decide +kernel
theorem d2_13 : decode jdk_29_method_52_code 13 = .ok (.lload 4, 2) := by decide +kernel
theorem d2_15 : decode jdk_29_method_52_code 15 = .ok (.lconst 0, 1) := by decide +kernel
theorem d2_16 : decode jdk_29_method_52_code 16 = .ok (.lcmp, 1) := by decide +kernel
theorem d2_17 : decode jdk_29_method_52_code 17 = .ok (.ifCond .eq 8, 3) := by decide +kernel
theorem d2_25 : decode jdk_29_method_52_code 25 = .ok (.lload 4, 2) := by decide +kernel
theorem d2_27 : decode jdk_29_method_52_code 27 = .ok (.lreturn, 1) := by decide +kernel
theorem d2_20 : decode jdk_29_method_52_code 20 = .ok (.lload 4, 2) := by decide +kernel
theorem d2_22 : decode jdk_29_method_52_code 22 = .ok (.lload_n 2, 1) := by decide +kernel
theorem d2_23 : decode jdk_29_method_52_code 23 = .ok (.ladd, 1) := by decide +kernel
theorem d2_24 : decode jdk_29_method_52_code 24 = .ok (.lreturn, 1) := by decide +kernel
def fn2 (pa : Int64) (pb : Int64) : Int64 := (if (pa ^^^ pb) < (0 : Int64) then (if (pa % pb) = (0 : Int64) then (pa % pb) else ((pa % pb) + pb)) else (pa % pb))
theorem ef2 (m : MethodId) (pa : Int64) (pb : Int64) : entryFrame m #[(.long pa), (.long pb)] 6 = mkF m 0 #[.val (.long pa), .second, .val (.long pb), .second, .unset, .unset] [] := by first | (simp [entryFrame, mkF, argsToLocals, Value.category]; done) | rfl
def Q2 (Z : State) (pa : Int64) (pb : Int64) (h0 : Heap) (n0 : Nat) (v : Option Value) (h : Heap) (L : List Loc) : Prop := v = some (.long (fn2 pa pb)) ∧ Fr n0 L ∧ h = h0
set_option maxRecDepth 65536 in
set_option maxHeartbeats 40000000 in
theorem rm2 (l : Launch) (Z : State) (a0 : Array Value) (hw : ∀ d ∈ tables_1, d.before a0 Z = true) (ws : List Jvm.Cond) (pa : Int64) (pb : Int64) (h0 : Heap) (n0 : Nat) (Z0 : n0 ≤ h0.size) (hnz : ¬ (pb = (0 : Int64))) :
    MetFree l (⟨"java/lang/Math", "floorMod", "(JJ)J"⟩ : MethodName) (head1 (Jvm.Cond.code (⟨"java/lang/Math", "floorMod", "(JJ)J"⟩ : MethodName) jdk_29_method_52_code 6 (some .long) :: ws) ({ frames := 0, cells := 0, slots := 0, locals := 0 } : Room)) (fun a U => a = #[(.long pa), (.long pb)] ∧ Z.Warmed39 U.vm ∧ U.heap = h0) (fun _ _ _ _ _ => True) (fun _ U o U' => ∃ v L, o = .returned v ∧ Q2 Z pa pb h0 n0 v U'.heap L ∧ FrameEnd U o U' L ({ frames := 0, cells := 0, slots := 0, locals := 0 } : Room).cells ({ frames := 0, cells := 0, slots := 0, locals := 0 } : Room).slots) := by
  refine MetFree.of_bodySF (Jvm.Free.JP.mathPlain rfl (by decide +kernel)) hisR ?_
  intro p e s m args below meth c s₁ Bd hml0 hP hK
  obtain ⟨rfl, hZ, hh⟩ := hP
  have hx := Bd.exec
  have hby := Bd.bytes
  have hml : c.maxLocals = 6 := hml0
  have hown : s.vm.findClass "java/lang/Math" = some m.cls := findClass_of_methodNamed Bd.named
  have hnm := (name_of_methodNamed Bd.named Bd.method).1
  have X0 : Stand p l e ({ frames := 0, cells := 0, slots := 0, locals := 0 } : Room) s m #[(.long pa), (.long pb)] below meth c s₁ [] 0 0 := Stand.of_body Bd
  have e0 : s₁.heap = h0 := by rw [← hh, Bd.state]; rfl
  have N0 := Fr.nil n0
  refine Goes.by (fun _ k => castTop (ef2 m pa pb) k) ?_
  show Goes p.tables e below (s₁.setTop (mkF m 0 #[.val (.long pa), .second, .val (.long pb), .second, .unset, .unset] [])) _
  refine Goes.by (fun _ k => XS.lloadN X0.here hx rfl (hb hby d2_0) rfl k) ?_
  show Goes p.tables e below (s₁.setTop (mkF m 1 #[.val (.long pa), .second, .val (.long pb), .second, .unset, .unset] [(.long pa)])) _
  refine Goes.by (fun _ k => XS.lloadN X0.here hx rfl (hb hby d2_1) rfl k) ?_
  show Goes p.tables e below (s₁.setTop (mkF m 2 #[.val (.long pa), .second, .val (.long pb), .second, .unset, .unset] [(.long pb), (.long pa)])) _
  refine Goes.by (fun _ k => lremM X0 hx rfl (hb hby d2_2) rfl hnz k) ?_
  show Goes p.tables e below (s₁.setTop (mkF m 3 #[.val (.long pa), .second, .val (.long pb), .second, .unset, .unset] [(.long (pa % pb))])) _
  refine Goes.by (fun _ k => XS.lstore X0.here hx rfl (hb hby d2_3) rfl (l' := #[.val (.long pa), .second, .val (.long pb), .second, .val (.long (pa % pb)), .second]) rfl k) ?_
  show Goes p.tables e below (s₁.setTop (mkF m 5 #[.val (.long pa), .second, .val (.long pb), .second, .val (.long (pa % pb)), .second] [])) _
  refine Goes.by (fun _ k => XS.lloadN X0.here hx rfl (hb hby d2_5) rfl k) ?_
  show Goes p.tables e below (s₁.setTop (mkF m 6 #[.val (.long pa), .second, .val (.long pb), .second, .val (.long (pa % pb)), .second] [(.long pa)])) _
  refine Goes.by (fun _ k => XS.lloadN X0.here hx rfl (hb hby d2_6) rfl k) ?_
  show Goes p.tables e below (s₁.setTop (mkF m 7 #[.val (.long pa), .second, .val (.long pb), .second, .val (.long (pa % pb)), .second] [(.long pb), (.long pa)])) _
  refine Goes.by (fun _ k => XS.lxor X0.here hx rfl (hb hby d2_7) rfl k) ?_
  show Goes p.tables e below (s₁.setTop (mkF m 8 #[.val (.long pa), .second, .val (.long pb), .second, .val (.long (pa % pb)), .second] [(.long (pa ^^^ pb))])) _
  refine Goes.by (fun _ k => XS.lconst X0.here hx rfl (hb hby d2_8) k) ?_
  show Goes p.tables e below (s₁.setTop (mkF m 9 #[.val (.long pa), .second, .val (.long pb), .second, .val (.long (pa % pb)), .second] [(.long (0 : Int64)), (.long (pa ^^^ pb))])) _
  refine Goes.by (fun _ k => XS.lcmp X0.here hx rfl (hb hby d2_9) rfl k) ?_
  show Goes p.tables e below (s₁.setTop (mkF m 10 #[.val (.long pa), .second, .val (.long pb), .second, .val (.long (pa % pb)), .second] [(.int (lcmpW (pa ^^^ pb) (0 : Int64)))])) _
  by_cases hc1 : (pa ^^^ pb) < (0 : Int64)
  · refine Goes.by (fun _ k => XS.ifNo X0.here hx rfl (hb hby d2_10) rfl (jl_t hc1).2 k) ?_
    show Goes p.tables e below (s₁.setTop (mkF m 13 #[.val (.long pa), .second, .val (.long pb), .second, .val (.long (pa % pb)), .second] [])) _
    refine Goes.by (fun _ k => XS.lload X0.here hx rfl (hb hby d2_13) rfl k) ?_
    show Goes p.tables e below (s₁.setTop (mkF m 15 #[.val (.long pa), .second, .val (.long pb), .second, .val (.long (pa % pb)), .second] [(.long (pa % pb))])) _
    refine Goes.by (fun _ k => XS.lconst X0.here hx rfl (hb hby d2_15) k) ?_
    show Goes p.tables e below (s₁.setTop (mkF m 16 #[.val (.long pa), .second, .val (.long pb), .second, .val (.long (pa % pb)), .second] [(.long (0 : Int64)), (.long (pa % pb))])) _
    refine Goes.by (fun _ k => XS.lcmp X0.here hx rfl (hb hby d2_16) rfl k) ?_
    show Goes p.tables e below (s₁.setTop (mkF m 17 #[.val (.long pa), .second, .val (.long pb), .second, .val (.long (pa % pb)), .second] [(.int (lcmpW (pa % pb) (0 : Int64)))])) _
    by_cases hc2 : (pa % pb) = (0 : Int64)
    · refine Goes.by (fun _ k => XS.ifYes X0.here hx rfl (pc0 := 17) (pc' := 25) rfl (hb hby d2_17) rfl (je_t hc2).1 (by decide) (by decide) k) ?_
      show Goes p.tables e below (s₁.setTop (mkF m 25 #[.val (.long pa), .second, .val (.long pb), .second, .val (.long (pa % pb)), .second] [])) _
      refine Goes.by (fun _ k => XS.lload X0.here hx rfl (hb hby d2_25) rfl k) ?_
      show Goes p.tables e below (s₁.setTop (mkF m 27 #[.val (.long pa), .second, .val (.long pb), .second, .val (.long (pa % pb)), .second] [(.long (pa % pb))])) _
      obtain ⟨fs, hr, hrun, hended, hW, hsame⟩ := X0.leave (v := some (.long (pa % pb))) (fun h => by rw [Bd.returns] at h; cases h)
      refine ⟨_, _, retOut X0 hx Bd.returns (i := .lreturn) rfl (Or.inr (Or.inl ⟨rfl, rfl, _, rfl⟩)) (hb hby d2_27) hr, hrun, hended, _, _, rfl, ?_, ⟨_, rfl⟩, hW, hsame.mono (by decide) (by decide)⟩
      show Q2 Z pa pb h0 n0 _ s₁.heap _
      rw [e0]
      exact ⟨(by rw [fn2, if_pos hc1, if_pos hc2]), N0, rfl⟩
    · refine Goes.by (fun _ k => XS.ifNo X0.here hx rfl (hb hby d2_17) rfl (je_f hc2).1 k) ?_
      show Goes p.tables e below (s₁.setTop (mkF m 20 #[.val (.long pa), .second, .val (.long pb), .second, .val (.long (pa % pb)), .second] [])) _
      refine Goes.by (fun _ k => XS.lload X0.here hx rfl (hb hby d2_20) rfl k) ?_
      show Goes p.tables e below (s₁.setTop (mkF m 22 #[.val (.long pa), .second, .val (.long pb), .second, .val (.long (pa % pb)), .second] [(.long (pa % pb))])) _
      refine Goes.by (fun _ k => XS.lloadN X0.here hx rfl (hb hby d2_22) rfl k) ?_
      show Goes p.tables e below (s₁.setTop (mkF m 23 #[.val (.long pa), .second, .val (.long pb), .second, .val (.long (pa % pb)), .second] [(.long pb), (.long (pa % pb))])) _
      refine Goes.by (fun _ k => XS.ladd X0.here hx rfl (hb hby d2_23) rfl k) ?_
      show Goes p.tables e below (s₁.setTop (mkF m 24 #[.val (.long pa), .second, .val (.long pb), .second, .val (.long (pa % pb)), .second] [(.long ((pa % pb) + pb))])) _
      obtain ⟨fs, hr, hrun, hended, hW, hsame⟩ := X0.leave (v := some (.long ((pa % pb) + pb))) (fun h => by rw [Bd.returns] at h; cases h)
      refine ⟨_, _, retOut X0 hx Bd.returns (i := .lreturn) rfl (Or.inr (Or.inl ⟨rfl, rfl, _, rfl⟩)) (hb hby d2_24) hr, hrun, hended, _, _, rfl, ?_, ⟨_, rfl⟩, hW, hsame.mono (by decide) (by decide)⟩
      show Q2 Z pa pb h0 n0 _ s₁.heap _
      rw [e0]
      exact ⟨(by rw [fn2, if_pos hc1, if_neg hc2]), N0, rfl⟩
  · refine Goes.by (fun _ k => XS.ifYes X0.here hx rfl (pc0 := 10) (pc' := 25) rfl (hb hby d2_10) rfl (jl_f hc1).2 (by decide) (by decide) k) ?_
    show Goes p.tables e below (s₁.setTop (mkF m 25 #[.val (.long pa), .second, .val (.long pb), .second, .val (.long (pa % pb)), .second] [])) _
    refine Goes.by (fun _ k => XS.lload X0.here hx rfl (hb hby d2_25) rfl k) ?_
    show Goes p.tables e below (s₁.setTop (mkF m 27 #[.val (.long pa), .second, .val (.long pb), .second, .val (.long (pa % pb)), .second] [(.long (pa % pb))])) _
    obtain ⟨fs, hr, hrun, hended, hW, hsame⟩ := X0.leave (v := some (.long (pa % pb))) (fun h => by rw [Bd.returns] at h; cases h)
    refine ⟨_, _, retOut X0 hx Bd.returns (i := .lreturn) rfl (Or.inr (Or.inl ⟨rfl, rfl, _, rfl⟩)) (hb hby d2_27) hr, hrun, hended, _, _, rfl, ?_, ⟨_, rfl⟩, hW, hsame.mono (by decide) (by decide)⟩
    show Q2 Z pa pb h0 n0 _ s₁.heap _
    rw [e0]
    exact ⟨(by rw [fn2, if_neg hc1]), N0, rfl⟩
theorem d1_0 : decode prog_48_method_21_code 0 = .ok (.lload_n 1, 1) := by decide +kernel
theorem d1_1 : decode prog_48_method_21_code 1 = .ok (.lload_n 1, 1) := by decide +kernel
theorem d1_2 : decode prog_48_method_21_code 2 = .ok (.iload_n 0, 1) := by decide +kernel
theorem d1_3 : decode prog_48_method_21_code 3 = .ok (.i2l, 1) := by decide +kernel
theorem d1_4 : decode prog_48_method_21_code 4 = .ok (.lsub, 1) := by decide +kernel
theorem d1_5 : decode prog_48_method_21_code 5 = .ok (.ldc2_w 443, 3) := by decide +kernel
theorem d1_8 : decode prog_48_method_21_code 8 = .ok (.invokestatic 445, 3) := by decide +kernel
theorem pd_0 : parseMethodDescriptor "(JJ)J" = some ⟨[.long, .long], some .long⟩ := by decide +kernel
theorem d1_11 : decode prog_48_method_21_code 11 = .ok (.lsub, 1) := by decide +kernel
theorem d1_12 : decode prog_48_method_21_code 12 = .ok (.lreturn, 1) := by decide +kernel
def fn1 (pr : Int32) (pb : Int64) : Int64 := (pb - (fn2 (pb - (pr.toInt64)) (4294967296 : Int64)))
theorem pn_0 : plainName "org/unitspan/ead/DocumentDecoder" = true := by first | (simp [plainName, overriddenIn]; done) | decide +kernel
theorem ef1 (m : MethodId) (pr : Int32) (pb : Int64) : entryFrame m #[(.int pr), (.long pb)] 3 = mkF m 0 #[.val (.int pr), .val (.long pb), .second] [] := by first | (simp [entryFrame, mkF, argsToLocals, Value.category]; done) | rfl
def Q1 (Z : State) (pr : Int32) (pb : Int64) (h0 : Heap) (n0 : Nat) (v : Option Value) (h : Heap) (L : List Loc) : Prop := v = some (.long (fn1 pr pb)) ∧ Fr n0 L ∧ h = h0
set_option maxRecDepth 65536 in
set_option maxHeartbeats 40000000 in
theorem rm1 (l : Launch) (Z : State) (a0 : Array Value) (hw : ∀ d ∈ tables_1, d.before a0 Z = true) (ws : List Jvm.Cond) (pr : Int32) (pb : Int64) (h0 : Heap) (n0 : Nat) (Z0 : n0 ≤ h0.size) :
    MetFree l (⟨"org/unitspan/ead/DocumentDecoder", "latest", "(IJ)J"⟩ : MethodName) (head1 (Jvm.Cond.code (⟨"org/unitspan/ead/DocumentDecoder", "latest", "(IJ)J"⟩ : MethodName) prog_48_method_21_code 3 (some .long) :: ws) ({ frames := 1, cells := 0, slots := 0, locals := 19 } : Room)) (fun a U => a = #[(.int pr), (.long pb)] ∧ Z.Warmed39 U.vm ∧ U.heap = h0) (fun _ _ _ _ _ => True) (fun _ U o U' => ∃ v L, o = .returned v ∧ Q1 Z pr pb h0 n0 v U'.heap L ∧ FrameEnd U o U' L ({ frames := 1, cells := 0, slots := 0, locals := 19 } : Room).cells ({ frames := 1, cells := 0, slots := 0, locals := 19 } : Room).slots) := by
  refine MetFree.of_bodySF (plainFor_of_name pn_0) hisR ?_
  intro p e s m args below meth c s₁ Bd hml0 hP hK
  obtain ⟨rfl, hZ, hh⟩ := hP
  have hx := Bd.exec
  have hby := Bd.bytes
  have hml : c.maxLocals = 3 := hml0
  have hown : s.vm.findClass "org/unitspan/ead/DocumentDecoder" = some m.cls := findClass_of_methodNamed Bd.named
  have hnm := (name_of_methodNamed Bd.named Bd.method).1
  have X0 : Stand p l e ({ frames := 1, cells := 0, slots := 0, locals := 19 } : Room) s m #[(.int pr), (.long pb)] below meth c s₁ [] 0 0 := Stand.of_body Bd
  have e0 : s₁.heap = h0 := by rw [← hh, Bd.state]; rfl
  have N0 := Fr.nil n0
  refine Goes.by (fun _ k => castTop (ef1 m pr pb) k) ?_
  show Goes p.tables e below (s₁.setTop (mkF m 0 #[.val (.int pr), .val (.long pb), .second] [])) _
  refine Goes.by (fun _ k => XS.lloadN X0.here hx rfl (hb hby d1_0) rfl k) ?_
  show Goes p.tables e below (s₁.setTop (mkF m 1 #[.val (.int pr), .val (.long pb), .second] [(.long pb)])) _
  refine Goes.by (fun _ k => XS.lloadN X0.here hx rfl (hb hby d1_1) rfl k) ?_
  show Goes p.tables e below (s₁.setTop (mkF m 2 #[.val (.int pr), .val (.long pb), .second] [(.long pb), (.long pb)])) _
  refine Goes.by (fun _ k => XS.iloadN X0.here hx rfl (hb hby d1_2) rfl k) ?_
  show Goes p.tables e below (s₁.setTop (mkF m 3 #[.val (.int pr), .val (.long pb), .second] [(.int pr), (.long pb), (.long pb)])) _
  refine Goes.by (fun _ k => XS.i2l X0.here hx rfl (hb hby d1_3) rfl k) ?_
  show Goes p.tables e below (s₁.setTop (mkF m 4 #[.val (.int pr), .val (.long pb), .second] [(.long (pr.toInt64)), (.long pb), (.long pb)])) _
  refine Goes.by (fun _ k => XS.lsub X0.here hx rfl (hb hby d1_4) rfl k) ?_
  show Goes p.tables e below (s₁.setTop (mkF m 5 #[.val (.int pr), .val (.long pb), .second] [(.long (pb - (pr.toInt64))), (.long pb)])) _
  refine Goes.by (fun _ k => X0.ldc2J hx hown (mvT hZ (hw _ (List.mem_of_getElem? (i := 5) rfl))) (g := (mkF m 5 #[.val (.int pr), .val (.long pb), .second] [(.long (pb - (pr.toInt64))), (.long pb)])) rfl (hb hby d1_5) k) ?_
  show Goes p.tables e below (s₁.setTop (mkF m 8 #[.val (.int pr), .val (.long pb), .second] [(.long (4294967296 : Int64)), (.long (pb - (pr.toInt64))), (.long pb)])) _
  obtain ⟨_, _, ⟨T1, L1, k1, n1⟩, -, X1, ⟨Lc1, hQ1, l1, y1, z1⟩, st1⟩ := Jvm.LawKit.callS X0 hx (y := (⟨"java/lang/Math", "floorMod", "(JJ)J"⟩ : MethodName)) hown (mvT hZ (hw _ (List.mem_of_getElem? (i := 6) rfl))) (mvT hZ (hw _ (List.mem_of_getElem? (i := 7) rfl))) (mvT hZ (hw _ (List.mem_of_getElem? (i := 8) rfl))) (mvT hZ (hw _ (List.mem_of_getElem? (i := 9) rfl))) (by decide) (backOf (W := 2) (rm2 l Z a0 hw [] (pb - (pr.toInt64)) (4294967296 : Int64) h0 n0 Z0 (by decide)) hZ (hw _ (List.mem_of_getElem? (i := 9) rfl)) (hw _ (List.mem_of_getElem? (i := 8) rfl)) (by decide) (by decide)) (g := (mkF m 8 #[.val (.int pr), .val (.long pb), .second] [(.long (4294967296 : Int64)), (.long (pb - (pr.toInt64))), (.long pb)])) rfl (by rw [hml]; rfl) (argsL := [(.long (pb - (pr.toInt64))), (.long (4294967296 : Int64))]) (rest := [(.long pb)]) (lenOf pd_0 rfl) rfl (by show 2 * 0 + _ ≤ _; exact Nat.le_of_eq rfl) (hb hby d1_8) (fun _ _ => ⟨rfl, e0, (by decide : 0 + 0 ≤ _), (by decide : 0 + 0 ≤ _)⟩)
  dsimp only [Pt.U, Pt.locs, Pt.cells, Pt.slots] at X1 l1 y1 z1 st1 hQ1
  subst l1 y1 z1
  obtain ⟨rfl, N1q, e1⟩ := hQ1
  have N1 := Fr.app N0 N1q
  refine Goes.by st1 ?_
  show Goes p.tables e below (T1.setTop (mkF m 11 #[.val (.int pr), .val (.long pb), .second] [(.long (fn2 (pb - (pr.toInt64)) (4294967296 : Int64))), (.long pb)])) _
  refine Goes.by (fun _ k => XS.lsub X1.here hx rfl (hb hby d1_11) rfl k) ?_
  show Goes p.tables e below (T1.setTop (mkF m 12 #[.val (.int pr), .val (.long pb), .second] [(.long (pb - (fn2 (pb - (pr.toInt64)) (4294967296 : Int64))))])) _
  obtain ⟨fs, hr, hrun, hended, hW, hsame⟩ := X1.leave (v := some (.long (pb - (fn2 (pb - (pr.toInt64)) (4294967296 : Int64))))) (fun h => by rw [Bd.returns] at h; cases h)
  refine ⟨_, _, retOut X1 hx Bd.returns (i := .lreturn) rfl (Or.inr (Or.inl ⟨rfl, rfl, _, rfl⟩)) (hb hby d1_12) hr, hrun, hended, _, _, rfl, ?_, ⟨_, rfl⟩, hW, hsame.mono (by decide) (by decide)⟩
  show Q1 Z pr pb h0 n0 _ T1.heap _
  rw [e1]
  exact ⟨rfl, N1, rfl⟩
theorem own_neg (a : Int64) : ((a ^^^ (4294967296 : Int64)) < (0 : Int64)) ↔ a < (0 : Int64) := by
  have key : ∀ z : Int64, (z < (0 : Int64)) ↔ z.toBitVec.msb = true := fun z => by
    rw [Int64.lt_iff_toInt_lt, BitVec.msb_eq_toInt]
    exact (decide_eq_true_iff (p := z.toInt < 0)).symm
  have e : (4294967296 : Int64).toBitVec.msb = false := by decide
  rw [key, key, Int64.toBitVec_xor, BitVec.msb_xor, e, Bool.xor_false]
theorem own_fm (a : Int64) : (fn2 a (4294967296 : Int64)).toInt = a.toInt % 4294967296 := by
  rw [fn2]
  have h1 : (a % (4294967296 : Int64)).toInt = a.toInt.tmod 4294967296 := Int64.toInt_mod a 4294967296
  have h2 := tr a.toInt 4294967296
  have e0 : (0 : Int64).toInt = 0 := rfl
  have e1 : (4294967296 : Int64).toInt = 4294967296 := rfl
  have h3 := c_ladd (a % (4294967296 : Int64)) 4294967296
  have r := rng64 (a % (4294967296 : Int64) + 4294967296)
  have ra := rng64 a
  have z : a % (4294967296 : Int64) = (0 : Int64) ↔ (a % (4294967296 : Int64)).toInt = 0 := by rw [← Int64.toInt_inj, e0]
  rw [e1] at h3
  simp only [own_neg]
  simp only [z, Int64.lt_iff_toInt_lt, e0]
  by_cases g : a.toInt < 0
  · have h4 := h2.2 g
    split
    · split <;> omega
    · omega
  · have h4 := h2.1 (by omega)
    split
    · omega
    · omega
theorem own_latest (rep : Int32) (b : Int64) (hb : ¬ b < (-9223372032559808513 : Int64)) : ¬ (b < fn1 rep b) ∧ ¬ ((b - fn1 rep b) < (0 : Int64)) ∧ ¬ ((4294967295 : Int64) < (b - fn1 rep b)) ∧ (fn1 rep b).toInt32 = rep := by
  have e : (fn1 rep b) = b - fn2 (b - rep.toInt64) 4294967296 := rfl
  have h0 := own_fm (b - rep.toInt64)
  have h1 := c_lsub b rep.toInt64
  rw [c_i2l] at h1
  have h2 := c_lsub b (fn2 (b - rep.toInt64) 4294967296)
  rw [← e] at h2
  have h3 := c_lsub b (fn1 rep b)
  have h4 := c_l2i (fn1 rep b)
  have r1 := rng64 b
  have r2 := rng32 rep
  have r3 := rng64 (fn1 rep b)
  have r4 := rng64 (b - fn1 rep b)
  have r5 := rng32 (fn1 rep b).toInt32
  have e0 : (0 : Int64).toInt = 0 := rfl
  have e1 : (4294967295 : Int64).toInt = 4294967295 := rfl
  have e2 : (-9223372032559808513 : Int64).toInt = -9223372032559808513 := rfl
  rw [← Int32.toInt_inj]
  simp only [Int64.lt_iff_toInt_lt, e0, e1, e2] at hb ⊢
  omega
theorem pd_1 : parseMethodDescriptor "(IJ)J" = some ⟨[.int, .long], some .long⟩ := by decide +kernel
theorem pn_1 : plainName "org/unitspan/ead/DocumentDecoderLatestPinLaw" = true := by first | (simp [plainName, overriddenIn]; done) | decide +kernel
theorem ef0 (m : MethodId) (pr : Int32) (pb : Int64) (pk : Int32) : entryFrame m #[(.int pr), (.long pb), (.int pk)] maxLocals = mkF m 0 #[.val (.int pr), .val (.long pb), .second, .val (.int pk), .unset, .unset, .unset, .unset, .unset] [] := by first | (simp [entryFrame, mkF, argsToLocals, Value.category, maxLocals]; done) | rfl
def Q0 (Z : State) (pr : Int32) (pb : Int64) (pk : Int32) (h0 : Heap) (n0 : Nat) (v : Option Value) (h : Heap) (L : List Loc) : Prop := v = some (.int (1 : Int32)) ∧ Fr n0 L
set_option maxRecDepth 65536 in
set_option maxHeartbeats 40000000 in
theorem rm0 (l : Launch) (Z : State) (a0 : Array Value) (hw : ∀ d ∈ tables_1, d.before a0 Z = true) (ws : List Jvm.Cond) (pr : Int32) (pb : Int64) (pk : Int32) (h0 : Heap) (n0 : Nat) (Z0 : n0 ≤ h0.size) :
    MetFree l x (head1 (Jvm.Cond.code x code maxLocals ret :: ws) room_1) (fun a U => a = #[(.int pr), (.long pb), (.int pk)] ∧ Z.Warmed39 U.vm ∧ U.heap = h0) (fun _ _ _ _ _ => True) (fun _ U o U' => ∃ v L, o = .returned v ∧ Q0 Z pr pb pk h0 n0 v U'.heap L ∧ FrameEnd U o U' L room_1.cells room_1.slots) := by
  refine MetFree.of_bodySF (plainFor_of_name pn_1) hisR ?_
  intro p e s m args below meth c s₁ Bd hml0 hP hK
  obtain ⟨rfl, hZ, hh⟩ := hP
  have hx := Bd.exec
  have hby := Bd.bytes
  have hml : c.maxLocals = 9 := hml0
  have hown : s.vm.findClass "org/unitspan/ead/DocumentDecoderLatestPinLaw" = some m.cls := findClass_of_methodNamed Bd.named
  have hnm := (name_of_methodNamed Bd.named Bd.method).1
  have X0 : Stand p l e room_1 s m #[(.int pr), (.long pb), (.int pk)] below meth c s₁ [] 0 0 := Stand.of_body Bd
  have e0 : s₁.heap = h0 := by rw [← hh, Bd.state]; rfl
  have N0 := Fr.nil n0
  refine Goes.by (fun _ k => castTop (ef0 m pr pb pk) k) ?_
  show Goes p.tables e below (s₁.setTop (mkF m 0 #[.val (.int pr), .val (.long pb), .second, .val (.int pk), .unset, .unset, .unset, .unset, .unset] [])) _
  refine Goes.by (fun _ k => XS.lloadN X0.here hx rfl (hb hby at_0) rfl k) ?_
  show Goes p.tables e below (s₁.setTop (mkF m 1 #[.val (.int pr), .val (.long pb), .second, .val (.int pk), .unset, .unset, .unset, .unset, .unset] [(.long pb)])) _
  refine Goes.by (fun _ k => X0.ldc2J hx hown (mvT hZ (hw _ (List.mem_of_getElem? (i := 0) rfl))) (g := (mkF m 1 #[.val (.int pr), .val (.long pb), .second, .val (.int pk), .unset, .unset, .unset, .unset, .unset] [(.long pb)])) rfl (hb hby at_1) k) ?_
  show Goes p.tables e below (s₁.setTop (mkF m 4 #[.val (.int pr), .val (.long pb), .second, .val (.int pk), .unset, .unset, .unset, .unset, .unset] [(.long (-9223372032559808513 : Int64)), (.long pb)])) _
  refine Goes.by (fun _ k => XS.lcmp X0.here hx rfl (hb hby at_4) rfl k) ?_
  show Goes p.tables e below (s₁.setTop (mkF m 5 #[.val (.int pr), .val (.long pb), .second, .val (.int pk), .unset, .unset, .unset, .unset, .unset] [(.int (lcmpW pb (-9223372032559808513 : Int64)))])) _
  by_cases hc1 : pb < (-9223372032559808513 : Int64)
  · refine Goes.by (fun _ k => XS.ifNo X0.here hx rfl (hb hby at_5) rfl (jl_t hc1).2 k) ?_
    show Goes p.tables e below (s₁.setTop (mkF m 8 #[.val (.int pr), .val (.long pb), .second, .val (.int pk), .unset, .unset, .unset, .unset, .unset] [])) _
    refine Goes.by (fun _ k => XS.iconst X0.here hx rfl (hb hby at_8) k) ?_
    show Goes p.tables e below (s₁.setTop (mkF m 9 #[.val (.int pr), .val (.long pb), .second, .val (.int pk), .unset, .unset, .unset, .unset, .unset] [(.int (1 : Int32))])) _
    obtain ⟨fs, hr, hrun, hended, hW, hsame⟩ := X0.leave (v := some (.int (1 : Int32))) (fun h => by rw [Bd.returns] at h; cases h)
    refine ⟨_, _, retN X0 hx (t := .boolean) Bd.returns (by simp) (hb hby at_9) hr, hrun, hended, _, _, rfl, ?_, ⟨_, rfl⟩, hW, hsame.mono (by decide) (by decide)⟩
    show Q0 Z pr pb pk h0 n0 _ s₁.heap _
    rw [e0]
    exact ⟨rfl, N0⟩
  · refine Goes.by (fun _ k => XS.ifYes X0.here hx rfl (pc0 := 5) (pc' := 10) rfl (hb hby at_5) rfl (jl_f hc1).2 (by decide) (by decide) k) ?_
    show Goes p.tables e below (s₁.setTop (mkF m 10 #[.val (.int pr), .val (.long pb), .second, .val (.int pk), .unset, .unset, .unset, .unset, .unset] [])) _
    refine Goes.by (fun _ k => XS.iloadN X0.here hx rfl (hb hby at_10) rfl k) ?_
    show Goes p.tables e below (s₁.setTop (mkF m 11 #[.val (.int pr), .val (.long pb), .second, .val (.int pk), .unset, .unset, .unset, .unset, .unset] [(.int pk)])) _
    refine Goes.by (fun _ k => XS.iconst X0.here hx rfl (hb hby at_11) k) ?_
    show Goes p.tables e below (s₁.setTop (mkF m 12 #[.val (.int pr), .val (.long pb), .second, .val (.int pk), .unset, .unset, .unset, .unset, .unset] [(.int (1 : Int32)), (.int pk)])) _
    refine Goes.by (fun _ k => XS.iand X0.here hx rfl (hb hby at_12) rfl k) ?_
    show Goes p.tables e below (s₁.setTop (mkF m 13 #[.val (.int pr), .val (.long pb), .second, .val (.int pk), .unset, .unset, .unset, .unset, .unset] [(.int (pk &&& (1 : Int32)))])) _
    obtain ⟨v2, hv2⟩ : ∃ z : Int32, z = (if (pk &&& (1 : Int32)) = (0 : Int32) then pr else ((pb.toInt32) + (((pk >>> ((1 : Int32) &&& 31)) &&& (3 : Int32)) - (1 : Int32)))) := ⟨_, rfl⟩
    refine Goes.by (t' := s₁.setTop (mkF m 30 #[.val (.int pr), .val (.long pb), .second, .val (.int pk), .unset, .unset, .unset, .unset, .unset] [(.int v2)])) (fun u k => ?_) ?_
    · show Steps p.tables e below (s₁.setTop (mkF m 13 #[.val (.int pr), .val (.long pb), .second, .val (.int pk), .unset, .unset, .unset, .unset, .unset] [(.int (pk &&& (1 : Int32)))])) _
      by_cases hc3 : (pk &&& (1 : Int32)) = (0 : Int32)
      · refine XS.ifYes X0.here hx rfl (pc0 := 13) (pc' := 29) rfl (hb hby at_13) rfl ((if0 _ _).trans (teq hc3).1) (by decide) (by decide) ?_
        show Steps p.tables e below (s₁.setTop (mkF m 29 #[.val (.int pr), .val (.long pb), .second, .val (.int pk), .unset, .unset, .unset, .unset, .unset] [])) _
        refine XS.iloadN X0.here hx rfl (hb hby at_29) rfl ?_
        show Steps p.tables e below (s₁.setTop (mkF m 30 #[.val (.int pr), .val (.long pb), .second, .val (.int pk), .unset, .unset, .unset, .unset, .unset] [(.int pr)])) _
        have qv2 : v2 = pr := by rw [hv2, if_pos hc3]
        subst qv2
        exact k
      · refine XS.ifNo X0.here hx rfl (hb hby at_13) rfl ((if0 _ _).trans (feq hc3).1) ?_
        show Steps p.tables e below (s₁.setTop (mkF m 16 #[.val (.int pr), .val (.long pb), .second, .val (.int pk), .unset, .unset, .unset, .unset, .unset] [])) _
        refine XS.lloadN X0.here hx rfl (hb hby at_16) rfl ?_
        show Steps p.tables e below (s₁.setTop (mkF m 17 #[.val (.int pr), .val (.long pb), .second, .val (.int pk), .unset, .unset, .unset, .unset, .unset] [(.long pb)])) _
        refine XS.l2i X0.here hx rfl (hb hby at_17) rfl ?_
        show Steps p.tables e below (s₁.setTop (mkF m 18 #[.val (.int pr), .val (.long pb), .second, .val (.int pk), .unset, .unset, .unset, .unset, .unset] [(.int (pb.toInt32))])) _
        refine XS.iloadN X0.here hx rfl (hb hby at_18) rfl ?_
        show Steps p.tables e below (s₁.setTop (mkF m 19 #[.val (.int pr), .val (.long pb), .second, .val (.int pk), .unset, .unset, .unset, .unset, .unset] [(.int pk), (.int (pb.toInt32))])) _
        refine XS.iconst X0.here hx rfl (hb hby at_19) ?_
        show Steps p.tables e below (s₁.setTop (mkF m 20 #[.val (.int pr), .val (.long pb), .second, .val (.int pk), .unset, .unset, .unset, .unset, .unset] [(.int (1 : Int32)), (.int pk), (.int (pb.toInt32))])) _
        refine XS.ishr X0.here hx rfl (hb hby at_20) rfl ?_
        show Steps p.tables e below (s₁.setTop (mkF m 21 #[.val (.int pr), .val (.long pb), .second, .val (.int pk), .unset, .unset, .unset, .unset, .unset] [(.int (pk >>> ((1 : Int32) &&& 31))), (.int (pb.toInt32))])) _
        refine XS.iconst X0.here hx rfl (hb hby at_21) ?_
        show Steps p.tables e below (s₁.setTop (mkF m 22 #[.val (.int pr), .val (.long pb), .second, .val (.int pk), .unset, .unset, .unset, .unset, .unset] [(.int (3 : Int32)), (.int (pk >>> ((1 : Int32) &&& 31))), (.int (pb.toInt32))])) _
        refine XS.iand X0.here hx rfl (hb hby at_22) rfl ?_
        show Steps p.tables e below (s₁.setTop (mkF m 23 #[.val (.int pr), .val (.long pb), .second, .val (.int pk), .unset, .unset, .unset, .unset, .unset] [(.int ((pk >>> ((1 : Int32) &&& 31)) &&& (3 : Int32))), (.int (pb.toInt32))])) _
        refine XS.iconst X0.here hx rfl (hb hby at_23) ?_
        show Steps p.tables e below (s₁.setTop (mkF m 24 #[.val (.int pr), .val (.long pb), .second, .val (.int pk), .unset, .unset, .unset, .unset, .unset] [(.int (1 : Int32)), (.int ((pk >>> ((1 : Int32) &&& 31)) &&& (3 : Int32))), (.int (pb.toInt32))])) _
        refine XS.isub X0.here hx rfl (hb hby at_24) rfl ?_
        show Steps p.tables e below (s₁.setTop (mkF m 25 #[.val (.int pr), .val (.long pb), .second, .val (.int pk), .unset, .unset, .unset, .unset, .unset] [(.int (((pk >>> ((1 : Int32) &&& 31)) &&& (3 : Int32)) - (1 : Int32))), (.int (pb.toInt32))])) _
        refine XS.iadd X0.here hx rfl (hb hby at_25) rfl ?_
        show Steps p.tables e below (s₁.setTop (mkF m 26 #[.val (.int pr), .val (.long pb), .second, .val (.int pk), .unset, .unset, .unset, .unset, .unset] [(.int ((pb.toInt32) + (((pk >>> ((1 : Int32) &&& 31)) &&& (3 : Int32)) - (1 : Int32))))])) _
        refine XS.goto X0.here hx rfl (pc0 := 26) (pc' := 30) rfl (hb hby at_26) (by decide) (by decide) ?_
        show Steps p.tables e below (s₁.setTop (mkF m 30 #[.val (.int pr), .val (.long pb), .second, .val (.int pk), .unset, .unset, .unset, .unset, .unset] [(.int ((pb.toInt32) + (((pk >>> ((1 : Int32) &&& 31)) &&& (3 : Int32)) - (1 : Int32))))])) _
        have qv2 : v2 = ((pb.toInt32) + (((pk >>> ((1 : Int32) &&& 31)) &&& (3 : Int32)) - (1 : Int32))) := by rw [hv2, if_neg hc3]
        subst qv2
        exact k
    show Goes p.tables e below (s₁.setTop (mkF m 30 #[.val (.int pr), .val (.long pb), .second, .val (.int pk), .unset, .unset, .unset, .unset, .unset] [(.int v2)])) _
    refine Goes.by (fun _ k => XS.istore X0.here hx rfl (hb hby at_30) rfl (l' := #[.val (.int pr), .val (.long pb), .second, .val (.int pk), .val (.int v2), .unset, .unset, .unset, .unset]) rfl k) ?_
    show Goes p.tables e below (s₁.setTop (mkF m 32 #[.val (.int pr), .val (.long pb), .second, .val (.int pk), .val (.int v2), .unset, .unset, .unset, .unset] [])) _
    refine Goes.by (fun _ k => XS.iload X0.here hx rfl (hb hby at_32) rfl k) ?_
    show Goes p.tables e below (s₁.setTop (mkF m 34 #[.val (.int pr), .val (.long pb), .second, .val (.int pk), .val (.int v2), .unset, .unset, .unset, .unset] [(.int v2)])) _
    refine Goes.by (fun _ k => XS.lloadN X0.here hx rfl (hb hby at_34) rfl k) ?_
    show Goes p.tables e below (s₁.setTop (mkF m 35 #[.val (.int pr), .val (.long pb), .second, .val (.int pk), .val (.int v2), .unset, .unset, .unset, .unset] [(.long pb), (.int v2)])) _
    obtain ⟨_, _, ⟨T4, L4, k4, n4⟩, -, X4, ⟨Lc4, hQ4, l4, y4, z4⟩, st4⟩ := Jvm.LawKit.callS X0 hx (y := (⟨"org/unitspan/ead/DocumentDecoder", "latest", "(IJ)J"⟩ : MethodName)) hown (mvT hZ (hw _ (List.mem_of_getElem? (i := 1) rfl))) (mvT hZ (hw _ (List.mem_of_getElem? (i := 2) rfl))) (mvT hZ (hw _ (List.mem_of_getElem? (i := 3) rfl))) (mvT hZ (hw _ (List.mem_of_getElem? (i := 4) rfl))) (by decide) (backOf (W := 0) (rm1 l Z a0 hw [] v2 pb h0 n0 Z0) hZ (hw _ (List.mem_of_getElem? (i := 4) rfl)) (hw _ (List.mem_of_getElem? (i := 3) rfl)) (by decide) (by decide)) (g := (mkF m 35 #[.val (.int pr), .val (.long pb), .second, .val (.int pk), .val (.int v2), .unset, .unset, .unset, .unset] [(.long pb), (.int v2)])) rfl (by rw [hml]; rfl) (argsL := [(.int v2), (.long pb)]) (rest := []) (lenOf pd_1 rfl) rfl (by show 2 * 0 + _ ≤ _; exact Nat.le_of_eq rfl) (hb hby at_35) (fun _ _ => ⟨rfl, e0, (by decide : 0 + 0 ≤ _), (by decide : 0 + 0 ≤ _)⟩)
    dsimp only [Pt.U, Pt.locs, Pt.cells, Pt.slots] at X4 l4 y4 z4 st4 hQ4
    subst l4 y4 z4
    obtain ⟨rfl, N4q, e4⟩ := hQ4
    have N4 := Fr.app N0 N4q
    refine Goes.by st4 ?_
    show Goes p.tables e below (T4.setTop (mkF m 38 #[.val (.int pr), .val (.long pb), .second, .val (.int pk), .val (.int v2), .unset, .unset, .unset, .unset] [(.long (fn1 v2 pb))])) _
    obtain ⟨x5, hx5⟩ : ∃ z : Int64, z = (fn1 v2 pb) := ⟨_, rfl⟩
    refine Goes.by (fun _ k => XS.lstore X4.here hx rfl (hb hby at_38) rfl (l' := #[.val (.int pr), .val (.long pb), .second, .val (.int pk), .val (.int v2), .val (.long x5), .second, .unset, .unset]) (by rw [hx5]; rfl) k) ?_
    show Goes p.tables e below (T4.setTop (mkF m 40 #[.val (.int pr), .val (.long pb), .second, .val (.int pk), .val (.int v2), .val (.long x5), .second, .unset, .unset] [])) _
    refine Goes.by (fun _ k => XS.lload X4.here hx rfl (hb hby at_40) rfl k) ?_
    show Goes p.tables e below (T4.setTop (mkF m 42 #[.val (.int pr), .val (.long pb), .second, .val (.int pk), .val (.int v2), .val (.long x5), .second, .unset, .unset] [(.long x5)])) _
    refine Goes.by (fun _ k => XS.lloadN X4.here hx rfl (hb hby at_42) rfl k) ?_
    show Goes p.tables e below (T4.setTop (mkF m 43 #[.val (.int pr), .val (.long pb), .second, .val (.int pk), .val (.int v2), .val (.long x5), .second, .unset, .unset] [(.long pb), (.long x5)])) _
    refine Goes.by (fun _ k => XS.lcmp X4.here hx rfl (hb hby at_43) rfl k) ?_
    show Goes p.tables e below (T4.setTop (mkF m 44 #[.val (.int pr), .val (.long pb), .second, .val (.int pk), .val (.int v2), .val (.long x5), .second, .unset, .unset] [(.int (lcmpW x5 pb))])) _
    refine Goes.by (fun _ k => XS.ifYes X4.here hx rfl (pc0 := 44) (pc' := 49) rfl (hb hby at_44) rfl (jg_f (by rw [hx5]; exact (own_latest _ _ hc1).1 : ¬ (pb < x5))).2 (by decide) (by decide) k) ?_
    show Goes p.tables e below (T4.setTop (mkF m 49 #[.val (.int pr), .val (.long pb), .second, .val (.int pk), .val (.int v2), .val (.long x5), .second, .unset, .unset] [])) _
    refine Goes.by (fun _ k => XS.lloadN X4.here hx rfl (hb hby at_49) rfl k) ?_
    show Goes p.tables e below (T4.setTop (mkF m 50 #[.val (.int pr), .val (.long pb), .second, .val (.int pk), .val (.int v2), .val (.long x5), .second, .unset, .unset] [(.long pb)])) _
    refine Goes.by (fun _ k => XS.lload X4.here hx rfl (hb hby at_50) rfl k) ?_
    show Goes p.tables e below (T4.setTop (mkF m 52 #[.val (.int pr), .val (.long pb), .second, .val (.int pk), .val (.int v2), .val (.long x5), .second, .unset, .unset] [(.long x5), (.long pb)])) _
    refine Goes.by (fun _ k => XS.lsub X4.here hx rfl (hb hby at_52) rfl k) ?_
    show Goes p.tables e below (T4.setTop (mkF m 53 #[.val (.int pr), .val (.long pb), .second, .val (.int pk), .val (.int v2), .val (.long x5), .second, .unset, .unset] [(.long (pb - x5))])) _
    obtain ⟨x6, hx6⟩ : ∃ z : Int64, z = (pb - x5) := ⟨_, rfl⟩
    refine Goes.by (fun _ k => XS.lstore X4.here hx rfl (hb hby at_53) rfl (l' := #[.val (.int pr), .val (.long pb), .second, .val (.int pk), .val (.int v2), .val (.long x5), .second, .val (.long x6), .second]) (by rw [hx6]; rfl) k) ?_
    show Goes p.tables e below (T4.setTop (mkF m 55 #[.val (.int pr), .val (.long pb), .second, .val (.int pk), .val (.int v2), .val (.long x5), .second, .val (.long x6), .second] [])) _
    refine Goes.by (fun _ k => XS.lload X4.here hx rfl (hb hby at_55) rfl k) ?_
    show Goes p.tables e below (T4.setTop (mkF m 57 #[.val (.int pr), .val (.long pb), .second, .val (.int pk), .val (.int v2), .val (.long x5), .second, .val (.long x6), .second] [(.long x6)])) _
    refine Goes.by (fun _ k => XS.lconst X4.here hx rfl (hb hby at_57) k) ?_
    show Goes p.tables e below (T4.setTop (mkF m 58 #[.val (.int pr), .val (.long pb), .second, .val (.int pk), .val (.int v2), .val (.long x5), .second, .val (.long x6), .second] [(.long (0 : Int64)), (.long x6)])) _
    refine Goes.by (fun _ k => XS.lcmp X4.here hx rfl (hb hby at_58) rfl k) ?_
    show Goes p.tables e below (T4.setTop (mkF m 59 #[.val (.int pr), .val (.long pb), .second, .val (.int pk), .val (.int v2), .val (.long x5), .second, .val (.long x6), .second] [(.int (lcmpW x6 (0 : Int64)))])) _
    refine Goes.by (fun _ k => XS.ifNo X4.here hx rfl (hb hby at_59) rfl (jl_f (by rw [hx6, hx5]; exact (own_latest _ _ hc1).2.1 : ¬ (x6 < (0 : Int64)))).1 k) ?_
    show Goes p.tables e below (T4.setTop (mkF m 62 #[.val (.int pr), .val (.long pb), .second, .val (.int pk), .val (.int v2), .val (.long x5), .second, .val (.long x6), .second] [])) _
    refine Goes.by (fun _ k => XS.lload X4.here hx rfl (hb hby at_62) rfl k) ?_
    show Goes p.tables e below (T4.setTop (mkF m 64 #[.val (.int pr), .val (.long pb), .second, .val (.int pk), .val (.int v2), .val (.long x5), .second, .val (.long x6), .second] [(.long x6)])) _
    refine Goes.by (fun _ k => X4.ldc2J hx hown (mvT hZ (hw _ (List.mem_of_getElem? (i := 10) rfl))) (g := (mkF m 64 #[.val (.int pr), .val (.long pb), .second, .val (.int pk), .val (.int v2), .val (.long x5), .second, .val (.long x6), .second] [(.long x6)])) rfl (hb hby at_64) k) ?_
    show Goes p.tables e below (T4.setTop (mkF m 67 #[.val (.int pr), .val (.long pb), .second, .val (.int pk), .val (.int v2), .val (.long x5), .second, .val (.long x6), .second] [(.long (4294967295 : Int64)), (.long x6)])) _
    refine Goes.by (fun _ k => XS.lcmp X4.here hx rfl (hb hby at_67) rfl k) ?_
    show Goes p.tables e below (T4.setTop (mkF m 68 #[.val (.int pr), .val (.long pb), .second, .val (.int pk), .val (.int v2), .val (.long x5), .second, .val (.long x6), .second] [(.int (lcmpW x6 (4294967295 : Int64)))])) _
    refine Goes.by (fun _ k => XS.ifNo X4.here hx rfl (hb hby at_68) rfl (jg_f (by rw [hx6, hx5]; exact (own_latest _ _ hc1).2.2.1 : ¬ ((4294967295 : Int64) < x6))).1 k) ?_
    show Goes p.tables e below (T4.setTop (mkF m 71 #[.val (.int pr), .val (.long pb), .second, .val (.int pk), .val (.int v2), .val (.long x5), .second, .val (.long x6), .second] [])) _
    refine Goes.by (fun _ k => XS.lload X4.here hx rfl (hb hby at_71) rfl k) ?_
    show Goes p.tables e below (T4.setTop (mkF m 73 #[.val (.int pr), .val (.long pb), .second, .val (.int pk), .val (.int v2), .val (.long x5), .second, .val (.long x6), .second] [(.long x5)])) _
    refine Goes.by (fun _ k => XS.l2i X4.here hx rfl (hb hby at_73) rfl k) ?_
    show Goes p.tables e below (T4.setTop (mkF m 74 #[.val (.int pr), .val (.long pb), .second, .val (.int pk), .val (.int v2), .val (.long x5), .second, .val (.long x6), .second] [(.int (x5.toInt32))])) _
    refine Goes.by (fun _ k => XS.iload X4.here hx rfl (hb hby at_74) rfl k) ?_
    show Goes p.tables e below (T4.setTop (mkF m 76 #[.val (.int pr), .val (.long pb), .second, .val (.int pk), .val (.int v2), .val (.long x5), .second, .val (.long x6), .second] [(.int v2), (.int (x5.toInt32))])) _
    refine Goes.by (fun _ k => XS.icmpNo X4.here hx rfl (hb hby at_76) rfl (teq (by rw [hx5]; exact (own_latest _ _ hc1).2.2.2 : (x5.toInt32) = v2)).2 k) ?_
    show Goes p.tables e below (T4.setTop (mkF m 79 #[.val (.int pr), .val (.long pb), .second, .val (.int pk), .val (.int v2), .val (.long x5), .second, .val (.long x6), .second] [])) _
    refine Goes.by (fun _ k => XS.iconst X4.here hx rfl (hb hby at_79) k) ?_
    show Goes p.tables e below (T4.setTop (mkF m 80 #[.val (.int pr), .val (.long pb), .second, .val (.int pk), .val (.int v2), .val (.long x5), .second, .val (.long x6), .second] [(.int (1 : Int32))])) _
    refine Goes.by (fun _ k => XS.goto X4.here hx rfl (pc0 := 80) (pc' := 84) rfl (hb hby at_80) (by decide) (by decide) k) ?_
    show Goes p.tables e below (T4.setTop (mkF m 84 #[.val (.int pr), .val (.long pb), .second, .val (.int pk), .val (.int v2), .val (.long x5), .second, .val (.long x6), .second] [(.int (1 : Int32))])) _
    obtain ⟨fs, hr, hrun, hended, hW, hsame⟩ := X4.leave (v := some (.int (1 : Int32))) (fun h => by rw [Bd.returns] at h; cases h)
    refine ⟨_, _, retN X4 hx (t := .boolean) Bd.returns (by simp) (hb hby at_84) hr, hrun, hended, _, _, rfl, ?_, ⟨_, rfl⟩, hW, hsame.mono (by decide) (by decide)⟩
    show Q0 Z pr pb pk h0 n0 _ T4.heap _
    rw [e4]
    exact ⟨rfl, N4⟩
set_option maxRecDepth 65536 in
set_option maxHeartbeats 40000000 in
theorem comes_1 {Post : Tables → Env → Array Value → State → Outcome → State → Prop} (hpost : ∀ tb e args s v u, (limb_1_1.after args s (.returned v) u = true ∧ limb_1_2.after args s (.returned v) u = true ∧ True) → FrameEnd s (.returned v) u (Jvm.fieldLocs frame_1_writes args s ++ Jvm.arrayLocs frame_1_arrays args s ++ Jvm.staticLocs frame_1_statics s) 0 0 → Post tb e args s (.returned v) u) :
    ArmFor flags0 classFile x code maxLocals ret World_1 tables_1 room_1 Calls_1 rest_1 Pre_1 Post := by
  intro l hfl _ _ p e ha hc hk s m args below hf hA hF happ hP
  obtain ⟨hcalls, hrest, hpre⟩ := hP
  obtain ⟨-, -, -, hnamed, -, -, -, hat⟩ := (Spec.applies_iff hf).mp happ
  obtain ⟨hg, hn⟩ := and_e (Cond.before_iff.mp (show (Jvm.Cond.and given_1 narrow_1).before args s = true from hpre))
  obtain ⟨g1, g2⟩ := and_e hg
  obtain ⟨g3, g4⟩ := and_e g2
  obtain ⟨g5, g6⟩ := and_e g4
  obtain ⟨w0, w1, w2, rfl⟩ : ∃ w0 w1 w2 : Value, args = #[w0, w1, w2] := by
    have hs : args.size = 3 := by simpa [Cond.value, given_1] using g1
    obtain ⟨L⟩ := args
    match L, hs with
    | [w0, w1, w2], _ => exact ⟨w0, w1, w2, rfl⟩
  have hw := fun d (hd : d ∈ tables_1) => atoms_spec (ws := Jvm.Cond.code x code maxLocals ret :: tables_1) hat d (List.mem_cons_of_mem _ hd)
  have hfit : Fit s := fun {y c} hc i hi => by
    obtain ⟨ha, rfl⟩ := Array.getElem?_eq_some_iff.mp hc
    have q := List.all_eq_true.mp ((Array.all_eq_true_iff_forall_mem.mp hF) _ (Array.getElem_mem ha)) i (List.mem_range.mpr hi)
    simpa [Array.getElem?_eq_getElem hi] using q
  obtain ⟨i0, ei0⟩ := is_v g3
  obtain rfl : w0 = (.int i0) := Option.some.inj ei0
  obtain ⟨i1, ei1⟩ := isL_v g5
  obtain rfl : w1 = (.long i1) := Option.some.inj ei1
  obtain ⟨i2, ei2⟩ := is_v g6
  obtain rfl : w2 = (.int i2) := Option.some.inj ei2
  obtain ⟨n, o, h1, h2, h3, _, L, rfl, ⟨hv0, N⟩, hq⟩ := rm0 l s _ hw tables_1 i0 i1 i2 s.heap s.heap.size (Nat.le_refl _) p e ha hc hk s m _ below hf ((Spec.applies_iff_loose hf).mp happ).1 ⟨rfl, State.Warmed39.refl s, rfl⟩ trivial
  subst hv0
  refine ⟨n, _, h1, h2, h3, hpost _ _ _ _ _ _ ⟨Cond.after_iff.mpr rfl, Cond.after_iff.mpr (eq_i res_at (Term.int_eval (1)) rfl), trivial⟩ ⟨hq.1, hq.2.1, (hq.2.2.sift fun y hy => Or.inr (N y hy)).mono (by decide) (by decide)⟩⟩
theorem main_1_1 : Claimed_1_1 := comes_1 fun _ _ _ _ _ _ h hF => ⟨h.1, hF⟩
theorem main_1_2 : Claimed_1_2 := comes_1 fun _ _ _ _ _ _ h hF => ⟨h.2.1, hF⟩
end Jvm.Pilot.@@N@@
namespace Jvm.Pilot.@@N@@
open Jvm Jvm.ClassFile Sem Op Lib Jvm.Free Jvm.Stand Jvm.Pilot.@@N@@.Jvm.D
/-! MADE BY PROGRAM (witnessworld.py) out of the Statement's table words and the real class files: 14 classes; the members and pool entries that the words name. The judged class is class 1, her method 1. -/
namespace start1
open Jvm.ClassFile
def u (s : String) : CpInfo := .utf8 (stringToUtf16 s)
/-- a pool by its gaps: so many unusable entries, then the entry; so many at the end -/
def gap : Nat → List CpInfo → List CpInfo
  | 0, r => r
  | n + 1, r => .unusable :: gap n r
def poolList (es : List (Nat × CpInfo)) (last : Nat) : List CpInfo := es.foldr (fun e r => gap e.1 (e.2 :: r)) (gap last [])
def pool (es : List (Nat × CpInfo)) (last : Nat) : Array CpInfo := ⟨poolList es last⟩
def fileOf (pool : Array CpInfo) (this : Nat) (attrs : Array Attribute := #[]) (ms : Array MethodInfo := #[]) (fl : Nat := 33) (sup : Nat := 0) (ifs : Array Nat := #[]) (fds : Array FieldInfo := #[]) : ClassFile where
  minorVersion := 0
  majorVersion := 65
  constantPool := pool
  accessFlags := fl
  thisClass := this
  superClass := sup
  interfaces := ifs
  fields := fds
  methods := ms
  attributes := attrs
def plain (name : String) (sup : Option ClassId) : Class where
  name := name
  kind := .ordinary
  loader := none
  accessFlags := 33
  super := sup
  interfaces := #[]
  cf := none
  fields := #[]
  methods := #[]
  instanceTypes := #[]
  staticTypes := #[]
  resolved := #[]
  callSites := []
  init := .initialized
  statics := none
  mirror := none

def pool0 : Array CpInfo := pool [(5, u "<init>"), (0, u "()V"), (1, .class_ 10), (1, u "java/lang/Object")] 113

def k0m0 : Method := { name := "<init>", desc := "()V", sig := { parameters := [], returnType := none }, accessFlags := 1, code := none }
/-- java/lang/Object -/
def k0 : Class := { plain "java/lang/Object" none with
  accessFlags := 33
  interfaces := #[]
  cf := some (fileOf pool0 8 #[] #[{ accessFlags := 1, nameIndex := 5, descriptorIndex := 6, attributes := #[] }] 33 0 #[] #[])
  fields := #[]
  methods := #[k0m0]
  instanceTypes := #[]
  staticTypes := #[]
  resolved := Array.replicate 124 none
  statics := none }

def pool1 : Array CpInfo := pool [(2, .class_ 4), (1, u "java/lang/Object"), (0, u "<init>"), (0, u "()V"), (2, .long 9223372041149743103), (1, .methodref 12 13), (0, .class_ 14), (0, .nameAndType 15 16), (0, u "org/unitspan/ead/DocumentDecoder"), (0, u "latest"), (0, u "(IJ)J"), (0, .long 4294967295), (1, .class_ 20), (0, u "org/unitspan/ead/DocumentDecoderLatestPinLaw"), (2, u "law"), (0, u "(IJI)Z")] 3

def k1m0 : Method := { name := "<init>", desc := "()V", sig := { parameters := [], returnType := none }, accessFlags := 1, code := none }
def k1c1 : Code := { maxStack := 4, maxLocals := 9, code := code, exceptionTable := #[], attributes := #[] }
def k1m1 : Method := { name := "law", desc := "(IJI)Z", sig := { parameters := [.int, .long, .int], returnType := some .boolean }, accessFlags := 9, code := some k1c1 }
/-- org/unitspan/ead/DocumentDecoderLatestPinLaw -/
def k1 : Class := { plain "org/unitspan/ead/DocumentDecoderLatestPinLaw" (some 0) with
  accessFlags := 49
  interfaces := #[]
  cf := some (fileOf pool1 19 #[] #[{ accessFlags := 1, nameIndex := 5, descriptorIndex := 6, attributes := #[] }, { accessFlags := 9, nameIndex := 23, descriptorIndex := 24, attributes := #[] }] 49 2 #[] #[])
  fields := #[]
  methods := #[k1m0, k1m1]
  instanceTypes := #[]
  staticTypes := #[]
  resolved := Array.replicate 28 none
  statics := none }

def pool2 : Array CpInfo := pool [(1, .class_ 2), (0, u "java/lang/Readable"), (0, .class_ 4), (0, u "java/lang/Object")] 7

/-- java/lang/Readable -/
def k2 : Class := { plain "java/lang/Readable" (some 0) with
  accessFlags := 1537
  interfaces := #[]
  cf := some (fileOf pool2 1 #[] #[] 1537 3 #[] #[])
  fields := #[]
  methods := #[]
  instanceTypes := #[]
  staticTypes := #[]
  resolved := Array.replicate 12 none
  statics := none }

def pool3 : Array CpInfo := pool [(1, .class_ 2), (0, u "java/lang/AutoCloseable"), (0, .class_ 4), (0, u "java/lang/Object")] 7

/-- java/lang/AutoCloseable -/
def k3 : Class := { plain "java/lang/AutoCloseable" (some 0) with
  accessFlags := 1537
  interfaces := #[]
  cf := some (fileOf pool3 1 #[] #[] 1537 3 #[] #[])
  fields := #[]
  methods := #[]
  instanceTypes := #[]
  staticTypes := #[]
  resolved := Array.replicate 12 none
  statics := none }

def pool4 : Array CpInfo := pool [(1, .class_ 2), (0, u "java/io/Closeable"), (0, .class_ 4), (0, u "java/lang/Object"), (0, .class_ 6), (0, u "java/lang/AutoCloseable")] 7

/-- java/io/Closeable -/
def k4 : Class := { plain "java/io/Closeable" (some 0) with
  accessFlags := 1537
  interfaces := #[3]
  cf := some (fileOf pool4 1 #[] #[] 1537 3 #[5] #[])
  fields := #[]
  methods := #[]
  instanceTypes := #[]
  staticTypes := #[]
  resolved := Array.replicate 14 none
  statics := none }

def pool5 : Array CpInfo := pool [(1, .class_ 2), (0, u "java/io/Reader$1"), (2, u "<init>"), (0, u "()V"), (1, .class_ 9), (0, u "java/lang/Object"), (1, .class_ 13), (1, u "java/io/Reader"), (0, u "skipBuffer"), (0, u "[C"), (2, u "lock"), (0, u "Ljava/lang/Object;"), (117, .class_ 138), (0, u "java/lang/Readable"), (0, .class_ 140), (0, u "java/io/Closeable"), (0, u "TRANSFER_BUFFER_SIZE"), (0, u "I"), (2, u "maxSkipBufferSize")] 59

def k5m0 : Method := { name := "<init>", desc := "()V", sig := { parameters := [], returnType := none }, accessFlags := 4, code := none }
/-- java/io/Reader -/
def k5 : Class := { plain "java/io/Reader" (some 0) with
  accessFlags := 1057
  interfaces := #[2, 4]
  cf := some (fileOf pool5 11 #[.nestMembers #[1]] #[{ accessFlags := 4, nameIndex := 5, descriptorIndex := 6, attributes := #[] }] 1057 8 #[137, 139] #[{ accessFlags := 26, nameIndex := 141, descriptorIndex := 142, attributes := #[] }, { accessFlags := 4, nameIndex := 18, descriptorIndex := 19, attributes := #[] }, { accessFlags := 26, nameIndex := 145, descriptorIndex := 142, attributes := #[] }, { accessFlags := 2, nameIndex := 14, descriptorIndex := 15, attributes := #[] }])
  fields := #[{ name := "TRANSFER_BUFFER_SIZE", type := .int, accessFlags := 26, slot := 0, constantValue := 0 }, { name := "lock", type := (.object "java/lang/Object"), accessFlags := 4, slot := 0, constantValue := 0 }, { name := "maxSkipBufferSize", type := .int, accessFlags := 26, slot := 1, constantValue := 0 }, { name := "skipBuffer", type := (.array .char), accessFlags := 2, slot := 1, constantValue := 0 }]
  methods := #[k5m0]
  instanceTypes := #[(.object "java/lang/Object"), (.array .char)]
  staticTypes := #[.int, .int]
  resolved := Array.replicate 205 none
  statics := none }

def pool6 : Array CpInfo := pool [(2, .class_ 4), (1, u "java/io/Reader"), (13, .class_ 20), (1, u "org/unitspan/ead/DocumentDecoder"), (0, u "bytes"), (0, u "Ljava/nio/ByteBuffer;"), (2, u "inProlog"), (0, u "Z"), (2, u "carried"), (0, u "I"), (2, u "line"), (0, u "J"), (2, u "in"), (0, u "Ljava/io/InputStream;"), (2, u "placing"), (2, u "ended"), (11, .class_ 58), (1, u "org/unitspan/ead/DocumentDecoder$Start"), (7, u "Ljava/nio/charset/Charset;"), (8, u "charset"), (5, u "Ljava/lang/String;"), (20, u "decoder"), (0, u "Ljava/nio/charset/CharsetDecoder;"), (2, u "VERSION_1_1"), (0, u "Ljava/util/regex/Pattern;"), (18, u "version11"), (9, u "places"), (0, u "Lorg/unitspan/ead/BytePlaces;"), (7, u "tags"), (0, u "Lorg/unitspan/ead/PlacedTags;"), (9, u "markup"), (0, u "Lorg/unitspan/ead/DocumentMarkup;"), (7, u "references"), (0, u "Lorg/unitspan/ead/PrologReferences;"), (7, u "declarations"), (0, u "Lorg/unitspan/ead/SubsetDeclarations;"), (2, u "DECLARED_ENCODING"), (120, .class_ 301), (1, u "java/lang/Math"), (16, u "handedOut"), (7, u "refused"), (2, u "flushed"), (4, u "refusedAt"), (0, u "Lorg/unitspan/ead/Place;"), (4, u "lineStart"), (35, u "afterReturn"), (12, u "moreLineEnds"), (9, u "markupLine"), (32, u "longLine"), (2, u "longLineStart"), (2, u "longLineEnd"), (2, u "latest"), (0, u "(IJ)J"), (0, .long 4294967296), (1, .methodref 299 446), (0, .nameAndType 447 448), (0, u "floorMod"), (0, u "(JJ)J"), (49, u "NEXT_LINE"), (0, u "C"), (2, u "LINE_SEPARATOR"), (1, u "FIRST_READ"), (1, u "MARKUP_BOUND"), (0, u "LONG_LINE"), (0, u "INT_VALUES")] 63

def k6c0 : Code := { maxStack := 6, maxLocals := 3, code := prog_48_method_21_code, exceptionTable := #[], attributes := #[] }
def k6m0 : Method := { name := "latest", desc := "(IJ)J", sig := { parameters := [.int, .long], returnType := some .long }, accessFlags := 8, code := some k6c0 }
/-- org/unitspan/ead/DocumentDecoder -/
def k6 : Class := { plain "org/unitspan/ead/DocumentDecoder" (some 5) with
  accessFlags := 48
  interfaces := #[]
  cf := some (fileOf pool6 18 #[.nestMembers #[56]] #[{ accessFlags := 8, nameIndex := 441, descriptorIndex := 442, attributes := #[] }] 48 2 #[] #[{ accessFlags := 26, nameIndex := 178, descriptorIndex := 107, attributes := #[] }, { accessFlags := 26, nameIndex := 106, descriptorIndex := 107, attributes := #[] }, { accessFlags := 26, nameIndex := 498, descriptorIndex := 499, attributes := #[] }, { accessFlags := 26, nameIndex := 502, descriptorIndex := 499, attributes := #[] }, { accessFlags := 26, nameIndex := 504, descriptorIndex := 30, attributes := #[] }, { accessFlags := 26, nameIndex := 506, descriptorIndex := 30, attributes := #[] }, { accessFlags := 26, nameIndex := 507, descriptorIndex := 34, attributes := #[] }, { accessFlags := 26, nameIndex := 508, descriptorIndex := 34, attributes := #[] }, { accessFlags := 18, nameIndex := 37, descriptorIndex := 38, attributes := #[] }, { accessFlags := 18, nameIndex := 75, descriptorIndex := 66, attributes := #[] }, { accessFlags := 18, nameIndex := 102, descriptorIndex := 103, attributes := #[] }, { accessFlags := 18, nameIndex := 21, descriptorIndex := 22, attributes := #[] }, { accessFlags := 2, nameIndex := 44, descriptorIndex := 26, attributes := #[] }, { accessFlags := 2, nameIndex := 329, descriptorIndex := 26, attributes := #[] }, { accessFlags := 2, nameIndex := 25, descriptorIndex := 26, attributes := #[] }, { accessFlags := 2, nameIndex := 326, descriptorIndex := 81, attributes := #[] }, { accessFlags := 2, nameIndex := 334, descriptorIndex := 335, attributes := #[] }, { accessFlags := 2, nameIndex := 376, descriptorIndex := 26, attributes := #[] }, { accessFlags := 18, nameIndex := 126, descriptorIndex := 26, attributes := #[] }, { accessFlags := 2, nameIndex := 389, descriptorIndex := 26, attributes := #[] }, { accessFlags := 2, nameIndex := 29, descriptorIndex := 30, attributes := #[] }, { accessFlags := 2, nameIndex := 318, descriptorIndex := 34, attributes := #[] }, { accessFlags := 2, nameIndex := 33, descriptorIndex := 34, attributes := #[] }, { accessFlags := 2, nameIndex := 340, descriptorIndex := 34, attributes := #[] }, { accessFlags := 2, nameIndex := 432, descriptorIndex := 34, attributes := #[] }, { accessFlags := 2, nameIndex := 435, descriptorIndex := 34, attributes := #[] }, { accessFlags := 2, nameIndex := 438, descriptorIndex := 34, attributes := #[] }, { accessFlags := 18, nameIndex := 41, descriptorIndex := 26, attributes := #[] }, { accessFlags := 18, nameIndex := 136, descriptorIndex := 137, attributes := #[] }, { accessFlags := 18, nameIndex := 145, descriptorIndex := 146, attributes := #[] }, { accessFlags := 18, nameIndex := 156, descriptorIndex := 157, attributes := #[] }, { accessFlags := 2, nameIndex := 399, descriptorIndex := 34, attributes := #[] }, { accessFlags := 18, nameIndex := 165, descriptorIndex := 166, attributes := #[] }, { accessFlags := 18, nameIndex := 174, descriptorIndex := 175, attributes := #[] }])
  fields := #[{ name := "DECLARED_ENCODING", type := (.object "java/util/regex/Pattern"), accessFlags := 26, slot := 0, constantValue := 0 }, { name := "VERSION_1_1", type := (.object "java/util/regex/Pattern"), accessFlags := 26, slot := 1, constantValue := 0 }, { name := "NEXT_LINE", type := .char, accessFlags := 26, slot := 2, constantValue := 0 }, { name := "LINE_SEPARATOR", type := .char, accessFlags := 26, slot := 3, constantValue := 0 }, { name := "FIRST_READ", type := .int, accessFlags := 26, slot := 4, constantValue := 0 }, { name := "MARKUP_BOUND", type := .int, accessFlags := 26, slot := 5, constantValue := 0 }, { name := "LONG_LINE", type := .long, accessFlags := 26, slot := 6, constantValue := 0 }, { name := "INT_VALUES", type := .long, accessFlags := 26, slot := 7, constantValue := 0 }, { name := "in", type := (.object "java/io/InputStream"), accessFlags := 18, slot := 2, constantValue := 0 }, { name := "charset", type := (.object "java/nio/charset/Charset"), accessFlags := 18, slot := 3, constantValue := 0 }, { name := "decoder", type := (.object "java/nio/charset/CharsetDecoder"), accessFlags := 18, slot := 4, constantValue := 0 }, { name := "bytes", type := (.object "java/nio/ByteBuffer"), accessFlags := 18, slot := 5, constantValue := 0 }, { name := "ended", type := .boolean, accessFlags := 2, slot := 6, constantValue := 0 }, { name := "flushed", type := .boolean, accessFlags := 2, slot := 7, constantValue := 0 }, { name := "inProlog", type := .boolean, accessFlags := 2, slot := 8, constantValue := 0 }, { name := "refused", type := (.object "java/lang/String"), accessFlags := 2, slot := 9, constantValue := 0 }, { name := "refusedAt", type := (.object "org/unitspan/ead/Place"), accessFlags := 2, slot := 10, constantValue := 0 }, { name := "afterReturn", type := .boolean, accessFlags := 2, slot := 11, constantValue := 0 }, { name := "version11", type := .boolean, accessFlags := 18, slot := 12, constantValue := 0 }, { name := "moreLineEnds", type := .boolean, accessFlags := 2, slot := 13, constantValue := 0 }, { name := "carried", type := .int, accessFlags := 2, slot := 14, constantValue := 0 }, { name := "handedOut", type := .long, accessFlags := 2, slot := 15, constantValue := 0 }, { name := "line", type := .long, accessFlags := 2, slot := 16, constantValue := 0 }, { name := "lineStart", type := .long, accessFlags := 2, slot := 17, constantValue := 0 }, { name := "longLine", type := .long, accessFlags := 2, slot := 18, constantValue := 0 }, { name := "longLineStart", type := .long, accessFlags := 2, slot := 19, constantValue := 0 }, { name := "longLineEnd", type := .long, accessFlags := 2, slot := 20, constantValue := 0 }, { name := "placing", type := .boolean, accessFlags := 18, slot := 21, constantValue := 0 }, { name := "places", type := (.object "org/unitspan/ead/BytePlaces"), accessFlags := 18, slot := 22, constantValue := 0 }, { name := "tags", type := (.object "org/unitspan/ead/PlacedTags"), accessFlags := 18, slot := 23, constantValue := 0 }, { name := "markup", type := (.object "org/unitspan/ead/DocumentMarkup"), accessFlags := 18, slot := 24, constantValue := 0 }, { name := "markupLine", type := .long, accessFlags := 2, slot := 25, constantValue := 0 }, { name := "references", type := (.object "org/unitspan/ead/PrologReferences"), accessFlags := 18, slot := 26, constantValue := 0 }, { name := "declarations", type := (.object "org/unitspan/ead/SubsetDeclarations"), accessFlags := 18, slot := 27, constantValue := 0 }]
  methods := #[k6m0]
  instanceTypes := #[(.object "java/lang/Object"), (.array .char), (.object "java/io/InputStream"), (.object "java/nio/charset/Charset"), (.object "java/nio/charset/CharsetDecoder"), (.object "java/nio/ByteBuffer"), .boolean, .boolean, .boolean, (.object "java/lang/String"), (.object "org/unitspan/ead/Place"), .boolean, .boolean, .boolean, .int, .long, .long, .long, .long, .long, .long, .boolean, (.object "org/unitspan/ead/BytePlaces"), (.object "org/unitspan/ead/PlacedTags"), (.object "org/unitspan/ead/DocumentMarkup"), .long, (.object "org/unitspan/ead/PrologReferences"), (.object "org/unitspan/ead/SubsetDeclarations")]
  staticTypes := #[(.object "java/util/regex/Pattern"), (.object "java/util/regex/Pattern"), .char, .char, .int, .int, .long, .long]
  resolved := Array.replicate 572 none
  statics := none }

def pool7 : Array CpInfo := pool [(1, .class_ 2), (0, u "java/lang/Math"), (1, .class_ 6), (1, u "java/lang/Object"), (0, u "<init>"), (0, u "()V"), (89, .class_ 100), (1, u "java/lang/Math$RandomNumberGeneratorHolder"), (20, u "(JJ)J"), (26, u "floorMod"), (23, u "negativeZeroFloatBits"), (0, u "J"), (2, u "negativeZeroDoubleBits"), (68, u "$assertionsDisabled"), (0, u "Z"), (91, u "twoToTheDoubleScaleDown"), (0, u "D"), (4, u "twoToTheDoubleScaleUp"), (9, u "E"), (3, u "PI"), (2, u "TAU"), (2, u "DEGREES_TO_RADIANS"), (0, u "RADIANS_TO_DEGREES")] 94

def k7m0 : Method := { name := "<init>", desc := "()V", sig := { parameters := [], returnType := none }, accessFlags := 2, code := none }
def k7c1 : Code := { maxStack := 4, maxLocals := 6, code := jdk_29_method_52_code, exceptionTable := #[], attributes := #[] }
def k7m1 : Method := { name := "floorMod", desc := "(JJ)J", sig := { parameters := [.long, .long], returnType := some .long }, accessFlags := 9, code := some k7c1 }
/-- java/lang/Math -/
def k7 : Class := { plain "java/lang/Math" (some 0) with
  accessFlags := 49
  interfaces := #[]
  cf := some (fileOf pool7 1 #[.nestMembers #[98]] #[{ accessFlags := 2, nameIndex := 7, descriptorIndex := 8, attributes := #[] }, { accessFlags := 9, nameIndex := 148, descriptorIndex := 121, attributes := #[] }] 49 4 #[] #[{ accessFlags := 25, nameIndex := 354, descriptorIndex := 339, attributes := #[] }, { accessFlags := 25, nameIndex := 358, descriptorIndex := 339, attributes := #[] }, { accessFlags := 25, nameIndex := 361, descriptorIndex := 339, attributes := #[] }, { accessFlags := 26, nameIndex := 364, descriptorIndex := 339, attributes := #[] }, { accessFlags := 26, nameIndex := 365, descriptorIndex := 339, attributes := #[] }, { accessFlags := 26, nameIndex := 172, descriptorIndex := 173, attributes := #[] }, { accessFlags := 26, nameIndex := 176, descriptorIndex := 173, attributes := #[] }, { accessFlags := 8, nameIndex := 344, descriptorIndex := 339, attributes := #[] }, { accessFlags := 8, nameIndex := 338, descriptorIndex := 339, attributes := #[] }, { accessFlags := 4120, nameIndex := 245, descriptorIndex := 246, attributes := #[] }])
  fields := #[{ name := "E", type := .double, accessFlags := 25, slot := 0, constantValue := 0 }, { name := "PI", type := .double, accessFlags := 25, slot := 1, constantValue := 0 }, { name := "TAU", type := .double, accessFlags := 25, slot := 2, constantValue := 0 }, { name := "DEGREES_TO_RADIANS", type := .double, accessFlags := 26, slot := 3, constantValue := 0 }, { name := "RADIANS_TO_DEGREES", type := .double, accessFlags := 26, slot := 4, constantValue := 0 }, { name := "negativeZeroFloatBits", type := .long, accessFlags := 26, slot := 5, constantValue := 0 }, { name := "negativeZeroDoubleBits", type := .long, accessFlags := 26, slot := 6, constantValue := 0 }, { name := "twoToTheDoubleScaleUp", type := .double, accessFlags := 8, slot := 7, constantValue := 0 }, { name := "twoToTheDoubleScaleDown", type := .double, accessFlags := 8, slot := 8, constantValue := 0 }, { name := "$assertionsDisabled", type := .boolean, accessFlags := 4120, slot := 9, constantValue := 0 }]
  methods := #[k7m0, k7m1]
  instanceTypes := #[]
  staticTypes := #[.double, .double, .double, .double, .double, .long, .long, .double, .double, .boolean]
  resolved := Array.replicate 460 none
  statics := none }

def pool8 : Array CpInfo := pool [(1, u "java/lang/Cloneable"), (0, .class_ 1), (0, u "java/lang/Object"), (0, .class_ 3)] 3

/-- java/lang/Cloneable -/
def k8 : Class := { plain "java/lang/Cloneable" (some 0) with
  accessFlags := 1537
  interfaces := #[]
  cf := some (fileOf pool8 2 #[] #[] 1537 4 #[] #[])
  fields := #[]
  methods := #[]
  instanceTypes := #[]
  staticTypes := #[]
  resolved := Array.replicate 8 none
  statics := none }

def pool9 : Array CpInfo := pool [(1, u "java/io/Serializable"), (0, .class_ 1), (0, u "java/lang/Object"), (0, .class_ 3)] 3

/-- java/io/Serializable -/
def k9 : Class := { plain "java/io/Serializable" (some 0) with
  accessFlags := 1537
  interfaces := #[]
  cf := some (fileOf pool9 2 #[] #[] 1537 4 #[] #[])
  fields := #[]
  methods := #[]
  instanceTypes := #[]
  staticTypes := #[]
  resolved := Array.replicate 8 none
  statics := none }

/-- the primitive byte -/
def k10 : Class := { plain "byte" none with kind := .primitive 'B', accessFlags := 0x411 }
/-- [B -/
def k11 : Class := { plain "[B" (some 0) with kind := .array 10 .byte, interfaces := #[8, 9], accessFlags := 1041 }

/-- the primitive int -/
def k12 : Class := { plain "int" none with kind := .primitive 'I', accessFlags := 0x411 }
/-- [I -/
def k13 : Class := { plain "[I" (some 0) with kind := .array 12 .int, interfaces := #[8, 9], accessFlags := 1041 }

def heap : Heap := #[]
def classes : Array Class := #[k0, k1, k2, k3, k4, k5, k6, k7, k8, k9, k10, k11, k12, k13]
def interned : List (Array UInt16 × Addr) := []
def slotsUsed : Nat := 0
def theMethod : MethodId := ⟨1, 1⟩
def args0 : Array Value := #[.int 5, .long 7, .int 1]
def aboutOver (below : List Frame) : State where
  vm := { classes := classes, interned := interned.toArray }
  heap := heap
  slotsUsed := slotsUsed
  threads := #[{ frames := .invoking theMethod args0 :: below }]
def below0 : List Frame := [.native { method := ⟨0, 0⟩, args := #[] }]
def about1 : State := aboutOver below0
def p0 : Program := .bare "" "" ""
def e0 : Env := launch0.env 0 0 0
theorem w_frames : about1.frames = Frame.invoking theMethod args0 :: below0 := rfl
set_option maxRecDepth 65536 in
theorem w_args : argsFit about1.vm theMethod args0 = true := by decide +kernel
set_option maxRecDepth 65536 in
theorem w_heap : heapFits about1 = true := by decide +kernel
set_option maxRecDepth 65536 in
theorem w_runnable : about1.curStatus? = some .runnable := by decide +kernel
set_option maxRecDepth 65536 in
theorem w_alone : about1.alone = true := by decide +kernel
set_option maxRecDepth 65536 in
theorem w_named : about1.methodNamed? x = some theMethod := by decide +kernel
set_option maxRecDepth 65536 in
theorem w_hears : about1.hears theMethod below0 = true := by decide +kernel
set_option maxRecDepth 65536 in
theorem w_ripe : about1.ripe theMethod args0 below0 = true := by decide +kernel
theorem w_running : about1.status = .running := rfl
set_option maxRecDepth 65536 in
theorem w_room : about1.hasRoom e0.platform room_1 = true :=
  launch0.hasRoom_least _ room_1 (by decide +kernel) (by decide +kernel) (by decide +kernel) (by decide +kernel) (by decide +kernel) (by decide +kernel)
theorem allAtoms_all (ts : List Jvm.Cond) (a : Array Jvm.Value) (st : Jvm.State) : (allAtoms ts).before a st = ts.all (fun c => c.before a st) := by
  induction ts with
  | nil => rfl
  | cons c t ih =>
    show (Jvm.Cond.and c (allAtoms t)).before a st = _
    rw [Jvm.Cond.before_and, ih, List.all_cons]
def words1 : List Jvm.Cond := Jvm.Cond.code x code maxLocals ret :: tables_1
/-- a 'code' word, met by the world's own term for the bytes: nothing is compared byte by byte -/
theorem code_word {y : MethodName} {bytes : ByteArray} {mx : Nat} {rt : Option FieldType} {a : Array Value} {s : State} {m : MethodId} {meth : Method} {c : Code} (h1 : s.methodNamed? y = some m) (h2 : s.vm.method? m = some meth) (h3 : meth.code = some c) (h4 : c.code = bytes)
    (h5 : (c.maxLocals == mx && c.exceptionTable.isEmpty && decide (c.maxStack ≤ mostOperands) && decide (meth.sig.returnType = rt) && !meth.locks && decide (parseMethodDescriptor y.desc = some meth.sig)) = true) : (Jvm.Cond.code y bytes mx rt).before a s = true := by
  simp only [Bool.and_eq_true, beq_iff_eq, Bool.not_eq_true', decide_eq_true_eq] at h5
  obtain ⟨⟨⟨⟨⟨g1, g2⟩, g3⟩, g4⟩, g5⟩, g6⟩ := h5
  simp [Cond.before, Cond.holds, Cond.value, h1, h2, h3, h4, g1, g2, g3, g4, g5, g6]
def isCode : Jvm.Cond → Bool
  | .code _ _ _ _ => true
  | _ => false
theorem all_split {L : List Jvm.Cond} {P : Jvm.Cond → Bool} (h1 : L.all (fun c => isCode c || P c) = true) (h2 : ∀ c ∈ L.filter isCode, P c = true) : L.all P = true := by
  refine List.all_eq_true.mpr fun c hc => ?_
  have h := List.all_eq_true.mp h1 c hc
  rcases Bool.eq_false_or_eq_true (isCode c) with hi | hi
  · exact h2 c (List.mem_filter.mpr ⟨hc, hi⟩)
  · simpa [hi] using h
set_option maxRecDepth 65536 in
theorem w_c0 : (Jvm.Cond.code x code maxLocals ret).before args0 about1 = true := code_word (m := ⟨1, 1⟩) (meth := k1m1) (c := k1c1) (by decide +kernel) rfl rfl rfl (by decide +kernel)
set_option maxRecDepth 65536 in
theorem w_c1 : (Jvm.Cond.code ({ cls := "org/unitspan/ead/DocumentDecoder", name := "latest", desc := "(IJ)J" } : Jvm.MethodName) prog_48_method_21_code (3 : Nat) (Option.some Jvm.ClassFile.FieldType.long)).before args0 about1 = true := code_word (m := ⟨6, 0⟩) (meth := k6m0) (c := k6c0) (by decide +kernel) rfl rfl rfl (by decide +kernel)
set_option maxRecDepth 65536 in
theorem w_c2 : (Jvm.Cond.code ({ cls := "java/lang/Math", name := "floorMod", desc := "(JJ)J" } : Jvm.MethodName) jdk_29_method_52_code (6 : Nat) (Option.some Jvm.ClassFile.FieldType.long)).before args0 about1 = true := code_word (m := ⟨7, 1⟩) (meth := k7m1) (c := k7c1) (by decide +kernel) rfl rfl rfl (by decide +kernel)
def codes1 : List Jvm.Cond := [Jvm.Cond.code x code maxLocals ret, Jvm.Cond.code ({ cls := "org/unitspan/ead/DocumentDecoder", name := "latest", desc := "(IJ)J" } : Jvm.MethodName) prog_48_method_21_code (3 : Nat) (Option.some Jvm.ClassFile.FieldType.long), Jvm.Cond.code ({ cls := "java/lang/Math", name := "floorMod", desc := "(JJ)J" } : Jvm.MethodName) jdk_29_method_52_code (6 : Nat) (Option.some Jvm.ClassFile.FieldType.long)]
set_option maxRecDepth 65536 in
theorem codes_eq : words1.filter isCode = codes1 := rfl
theorem w_codes : ∀ c ∈ words1.filter isCode, c.before args0 about1 = true := by
  rw [codes_eq]
  intro c hc
  simp only [codes1, List.mem_cons, List.not_mem_nil, or_false] at hc
  rcases hc with rfl | rfl | rfl
  · exact w_c0
  · exact w_c1
  · exact w_c2
set_option maxRecDepth 65536 in
theorem w_t1 : words1.all (fun c => isCode c || c.before args0 about1) = true := by decide +kernel
theorem w_tables : (allAtoms (Jvm.Cond.code x code maxLocals ret :: tables_1)).before args0 about1 = true := by
  rw [allAtoms_all]
  show words1.all (fun c => c.before args0 about1) = true
  refine all_split ?_ w_codes
  rw [w_t1]
set_option maxRecDepth 65536 in
theorem w_case : (Jvm.Cond.and given_1 narrow_1).before args0 about1 = true := by decide +kernel
theorem w_applies : (headSpec (Jvm.Cond.code x code maxLocals ret :: tables_1) room_1).applies x e0.platform about1 = true :=
  (Spec.applies_iff w_frames).mpr ⟨w_running, w_runnable, w_alone, w_named, w_hears, w_ripe, w_room, w_tables⟩
theorem atStart : AtStart classFile x code maxLocals ret World_1 tables_1 room_1 Calls_1 rest_1 Pre_1 launch0 p0 e0 about1 theMethod args0 below0 :=
  ⟨lists_1, trivial, launch0.admits_env _ _ _, launch0.least_env, fairChoices_fair.cas, fairChoices_fair.clock, w_frames, w_args, w_heap, w_applies, trivial, trivial, w_case⟩
end start1
theorem witness_1 : WitnessClaimed_1 := ⟨start1.p0, start1.e0, start1.about1, start1.theMethod, start1.args0, start1.below0, start1.atStart⟩
end Jvm.Pilot.@@N@@
